import JvmDerived
import JvmDerived.Pilot.@@N@@Statement
import JvmDerived.Pilot.@@N@@Code
set_option linter.unusedVariables false
set_option linter.unusedSimpArgs false
open Jvm
namespace OwnB
open Jvm.FP.Core
def one : UInt64 := 4607182418800017408
def al (n : Nat) : UInt64 := FP.ddiv (FP.l2d (Int64.ofNat (n + 1))) 4652222813120233472
def chk (n : Nat) : Bool :=
  (fun x => (fun b => (fun y => (fun z => FP.dmul x one == x && FP.dadd x 0 == x && z == 0 && FP.dmul x 0 == 0 && decide (x < one) && decide (y ≤ one) && decide (0 < b) && decide (b < x)) (FP.dmul y 0)) (FP.dsub one x)) (FP.ddiv x 4611686018427387904)) (al n)
theorem chk_all : (List.range 1024).all chk = true := by decide +kernel
/-- what is asked of alpha and of its half -/
def Fa (x : UInt64) : Prop := FP.dmul x one = x ∧ FP.dadd x 0 = x ∧ FP.dmul (FP.dsub one x) 0 = 0 ∧ FP.dmul x 0 = 0 ∧ x < one ∧ FP.dsub one x ≤ one ∧ 0 < FP.ddiv x 4611686018427387904 ∧ FP.ddiv x 4611686018427387904 < x
theorem al_fa {n : Nat} (h : n < 1024) : Fa (al n) := by
  have q := List.all_eq_true.mp chk_all n (List.mem_range.mpr h)
  simp only [chk, Bool.and_eq_true, beq_iff_eq, decide_eq_true_eq] at q
  obtain ⟨⟨⟨⟨⟨⟨⟨q1, q2⟩, q3⟩, q4⟩, q5⟩, q6⟩, q7⟩, q8⟩ := q
  exact ⟨q1, q2, q3, q4, q5, q6, q7, q8⟩
theorem al_eq (p : Int32) : Fa (FP.ddiv (FP.l2d ((p &&& 1023) + 1).toInt64) 4652222813120233472) := by
  have h := Jvm.RoadKit.c_and p 1023 (by decide)
  have k : (1023 : Int32).toInt = 1023 := by decide
  have e : ((p &&& 1023) + 1).toInt64 = Int64.ofNat ((p &&& 1023).toInt.toNat + 1) := by
    apply Int64.toInt.inj
    have e1 := Jvm.RoadKit.c_iadd (p &&& 1023) 1
    have k1 : (1 : Int32).toInt = 1 := by decide
    have r1 := Jvm.RoadKit.rng32 ((p &&& 1023) + 1)
    have e2 := Jvm.RoadKit.c_i2l ((p &&& 1023) + 1)
    rw [e2, Int64.toInt_ofNat_of_lt (by omega)]
    omega
  rw [e]
  exact al_fa (by omega)
theorem nnB {x : UInt64} (h : x ≤ one) : Jvm.Free.Fl.NoNaN64 x := by
  rw [Jvm.Free.Fl.noNaN64_iff]
  have h := UInt64.le_iff_toNat_le.mp h
  have k : one.toNat = 4607182418800017408 := by decide
  omega
theorem cmpB {x y : UInt64} (hx : x ≤ one) (hy : y ≤ one) : FP.dcmp x y = some (compare (x.toNat : Int) (y.toNat : Int)) := by
  have k : one.toNat = 4607182418800017408 := by decide
  have h1 := UInt64.le_iff_toNat_le.mp hx
  have h2 := UInt64.le_iff_toNat_le.mp hy
  have e : ∀ z : UInt64, z.toNat ≤ one.toNat → dkey z = z.toNat := by
    intro z hz; unfold dkey; rw [if_neg (by omega)]
  show dcmp x y = _
  rw [dcmp_key (Jvm.Free.Fl.val64_no.mp (nnB hx)) (Jvm.Free.Fl.val64_no.mp (nnB hy)), e x h1, e y h2]
theorem cmp_lt {x y : UInt64} (hy : y ≤ one) (h : x < y) : FP.dcmp x y = some .lt := by
  have h' := UInt64.lt_iff_toNat_lt.mp h
  have k : one.toNat = 4607182418800017408 := by decide
  have h2 := UInt64.le_iff_toNat_le.mp hy
  rw [cmpB (UInt64.le_iff_toNat_le.mpr (by omega)) hy, Option.some.injEq]
  exact (compare_lt_iff _ _).mpr (by omega)
theorem cmp_gt {x y : UInt64} (hy : y ≤ one) (h : x < y) : FP.dcmp y x = some .gt := by
  have h' := UInt64.lt_iff_toNat_lt.mp h
  have k : one.toNat = 4607182418800017408 := by decide
  have h2 := UInt64.le_iff_toNat_le.mp hy
  rw [cmpB hy (UInt64.le_iff_toNat_le.mpr (by omega)), Option.some.injEq]
  exact (compare_gt_iff _ _).mpr (by omega)
theorem j11 : FP.ddiv (FP.l2d (1 : Int32).toInt64) (FP.l2d (1 : Int32).toInt64) = one := by decide +kernel
theorem j01 : FP.ddiv (FP.l2d (0 : Int32).toInt64) (FP.l2d (1 : Int32).toInt64) = 0 := by decide +kernel
theorem nn0 : Jvm.Free.Fl.NoNaN64 0 := by unfold Jvm.Free.Fl.NoNaN64; decide
theorem fa_nn {x : UInt64} (F : Fa x) : Jvm.Free.Fl.NoNaN64 x := nnB (UInt64.le_of_lt F.2.2.2.2.1)
theorem fa_u1 {x : UInt64} (F : Fa x) : Jvm.Free.Fl.NoNaN64 (FP.dmul x 4607182418800017408) := (show FP.dmul x 4607182418800017408 = x from F.1).symm ▸ fa_nn F
theorem fa_u1z {x : UInt64} (F : Fa x) : Jvm.Free.Fl.NoNaN64 (FP.dmul x 0) := F.2.2.2.1.symm ▸ nn0
theorem fa_u2 {x : UInt64} (F : Fa x) : Jvm.Free.Fl.NoNaN64 (FP.dsub 4607182418800017408 x) := nnB F.2.2.2.2.2.1
theorem fa_z {x : UInt64} (F : Fa x) : FP.dmul (FP.dsub 4607182418800017408 x) 0 = 0 := F.2.2.1
theorem fa_u3 {x : UInt64} (F : Fa x) : Jvm.Free.Fl.NoNaN64 (FP.dmul (FP.dsub 4607182418800017408 x) 0) := (fa_z F).symm ▸ nn0
theorem fa_s1 {x : UInt64} (F : Fa x) : x = FP.dadd (FP.dmul x 4607182418800017408) (FP.dmul (FP.dsub 4607182418800017408 x) 0) := by
  rw [fa_z F, show FP.dmul x 4607182418800017408 = x from F.1, F.2.1]
theorem fa_s0 {x : UInt64} (F : Fa x) : 0 = FP.dadd (FP.dmul x 0) (FP.dmul (FP.dsub 4607182418800017408 x) 0) := by
  rw [fa_z F, F.2.2.2.1]; decide +kernel
theorem fa_u4 {x : UInt64} (F : Fa x) : Jvm.Free.Fl.NoNaN64 (FP.dadd (FP.dmul x 4607182418800017408) (FP.dmul (FP.dsub 4607182418800017408 x) 0)) := (fa_s1 F) ▸ fa_nn F
theorem fa_u4z {x : UInt64} (F : Fa x) : Jvm.Free.Fl.NoNaN64 (FP.dadd (FP.dmul x 0) (FP.dmul (FP.dsub 4607182418800017408 x) 0)) := (fa_s0 F) ▸ nn0
theorem gt_ninf {x : UInt64} (h : x ≤ one) : FP.dcmp x 18442240474082181120 = some .gt := by
  have k : one.toNat = 4607182418800017408 := by decide
  have h1 := UInt64.le_iff_toNat_le.mp h
  show dcmp x _ = _
  rw [dcmp_key (Jvm.Free.Fl.val64_no.mp (nnB h)) (by decide +kernel), Option.some.injEq]
  have e1 : dkey x = x.toNat := by unfold dkey; rw [if_neg (by omega)]
  have e2 : dkey 18442240474082181120 = -9218868437227405312 := by decide +kernel
  rw [e1, e2]
  exact (compare_gt_iff _ _).mpr (by omega)
end OwnB
namespace Jvm.Pilot.@@N@@
open Jvm Jvm.ClassFile Sem Op Lib Jvm.Free Jvm.Stand Jvm.LawKit Jvm.RoadKit Bundle Jvm.Pilot.@@N@@.Jvm.D
section Own
variable {p : Program} {l : Launch} {e : Env} {R : Room} {s : State} {m : MethodId} {args : Array Value} {below : List Frame} {meth : Method} {c : Code} {T : State} {locs : List Loc} {cells slots : Nat} {Z : State} {a0 : Array Value} {h : Heap}
theorem wd (hw : ∀ d ∈ tables_1, d.before a0 Z = true) (k : Nat) {d : Jvm.Cond} (q : tables_1[k]? = some d) : d.before a0 Z = true := hw d (List.mem_of_getElem? q)
theorem old_sz {n0 : Nat} (O : Old Z n0 h) : n0 ≤ h.size := O.1 ▸ O.2.1
/-- what is left to show from the state t on -/
def Run (p : Program) (e : Env) (below : List Frame) (A : Outcome → State → Prop) (t : State) : Prop := ∃ u o, Steps p.tables e below t u ∧ u.status = .running ∧ Ended u below o ∧ A o u
theorem go {A : Outcome → State → Prop} {t t' : State} (st : ∀ u, Steps p.tables e below t' u → Steps p.tables e below t u) (k : Run p e below A t') : Run p e below A t := by
  obtain ⟨u, o, k1, k2⟩ := k
  exact ⟨u, o, st u k1, k2⟩
theorem goT {A : Outcome → State → Prop} {t t' : State} (st : Steps p.tables e below t t') (k : Run p e below A t') : Run p e below A t := by
  obtain ⟨u, o, k1, k2⟩ := k
  exact ⟨u, o, st.trans k1, k2⟩
theorem goTsw {A : Outcome → State → Prop} (h : At T m c below) (hx : p.tables.exec = Jvm.exec) {pc pc' len : Nat} {Ls : Array Slot} {rest : List Value} {i : Int32} {dflt low high o : Int} {offs : Array Int} (hd : decode c.code pc = .ok (.tableswitch dflt low high offs, len)) (hin : ¬ (i.toInt < low ∨ i.toInt > high)) (hoff : offs[(i.toInt - low).toNat]? = some o) (ho : 0 ≤ (pc : Int) + o) (hp : ((pc : Int) + o).toNat = pc')
    (k : Run p e below A (T.setTop (mkF m pc' Ls rest))) : Run p e below A (T.setTop (mkF m pc Ls (.int i :: rest))) := go (fun _ => XS.tswIn (g := mkF m pc Ls (.int i :: rest)) h hx rfl (pc0 := pc) rfl hd rfl hin hoff ho hp) k
theorem goTswD {A : Outcome → State → Prop} (h : At T m c below) (hx : p.tables.exec = Jvm.exec) {pc pc' len : Nat} {Ls : Array Slot} {rest : List Value} {i : Int32} {dflt low high : Int} {offs : Array Int} (hd : decode c.code pc = .ok (.tableswitch dflt low high offs, len)) (hout : i.toInt < low ∨ i.toInt > high) (ho : 0 ≤ (pc : Int) + dflt) (hp : ((pc : Int) + dflt).toNat = pc')
    (k : Run p e below A (T.setTop (mkF m pc' Ls rest))) : Run p e below A (T.setTop (mkF m pc Ls (.int i :: rest))) := go (fun _ => XS.tswOut (g := mkF m pc Ls (.int i :: rest)) h hx rfl (pc0 := pc) rfl hd rfl hout ho hp) k
def Ends (s : State) (Q : Option Value → Heap → List Loc → Prop) (k n : Nat) (o : Outcome) (U : State) : Prop := ∃ v L, o = .returned v ∧ Q v U.heap L ∧ FrameEnd s o U L k n
def Meets (l : Launch) (y : MethodName) (bytes : ByteArray) (maxL : Nat) (ret : Option FieldType) (ws : List Jvm.Cond) (rm : Room) (Z : State) (as' : Array Value) (h0 : Heap) (Q : Option Value → Heap → List Loc → Prop) (k n : Nat) : Prop :=
  MetFree l y (head1 (Jvm.Cond.code y bytes maxL ret :: ws) rm) (fun a U => a = as' ∧ Z.Warmed39 U.vm ∧ U.heap = h0) (fun _ _ _ _ _ => True) (fun _ U o U' => ∃ v L, o = .returned v ∧ Q v U'.heap L ∧ FrameEnd U o U' L k n)
theorem enter {y : MethodName} {bytes : ByteArray} {maxL : Nat} {ret : Option FieldType} {ws : List Jvm.Cond} {rm : Room} {as' : Array Value} {h0 : Heap} {Q : Option Value → Heap → List Loc → Prop} {k n : Nat} {Ls : Array Slot} (pf : plainFor y = true) (ef : ∀ m, entryFrame m as' maxL = mkF m 0 Ls [])
    (body : ∀ (p : Program) (e : Env) (s : State) (m : MethodId) (below : List Frame) (meth : Method) (c : Code) (T : State), p.tables.exec = Jvm.exec → c.code = bytes → c.maxLocals = maxL → s.vm.findClass y.cls = some m.cls → meth.name = y.name → meth.sig.returnType = ret → meth.locks = false → Z.Warmed39 s.vm → Stand p l e rm s m as' below meth c T [] 0 0 → T.heap = h0 → Run p e below (Ends s Q k n) (T.setTop (mkF m 0 Ls []))) :
    Meets l y bytes maxL ret ws rm Z as' h0 Q k n := by
  refine MetFree.of_bodySF pf hisR ?_
  intro p e s m args below meth c s₁ Bd hml0 hP hK
  obtain ⟨rfl, hZ, hh⟩ := hP
  obtain ⟨u, o, k1, k2, k3, k4⟩ := body p e s m below meth c s₁ Bd.exec Bd.bytes hml0 (findClass_of_methodNamed Bd.named) (name_of_methodNamed Bd.named Bd.method).1 Bd.returns (BodyLoose.notSynchronized Bd) hZ (Stand.of_body Bd) (by rw [← hh, Bd.state]; rfl)
  exact ⟨u, o, castTop (ef m) k1, k2, k3, k4⟩
theorem smono (X : Stand p l e R s m args below meth c T locs cells slots) {k n : Nat} (hk : cells ≤ k) (hn : slots ≤ n) : Stand p l e R s m args below meth c T locs k n :=
  ⟨X.admits, X.cas, X.clock, X.frames, X.room, X.hears, X.method, X.code, X.here, X.tail, X.warmed, X.limits, X.bytes, X.same.mono hk hn⟩
theorem retI (X : Stand p l e R s m args below meth c T locs cells slots) (hx : p.tables.exec = Jvm.exec) {pc : Nat} {Ls : Array Slot} {z : Int32} {rest : List Value} (hret : meth.sig.returnType = some .int) (hd : decode c.code pc = .ok (.ireturn, 1)) {fs : List Frame}
    (hl : ∀ (f : JFrame) (acts : List Action), f.method = m → f.locked = none → f.entered = [] → (doReturn e (T.setTop f) acts (some (.int z))).1 = T.setFrames fs) : Steps p.tables e below (T.setTop (mkF m pc Ls (.int z :: rest))) (T.setFrames fs) :=
  retOut X hx hret rfl (Or.inl ⟨rfl, Or.inl rfl, _, rfl⟩) hd hl
theorem endI (X : Stand p l e R s m args below meth c T locs cells slots) (hx : p.tables.exec = Jvm.exec) (hlk : meth.locks = false) {Q : Option Value → Heap → List Loc → Prop} {k n pc : Nat} {Ls : Array Slot} {z : Int32} {rest : List Value} (hret : meth.sig.returnType = some .int) (hd : decode c.code pc = .ok (.ireturn, 1)) (hq : Q (some (.int z)) T.heap locs) (hk : cells ≤ k) (hn : slots ≤ n) :
    Run p e below (Ends s Q k n) (T.setTop (mkF m pc Ls (.int z :: rest))) := by
  obtain ⟨fs, hr, hrun, hended, hW, hsame⟩ := X.leave (v := some (.int z)) (fun h => by rw [hret] at h; cases h) hlk
  exact ⟨_, _, retI X hx hret hd hr, hrun, hended, _, _, rfl, hq, ⟨_, rfl⟩, hW, hsame.mono hk hn⟩
theorem endN (X : Stand p l e R s m args below meth c T locs cells slots) (hx : p.tables.exec = Jvm.exec) (hlk : meth.locks = false) {Q : Option Value → Heap → List Loc → Prop} {k n pc : Nat} {Ls : Array Slot} {z : Int32} {rest : List Value} {t : FieldType} (hret : meth.sig.returnType = some t) (ht : t = .boolean ∨ t = .byte ∨ t = .char ∨ t = .short) (hd : decode c.code pc = .ok (.ireturn, 1)) (hq : Q (some (.int (nar t z))) T.heap locs) (hk : cells ≤ k) (hn : slots ≤ n) :
    Run p e below (Ends s Q k n) (T.setTop (mkF m pc Ls (.int z :: rest))) := by
  obtain ⟨fs, hr, hrun, hended, hW, hsame⟩ := X.leave (v := some (.int (nar t z))) (fun h => by rw [hret] at h; cases h) hlk
  exact ⟨_, _, retN X hx hret ht hd hr, hrun, hended, _, _, rfl, hq, ⟨_, rfl⟩, hW, hsame.mono hk hn⟩
theorem endA (X : Stand p l e R s m args below meth c T locs cells slots) (hx : p.tables.exec = Jvm.exec) (hlk : meth.locks = false) {Q : Option Value → Heap → List Loc → Prop} {k n pc : Nat} {Ls : Array Slot} {w : Value} {rest : List Value} {t : FieldType} (hret : meth.sig.returnType = some t) (ht : t.isReference = true) (hv : w.isRef = true) (hd : decode c.code pc = .ok (.areturn, 1)) (hq : Q (some w) T.heap locs) (hk : cells ≤ k) (hn : slots ≤ n) :
    Run p e below (Ends s Q k n) (T.setTop (mkF m pc Ls (w :: rest))) := by
  obtain ⟨fs, hr, hrun, hended, hW, hsame⟩ := X.leave (v := some w) (fun h => by rw [hret] at h; cases h) hlk
  have hn' : narrow t w = w := by cases w <;> first | (cases hv; done) | (cases t <;> first | rfl | (cases ht; done))
  exact ⟨_, _, retOut X hx hret hn' (Or.inr (Or.inr (Or.inr (Or.inr ⟨rfl, ht, hv⟩)))) hd hr, hrun, hended, _, _, rfl, hq, ⟨_, rfl⟩, hW, hsame.mono hk hn⟩
theorem endJ (X : Stand p l e R s m args below meth c T locs cells slots) (hx : p.tables.exec = Jvm.exec) (hlk : meth.locks = false) {Q : Option Value → Heap → List Loc → Prop} {k n pc : Nat} {Ls : Array Slot} {z : Int64} {rest : List Value} (hret : meth.sig.returnType = some .long) (hd : decode c.code pc = .ok (.lreturn, 1)) (hq : Q (some (.long z)) T.heap locs) (hk : cells ≤ k) (hn : slots ≤ n) :
    Run p e below (Ends s Q k n) (T.setTop (mkF m pc Ls (.long z :: rest))) := by
  obtain ⟨fs, hr, hrun, hended, hW, hsame⟩ := X.leave (v := some (.long z)) (fun h => by rw [hret] at h; cases h) hlk
  exact ⟨_, _, retOut X hx hret rfl (Or.inr (Or.inl ⟨rfl, rfl, _, rfl⟩)) hd hr, hrun, hended, _, _, rfl, hq, ⟨_, rfl⟩, hW, hsame.mono hk hn⟩
theorem endD (X : Stand p l e R s m args below meth c T locs cells slots) (hx : p.tables.exec = Jvm.exec) (hlk : meth.locks = false) {Q : Option Value → Heap → List Loc → Prop} {k n pc : Nat} {Ls : Array Slot} {z : UInt64} {rest : List Value} (hret : meth.sig.returnType = some .double) (hd : decode c.code pc = .ok (.dreturn, 1)) (hq : Q (some (.double z)) T.heap locs) (hk : cells ≤ k) (hn : slots ≤ n) :
    Run p e below (Ends s Q k n) (T.setTop (mkF m pc Ls (.double z :: rest))) := by
  obtain ⟨fs, hr, hrun, hended, hW, hsame⟩ := X.leave (v := some (.double z)) (fun h => by rw [hret] at h; cases h) hlk
  exact ⟨_, _, retOut X hx hret rfl (Or.inr (Or.inr (Or.inl ⟨rfl, rfl, _, rfl⟩))) hd hr, hrun, hended, _, _, rfl, hq, ⟨_, rfl⟩, hW, hsame.mono hk hn⟩
theorem endV (X : Stand p l e R s m args below meth c T locs cells slots) (hx : p.tables.exec = Jvm.exec) (hlk : meth.locks = false) {Q : Option Value → Heap → List Loc → Prop} {k n pc : Nat} {Ls : Array Slot} (hret : meth.sig.returnType = none) (hd : decode c.code pc = .ok (.return_, 1)) (hq : Q none T.heap locs) (hk : cells ≤ k) (hn : slots ≤ n) :
    Run p e below (Ends s Q k n) (T.setTop (mkF m pc Ls [])) := by
  obtain ⟨fs, hr, hrun, hended, hW, hsame⟩ := X.leave (v := none) (fun _ => rfl) hlk
  exact ⟨_, _, X.returnOut hx hret hd hr, hrun, hended, _, _, rfl, hq, ⟨_, rfl⟩, hW, hsame.mono hk hn⟩
abbrev Pay (l : Launch) (R : Room) (p : Program) (e : Env) (below : List Frame) (s : State) (args : Array Value) (y : MethodName) (len W : Nat) (as' : Array Value) (h : Heap) (Q : Option Value → Heap → List Loc → Prop) (rc rs : Nat) : Prop :=
  Back l R p e below s args y len W (fun A a => a = as' ∧ A.U.heap = h ∧ A.cells + rc ≤ R.cells ∧ A.slots + rs ≤ R.slots) (fun A _ v B => ∃ L, Q v B.U.heap L ∧ B.locs = A.locs ++ L ∧ B.cells = A.cells + rc ∧ B.slots = A.slots + rs)
theorem Pay.more {y : MethodName} {len W rc rs rs' : Nat} {as' : Array Value} {Q : Option Value → Heap → List Loc → Prop} (hK : Pay l R p e below s args y len W as' h Q rc rs) (q : rs ≤ rs') : Pay l R p e below s args y len W as' h Q rc rs' := fun m meth c A g ig mk a X hg hsz hd hW hn hp => by
  obtain ⟨v, B, X', ⟨L, q1, q2, q3, q4⟩, st⟩ := hK m meth c A g ig mk a X hg hsz hd hW hn ⟨hp.1, hp.2.1, hp.2.2.1, Nat.le_trans (Nat.add_le_add_left q _) hp.2.2.2⟩
  exact ⟨v, (B.U, B.locs, B.cells, A.slots + rs'), smono X' (Nat.le_refl _) (by rw [q4]; exact Nat.add_le_add_left q _), ⟨L, q1, q2, q3, rfl⟩, st⟩
theorem narR {v : Value} {C : String} (h : v.isRef = true) : narrow (.object C) v = v := by cases v <;> first | rfl | (cases h; done)
theorem catR {v : Value} (h : v.isRef = true) : v.category = 1 := by cases v <;> first | rfl | (cases h; done)
theorem fitR {v : Value} {C : String} (h : v.isRef = true) : fits (.object C) v = true := by cases v <;> first | rfl | (cases h; done)
theorem callSt (X : Stand p l e R s m args below meth c T locs cells slots) (hx : p.tables.exec = Jvm.exec) (hZ : Z.Warmed39 s.vm) {own : String} {index : Nat} {y : MethodName} {bytes : ByteArray} {maxL : Nat} {ret : Option FieldType} {rm : Room} {Q : Option Value → Heap → List Loc → Prop} (hown : s.vm.findClass own = some m.cls)
    (w1 : (Jvm.Cond.methodLink own index y).before a0 Z = true) (w2 : (Jvm.Cond.static y).before a0 Z = true) (w3 : (Jvm.Cond.initialized y.cls).before a0 Z = true) (w4 : (Jvm.Cond.code y bytes maxL ret).before a0 Z = true) (hy : y.cls ≠ "java/lang/invoke/MethodHandle" ∧ y.cls ≠ "java/lang/invoke/VarHandle") (eT : T.heap = h) {argsL rest : List Value}
    (hM : Meets l y bytes maxL ret [] rm Z argsL.toArray h Q rm.cells rm.slots) {W : Nat} (hf : rm.frames + 1 ≤ R.frames) (hl : W + (maxL + 11) + rm.locals ≤ R.locals) (hc : cells + rm.cells ≤ R.cells) (hn : slots + rm.slots ≤ R.slots)
    {pc : Nat} {Ls : Array Slot} {st : List Value} (hsize : Ls.size = c.maxLocals) (hlen : ∀ sig, parseMethodDescriptor y.desc = some sig → argsL.length = sig.parameters.length) (hst : st = argsL.reverse ++ rest) (hW : (rest.map fun v => v.category).sum ≤ W) (hd : decode c.code pc = .ok (.invokestatic index, 3)) {A : Outcome → State → Prop}
    (kk : ∀ (v : Option Value) (T' : State) (L : List Loc) (h' : Heap), Stand p l e R s m args below meth c T' (locs ++ L) (cells + rm.cells) (slots + rm.slots) → T'.heap = h' → Q v h' L → Run p e below A (T'.setTop (mkF m (pc + 3) Ls (v.toList ++ rest)))) : Run p e below A (T.setTop (mkF m pc Ls st)) := by
  obtain ⟨v, _, ⟨T18, L18, k18, n18⟩, -, X18, ⟨Lc18, hQ18, l18, y18, z18⟩, st18⟩ := Jvm.LawKit.callS X hx hown (mvT hZ w1) (mvT hZ w2) (mvT hZ w3) (mvT hZ w4) hy (backOf (W := W) hM hZ w4 w3 hf hl) (g := mkF m pc Ls st) rfl hsize (argsL := argsL) (rest := rest) hlen hst (by show 2 * 0 + _ ≤ _; omega) hd (fun _ _ => ⟨rfl, eT, hc, hn⟩)
  dsimp only [Pt.U, Pt.locs, Pt.cells, Pt.slots] at X18 l18 y18 z18 st18 hQ18
  subst l18 y18 z18
  exact go st18 (kk v _ _ _ X18 rfl hQ18)
theorem callVi (X : Stand p l e R s m args below meth c T locs cells slots) (hx : p.tables.exec = Jvm.exec) (hZ : Z.Warmed39 s.vm) {own C : String} {index : Nat} {y z : MethodName} {bytes : ByteArray} {maxL : Nat} {ret : Option FieldType} {rm : Room} {Q : Option Value → Heap → List Loc → Prop} (hown : s.vm.findClass own = some m.cls)
    (w1 : (Jvm.Cond.methodLink own index y).before a0 Z = true) (w2 : (Jvm.Cond.declares y).before a0 Z = true) (nf : NotFace s y) (w5 : (Jvm.Cond.selects C y z).before a0 Z = true) (w6 : (Jvm.Cond.instanceMethod z).before a0 Z = true) (w4 : (Jvm.Cond.code z bytes maxL ret).before a0 Z = true) (w3 : (Jvm.Cond.initialized z.cls).before a0 Z = true) (hy : y.cls ≠ "java/lang/invoke/MethodHandle" ∧ y.cls ≠ "java/lang/invoke/VarHandle") (eT : T.heap = h) {a : Addr} (E : Exa Z h a C) {argsL rest : List Value}
    (hM : Meets l z bytes maxL ret [] rm Z (.ref a :: argsL).toArray h Q rm.cells rm.slots) {W : Nat} (hf : rm.frames + 1 ≤ R.frames) (hl : W + (maxL + 11) + rm.locals ≤ R.locals) (hc : cells + rm.cells ≤ R.cells) (hn : slots + rm.slots ≤ R.slots)
    {pc : Nat} {Ls : Array Slot} {st : List Value} (hsize : Ls.size = c.maxLocals) (hlen : ∀ sig, parseMethodDescriptor y.desc = some sig → argsL.length = sig.parameters.length) (hst : st = argsL.reverse ++ .ref a :: rest) (hW : (rest.map fun v => v.category).sum ≤ W) (hd : decode c.code pc = .ok (.invokevirtual index, 3)) {A : Outcome → State → Prop}
    (kk : ∀ (v : Option Value) (T' : State) (L : List Loc) (h' : Heap), Stand p l e R s m args below meth c T' (locs ++ L) (cells + rm.cells) (slots + rm.slots) → T'.heap = h' → Q v h' L → Run p e below A (T'.setTop (mkF m (pc + 3) Ls (v.toList ++ rest)))) : Run p e below A (T.setTop (mkF m pc Ls st)) := by
  obtain ⟨cq, kq, qa, qb, qc⟩ := isOf hZ eT E
  obtain ⟨v, _, ⟨T18, L18, k18, n18⟩, -, X18, ⟨Lc18, hQ18, l18, y18, z18⟩, st18⟩ := X.virtualBack hx (y := y) (z := z) hown (mvT hZ w1) (mvT hZ w2) nf (mvT hZ w5) (mvT hZ w6) hy (backOf (W := W) hM hZ w4 w3 hf hl) qa qc (g := mkF m pc Ls st) rfl hsize (Steps.refl _) (argsL := argsL) (rest := rest) hlen hst (by show 2 * 0 + _ ≤ _; omega) hd (fun _ _ => ⟨rfl, eT, hc, hn⟩)
  dsimp only [Pt.U, Pt.locs, Pt.cells, Pt.slots] at X18 l18 y18 z18 st18 hQ18
  subst l18 y18 z18
  exact goT st18 (kk v _ _ _ X18 rfl hQ18)
theorem callSp (X : Stand p l e R s m args below meth c T locs cells slots) (hx : p.tables.exec = Jvm.exec) (hZ : Z.Warmed39 s.vm) {own : String} {index : Nat} {y : MethodName} (hy1 : y.name = "<init>") {bytes : ByteArray} {maxL : Nat} {rm : Room} {Q : Option Value → Heap → List Loc → Prop} (hown : s.vm.findClass own = some m.cls)
    (w1 : (Jvm.Cond.methodLink own index y).before a0 Z = true) (w6 : (Jvm.Cond.instanceMethod y).before a0 Z = true) (w4 : (Jvm.Cond.code y bytes maxL none).before a0 Z = true) (w3 : (Jvm.Cond.initialized y.cls).before a0 Z = true) (hy : y.cls ≠ "java/lang/invoke/MethodHandle" ∧ y.cls ≠ "java/lang/invoke/VarHandle") (eT : T.heap = h) {a : Addr} {argsL rest : List Value}
    (hM : Meets l y bytes maxL none [] rm Z (.ref a :: argsL).toArray h Q rm.cells rm.slots) {W : Nat} (hf : rm.frames + 1 ≤ R.frames) (hl : W + (maxL + 11) + rm.locals ≤ R.locals) (hc : cells + rm.cells ≤ R.cells) (hn : slots + rm.slots ≤ R.slots)
    {pc : Nat} {Ls : Array Slot} {st : List Value} (hsize : Ls.size = c.maxLocals) (hlen : ∀ sig, parseMethodDescriptor y.desc = some sig → argsL.length = sig.parameters.length) (hst : st = argsL.reverse ++ .ref a :: rest) (hW : (rest.map fun v => v.category).sum ≤ W) (hd : decode c.code pc = .ok (.invokespecial index, 3)) {A : Outcome → State → Prop}
    (kk : ∀ (v : Option Value) (T' : State) (L : List Loc) (h' : Heap), Stand p l e R s m args below meth c T' (locs ++ L) (cells + rm.cells) (slots + rm.slots) → T'.heap = h' → Q v h' L → Run p e below A (T'.setTop (mkF m (pc + 3) Ls (v.toList ++ rest)))) : Run p e below A (T.setTop (mkF m pc Ls st)) := by
  obtain ⟨v, _, ⟨T18, L18, k18, n18⟩, -, X18, ⟨Lc18, hQ18, l18, y18, z18⟩, st18⟩ := X.specialBack hx (y := y) hy1 hown (mvT hZ w1) (mvT hZ w6) (mvT hZ w4) hy (backOf (W := W) hM hZ w4 w3 hf hl) (g := mkF m pc Ls st) rfl hsize (Steps.refl _) (a := a) (argsL := argsL) (rest := rest) hlen hst (by show 2 * 0 + _ ≤ _; omega) hd (fun _ _ => ⟨rfl, eT, hc, hn⟩)
  dsimp only [Pt.U, Pt.locs, Pt.cells, Pt.slots] at X18 l18 y18 z18 st18 hQ18
  subst l18 y18 z18
  exact goT st18 (kk v _ _ _ X18 rfl hQ18)
theorem callSpN (X : Stand p l e R s m args below meth c T locs cells slots) (hx : p.tables.exec = Jvm.exec) (hZ : Z.Warmed39 s.vm) {own host : String} {index : Nat} {y : MethodName} (hy1 : y.name = "<init>") {bytes : ByteArray} {maxL : Nat} {rm : Room} {Q : Option Value → Heap → List Loc → Prop} (hown : s.vm.findClass own = some m.cls)
    (w1 : (Jvm.Cond.methodLinkNest own index y host).before a0 Z = true) (w6 : (Jvm.Cond.instanceMethod y).before a0 Z = true) (w4 : (Jvm.Cond.code y bytes maxL none).before a0 Z = true) (w3 : (Jvm.Cond.initialized y.cls).before a0 Z = true) (hy : y.cls ≠ "java/lang/invoke/MethodHandle" ∧ y.cls ≠ "java/lang/invoke/VarHandle") (eT : T.heap = h) {a : Addr} {argsL rest : List Value}
    (hM : Meets l y bytes maxL none [] rm Z (.ref a :: argsL).toArray h Q rm.cells rm.slots) {W : Nat} (hf : rm.frames + 1 ≤ R.frames) (hl : W + (maxL + 11) + rm.locals ≤ R.locals) (hc : cells + rm.cells ≤ R.cells) (hn : slots + rm.slots ≤ R.slots)
    {pc : Nat} {Ls : Array Slot} {st : List Value} (hsize : Ls.size = c.maxLocals) (hlen : ∀ sig, parseMethodDescriptor y.desc = some sig → argsL.length = sig.parameters.length) (hst : st = argsL.reverse ++ .ref a :: rest) (hW : (rest.map fun v => v.category).sum ≤ W) (hd : decode c.code pc = .ok (.invokespecial index, 3)) {A : Outcome → State → Prop}
    (kk : ∀ (v : Option Value) (T' : State) (L : List Loc) (h' : Heap), Stand p l e R s m args below meth c T' (locs ++ L) (cells + rm.cells) (slots + rm.slots) → T'.heap = h' → Q v h' L → Run p e below A (T'.setTop (mkF m (pc + 3) Ls (v.toList ++ rest)))) : Run p e below A (T.setTop (mkF m pc Ls st)) := by
  obtain ⟨v, _, ⟨T18, L18, k18, n18⟩, -, X18, ⟨Lc18, hQ18, l18, y18, z18⟩, st18⟩ := X.specialBackNest hx (y := y) hy1 hown (Cond.methodLinkNest_wide hZ w1 :) (mvT hZ w6) (mvT hZ w4) hy (backOf (W := W) hM hZ w4 w3 hf hl) (g := mkF m pc Ls st) rfl hsize (Steps.refl _) (a := a) (argsL := argsL) (rest := rest) hlen hst (by show 2 * 0 + _ ≤ _; omega) hd (fun _ _ => ⟨rfl, eT, hc, hn⟩)
  dsimp only [Pt.U, Pt.locs, Pt.cells, Pt.slots] at X18 l18 y18 z18 st18 hQ18
  subst l18 y18 z18
  exact goT st18 (kk v _ _ _ X18 rfl hQ18)
theorem callPr (X : Stand p l e R s m args below meth c T locs cells slots) (hx : p.tables.exec = Jvm.exec) (hZ : Z.Warmed39 s.vm) {own C : String} {index : Nat} {y : MethodName} {bytes : ByteArray} {maxL : Nat} {ret : Option FieldType} {rm : Room} {Q : Option Value → Heap → List Loc → Prop} (hown : s.vm.findClass own = some m.cls)
    (w1 : (Jvm.Cond.methodLink own index y).before a0 Z = true) (w2 : (Jvm.Cond.privateMethod y).before a0 Z = true) (w5 : (Jvm.Cond.selects y.cls y y).before a0 Z = true) (w6 : (Jvm.Cond.instanceMethod y).before a0 Z = true) (w4 : (Jvm.Cond.code y bytes maxL ret).before a0 Z = true) (w3 : (Jvm.Cond.initialized y.cls).before a0 Z = true) (hy : y.cls ≠ "java/lang/invoke/MethodHandle" ∧ y.cls ≠ "java/lang/invoke/VarHandle") (eT : T.heap = h) {a : Addr} (E : Exa Z h a C) {argsL rest : List Value}
    (hM : Meets l y bytes maxL ret [] rm Z (.ref a :: argsL).toArray h Q rm.cells rm.slots) {W : Nat} (hf : rm.frames + 1 ≤ R.frames) (hl : W + (maxL + 11) + rm.locals ≤ R.locals) (hc : cells + rm.cells ≤ R.cells) (hn : slots + rm.slots ≤ R.slots)
    {pc : Nat} {Ls : Array Slot} {st : List Value} (hsize : Ls.size = c.maxLocals) (hlen : ∀ sig, parseMethodDescriptor y.desc = some sig → argsL.length = sig.parameters.length) (hst : st = argsL.reverse ++ .ref a :: rest) (hW : (rest.map fun v => v.category).sum ≤ W) (hd : decode c.code pc = .ok (.invokevirtual index, 3)) {A : Outcome → State → Prop}
    (kk : ∀ (v : Option Value) (T' : State) (L : List Loc) (h' : Heap), Stand p l e R s m args below meth c T' (locs ++ L) (cells + rm.cells) (slots + rm.slots) → T'.heap = h' → Q v h' L → Run p e below A (T'.setTop (mkF m (pc + 3) Ls (v.toList ++ rest)))) : Run p e below A (T.setTop (mkF m pc Ls st)) := by
  obtain ⟨cl, hcl, hob⟩ := Exa.cell E
  obtain ⟨v, _, ⟨T18, L18, k18, n18⟩, -, X18, ⟨Lc18, hQ18, l18, y18, z18⟩, st18⟩ := X.privateBack hx (y := y) hown (mvT hZ w1) (mvT hZ w6) (mvT hZ w5) (Cond.privateMethod_at (mvP hZ w2 (args := #[]))) (mvT hZ w4) hy (backOf (W := W) hM hZ w4 w3 hf hl) (g := mkF m pc Ls st) rfl hsize (Steps.refl _) (a := a) (by rw [eT]; exact hcl) hob (argsL := argsL) (rest := rest) hlen hst (by show 2 * 0 + _ ≤ _; omega) hd (fun _ _ => ⟨rfl, eT, hc, hn⟩)
  dsimp only [Pt.U, Pt.locs, Pt.cells, Pt.slots] at X18 l18 y18 z18 st18 hQ18
  subst l18 y18 z18
  exact goT st18 (kk v _ _ _ X18 rfl hQ18)
theorem callIf (X : Stand p l e R s m args below meth c T locs cells slots) (hx : p.tables.exec = Jvm.exec) (hZ : Z.Warmed39 s.vm) {own C : String} {index count : Nat} {y z : MethodName} {bytes : ByteArray} {maxL : Nat} {ret : Option FieldType} {rm : Room} {Q : Option Value → Heap → List Loc → Prop} (hown : s.vm.findClass own = some m.cls)
    (w1 : (Jvm.Cond.methodLink own index y).before a0 Z = true) (w2 : (Jvm.Cond.declares y).before a0 Z = true) (w7 : (Jvm.Cond.interfaceMethod y.cls y.cls y.name y.desc).before a0 Z = true) (k7 : ((Jvm.Cond.interfaceMethod y.cls y.cls y.name y.desc).onTables && (Jvm.Cond.interfaceMethod y.cls y.cls y.name y.desc).keepsFace) = true) (w5 : (Jvm.Cond.selects C y z).before a0 Z = true) (w6 : (Jvm.Cond.instanceMethod z).before a0 Z = true) (w8 : (Jvm.Cond.publicMethod z).before a0 Z = true) (w9 : (Jvm.Cond.unhidden C y.name y.desc).before a0 Z = true) (w10 : (Jvm.Cond.castable C y.cls).before a0 Z = true)
    (w4 : (Jvm.Cond.code z bytes maxL ret).before a0 Z = true) (w3 : (Jvm.Cond.initialized z.cls).before a0 Z = true) (hy : y.cls ≠ "java/lang/invoke/MethodHandle" ∧ y.cls ≠ "java/lang/invoke/VarHandle") (eT : T.heap = h) {a : Addr} (E : Exa Z h a C) {argsL rest : List Value}
    (hM : Meets l z bytes maxL ret [] rm Z (.ref a :: argsL).toArray h Q rm.cells rm.slots) {W : Nat} (hf : rm.frames + 1 ≤ R.frames) (hl : W + (maxL + 11) + rm.locals ≤ R.locals) (hc : cells + rm.cells ≤ R.cells) (hn : slots + rm.slots ≤ R.slots)
    {pc : Nat} {Ls : Array Slot} {st : List Value} (hsize : Ls.size = c.maxLocals) (hlen : ∀ sig, parseMethodDescriptor y.desc = some sig → argsL.length = sig.parameters.length) (hst : st = argsL.reverse ++ .ref a :: rest) (hW : (rest.map fun v => v.category).sum ≤ W) (hd : decode c.code pc = .ok (.invokeinterface index count, 5)) {A : Outcome → State → Prop}
    (kk : ∀ (v : Option Value) (T' : State) (L : List Loc) (h' : Heap), Stand p l e R s m args below meth c T' (locs ++ L) (cells + rm.cells) (slots + rm.slots) → T'.heap = h' → Q v h' L → Run p e below A (T'.setTop (mkF m (pc + 5) Ls (v.toList ++ rest)))) : Run p e below A (T.setTop (mkF m pc Ls st)) := by
  obtain ⟨cq, kq, qa, qb, qc⟩ := isOf hZ eT E
  obtain ⟨v, _, ⟨T18, L18, k18, n18⟩, -, X18, ⟨Lc18, hQ18, l18, y18, z18⟩, st18⟩ := X.interfaceBack hx (xi := y) (y := z) hown (mvT hZ w1) (mvT hZ w2) (mvT hZ w7 k7) (mvT hZ w5) (mvT hZ w6) (mvT hZ w8) (mvT hZ w9) (mvT hZ w10) hy (backOf (W := W) hM hZ w4 w3 hf hl) qa qb qc (g := mkF m pc Ls st) rfl hsize (Steps.refl _) (argsL := argsL) (rest := rest) hlen hst (by show 2 * 0 + _ ≤ _; omega) hd (fun _ _ => ⟨rfl, eT, hc, hn⟩)
  dsimp only [Pt.U, Pt.locs, Pt.cells, Pt.slots] at X18 l18 y18 z18 st18 hQ18
  subst l18 y18 z18
  exact goT st18 (kk v _ _ _ X18 rfl hQ18)
theorem callViK (X : Stand p l e R s m args below meth c T locs cells slots) (hx : p.tables.exec = Jvm.exec) (hZ : Z.Warmed39 s.vm) {own C : String} {index : Nat} {y z : MethodName} {Q : Option Value → Heap → List Loc → Prop} (hown : s.vm.findClass own = some m.cls)
    (w1 : (Jvm.Cond.methodLink own index y).before a0 Z = true) (w2 : (Jvm.Cond.declares y).before a0 Z = true) (nf : NotFace s y) (w5 : (Jvm.Cond.selects C y z).before a0 Z = true) (w6 : (Jvm.Cond.instanceMethod z).before a0 Z = true) (hy : y.cls ≠ "java/lang/invoke/MethodHandle" ∧ y.cls ≠ "java/lang/invoke/VarHandle") (eT : T.heap = h) {a : Addr} (E : Exa Z h a C) {argsL rest : List Value}
    {rc rs W : Nat} (hK : Pay l R p e below s args z 3 W (.ref a :: argsL).toArray h Q rc rs) (hc : cells + rc ≤ R.cells) (hn : slots + rs ≤ R.slots)
    {pc : Nat} {Ls : Array Slot} {st : List Value} (hsize : Ls.size = c.maxLocals) (hlen : ∀ sig, parseMethodDescriptor y.desc = some sig → argsL.length = sig.parameters.length) (hst : st = argsL.reverse ++ .ref a :: rest) (hW : (rest.map fun v => v.category).sum ≤ W) (hd : decode c.code pc = .ok (.invokevirtual index, 3)) {A : Outcome → State → Prop}
    (kk : ∀ (v : Option Value) (T' : State) (L : List Loc) (h' : Heap), Stand p l e R s m args below meth c T' (locs ++ L) (cells + rc) (slots + rs) → T'.heap = h' → Q v h' L → Run p e below A (T'.setTop (mkF m (pc + 3) Ls (v.toList ++ rest)))) : Run p e below A (T.setTop (mkF m pc Ls st)) := by
  obtain ⟨cq, kq, qa, qb, qc⟩ := isOf hZ eT E
  obtain ⟨v, _, ⟨T18, L18, k18, n18⟩, -, X18, ⟨Lc18, hQ18, l18, y18, z18⟩, st18⟩ := X.virtualBack hx (y := y) (z := z) hown (mvT hZ w1) (mvT hZ w2) nf (mvT hZ w5) (mvT hZ w6) hy hK qa qc (g := mkF m pc Ls st) rfl hsize (Steps.refl _) (argsL := argsL) (rest := rest) hlen hst (by show 2 * 0 + _ ≤ _; omega) hd (fun _ _ => ⟨rfl, eT, hc, hn⟩)
  dsimp only [Pt.U, Pt.locs, Pt.cells, Pt.slots] at X18 l18 y18 z18 st18 hQ18
  subst l18 y18 z18
  exact goT st18 (kk v _ _ _ X18 rfl hQ18)
theorem callSpK (X : Stand p l e R s m args below meth c T locs cells slots) (hx : p.tables.exec = Jvm.exec) (hZ : Z.Warmed39 s.vm) {own : String} {index : Nat} {y : MethodName} (hy1 : y.name = "<init>") {bytes : ByteArray} {maxL : Nat} {Q : Option Value → Heap → List Loc → Prop} (hown : s.vm.findClass own = some m.cls)
    (w1 : (Jvm.Cond.methodLink own index y).before a0 Z = true) (w6 : (Jvm.Cond.instanceMethod y).before a0 Z = true) (w4 : (Jvm.Cond.code y bytes maxL none).before a0 Z = true) (hy : y.cls ≠ "java/lang/invoke/MethodHandle" ∧ y.cls ≠ "java/lang/invoke/VarHandle") (eT : T.heap = h) {a : Addr} {argsL rest : List Value}
    {rc rs W : Nat} (hK : Pay l R p e below s args y 3 W (.ref a :: argsL).toArray h Q rc rs) (hc : cells + rc ≤ R.cells) (hn : slots + rs ≤ R.slots)
    {pc : Nat} {Ls : Array Slot} {st : List Value} (hsize : Ls.size = c.maxLocals) (hlen : ∀ sig, parseMethodDescriptor y.desc = some sig → argsL.length = sig.parameters.length) (hst : st = argsL.reverse ++ .ref a :: rest) (hW : (rest.map fun v => v.category).sum ≤ W) (hd : decode c.code pc = .ok (.invokespecial index, 3)) {A : Outcome → State → Prop}
    (kk : ∀ (v : Option Value) (T' : State) (L : List Loc) (h' : Heap), Stand p l e R s m args below meth c T' (locs ++ L) (cells + rc) (slots + rs) → T'.heap = h' → Q v h' L → Run p e below A (T'.setTop (mkF m (pc + 3) Ls (v.toList ++ rest)))) : Run p e below A (T.setTop (mkF m pc Ls st)) := by
  obtain ⟨v, _, ⟨T18, L18, k18, n18⟩, -, X18, ⟨Lc18, hQ18, l18, y18, z18⟩, st18⟩ := X.specialBack hx (y := y) hy1 hown (mvT hZ w1) (mvT hZ w6) (mvT hZ w4) hy hK (g := mkF m pc Ls st) rfl hsize (Steps.refl _) (a := a) (argsL := argsL) (rest := rest) hlen hst (by show 2 * 0 + _ ≤ _; omega) hd (fun _ _ => ⟨rfl, eT, hc, hn⟩)
  dsimp only [Pt.U, Pt.locs, Pt.cells, Pt.slots] at X18 l18 y18 z18 st18 hQ18
  subst l18 y18 z18
  exact goT st18 (kk v _ _ _ X18 rfl hQ18)
/-- no subclass, by the words of the one's superclasses and of the other's 'instantiable' -/
theorem ns_root {O K : String} {n : Nat} (w : (Jvm.Cond.noSuperclass O).before a0 Z = true) (wk : (Jvm.Cond.instantiable K n).before a0 Z = true) (hn : O ≠ K) : NS Z O K := by
  obtain ⟨c, k, h1, h2, h3, -, -⟩ := Cond.noSuperclass_spec w
  obtain ⟨t, kt, g1, -⟩ := Cond.instantiable_spec wk
  have ne := ids_ne h1 g1 hn
  refine ⟨c, t, h1, g1, fun fuel => ?_⟩
  cases fuel with
  | zero => rfl
  | succ f => simp [Vm.isSubclassAux, ne, h2, h3]
theorem ns_no {C S K : String} {n : Nat} (w : (Jvm.Cond.superclass C S).before a0 Z = true) (wk : (Jvm.Cond.instantiable K n).before a0 Z = true) (q : NS Z C K) (hn : C ≠ K) : ∃ c t, Z.vm.findClass C = some c ∧ Z.vm.findClass K = some t ∧ Z.vm.assignable c t = false := by
  obtain ⟨c, t, h0, g0, n3⟩ := q
  obtain ⟨p, k, kp, h1, h2, h3, h4, h5, -, h7⟩ := Cond.superclass_spec h0 w
  obtain ⟨t', kt, g1, g2, g3, g4, -⟩ := Cond.instantiable_spec wk
  cases g0.symm.trans g1
  have ne := ids_ne h0 g0 hn
  have g5 : kt.isInterface = false := by
    cases hi : kt.isInterface with
    | false => rfl
    | true => simp [hi] at g4
  refine ⟨c, t, h0, g0, ?_⟩
  show Z.vm.assignableAux (255 + 1) c t = false
  simp [Vm.assignableAux, ne, h2, g2, h5, g3, g5, Vm.isSubclass, n3]
/-- a private method selects itself -/
theorem sel_priv {y : MethodName} {n : Nat} (wi : (Jvm.Cond.instantiable y.cls n).before a0 Z = true) (w2 : (Jvm.Cond.privateMethod y).before a0 Z = true) (w6 : (Jvm.Cond.instanceMethod y).before a0 Z = true) (hy : y.cls ≠ "java/lang/invoke/MethodHandle" ∧ y.cls ≠ "java/lang/invoke/VarHandle") : (Jvm.Cond.selects y.cls y y).before a0 Z = true := by
  obtain ⟨c, k, g1, g2, g3, g4, -⟩ := Cond.instantiable_spec wi
  exact Jvm.Stand.selects_self_of_private g1 g2 (by cases hi : k.isInterface with
    | false => rfl
    | true => simp [hi] at g4) (Cond.privateMethod_at w2) w6 hy
/-- a static that holds an object of one class, out of the case's words -/
theorem sta_exa {C n d K : String} (w1 : (Jvm.Cond.initialized C).before a0 Z = true) (w2 : (Jvm.Cond.laysStatic C n d).before a0 Z = true) (hx : (Jvm.Cond.exactly (Jvm.Term.static C n d) K).value a0 Z none Z [] = some true) :
    ∃ a, (Jvm.Term.static C n d).eval a0 Z none [] Z = some (.ref a) ∧ Sta Z Z.heap C n d (.ref a) ∧ Exa Z Z.heap a K := by
  obtain ⟨a, ev⟩ := exa_v hx
  exact ⟨a, ev, Sta.start ev (Or.inr ⟨w1, w2⟩), Exa.start ev hx⟩
theorem fld_int {t : Jvm.Term} {a : Addr} {C n d : String} {k : Int32} (ev : t.eval a0 Z none [] Z = some (.ref a)) (hq : (Jvm.Cond.eq (Jvm.Term.field t C n d) (Jvm.Term.int k)).value a0 Z none Z [] = some true) : Fld Z Z.heap a C n d (.int k) := by
  refine Fld.start ?_
  have e1 : (Jvm.Term.field t C n d).eval a0 Z none [] Z = Z.fieldOf? a C n d := fld_at ev
  have e2 : (Jvm.Term.int k).eval a0 Z none [] Z = some (.int k) := Term.int_eval k
  simp only [Cond.value, e1, e2] at hq
  cases hf : Z.fieldOf? a C n d with
  | none => simp [hf] at hq
  | some x => cases x <;> simp [hf] at hq ⊢; exact hq
end Own
theorem nb0 : nar .boolean (0 : Int32) = (0 : Int32) := by decide
theorem nb1 : nar .boolean (1 : Int32) = (1 : Int32) := by decide
theorem d_p74_m9_0 : decode prog_74_method_9_code 0 = .ok (.iload_n 0, 1) := by decide +kernel
theorem d_p74_m9_1 : decode prog_74_method_9_code 1 = .ok (.i2d, 1) := by decide +kernel
theorem d_p74_m9_2 : decode prog_74_method_9_code 2 = .ok (.iload_n 1, 1) := by decide +kernel
theorem d_p74_m9_3 : decode prog_74_method_9_code 3 = .ok (.i2d, 1) := by decide +kernel
theorem d_p74_m9_4 : decode prog_74_method_9_code 4 = .ok (.ddiv, 1) := by decide +kernel
theorem d_p74_m9_5 : decode prog_74_method_9_code 5 = .ok (.dreturn, 1) := by decide +kernel
theorem pn_0 : plainName "nearcast/engine/Score" = true := by first | (simp [plainName, overriddenIn]; done) | decide +kernel
def Q_rm_jac (p1 p2 : Int32) (h0 : Heap) (n0 : Nat) (v : Option Value) (h : Heap) (L : List Loc) : Prop := v = some (.double (FP.ddiv (FP.l2d p1.toInt64) (FP.l2d p2.toInt64))) ∧ Fr n0 L ∧ h = h0
set_option maxRecDepth 65536 in
set_option maxHeartbeats 40000000 in
theorem rm_jac (l : Launch) (Z : State) (a0 : Array Value) (hw : ∀ d ∈ tables_1, d.before a0 Z = true) (ws : List Jvm.Cond) (p1 p2 : Int32) (h0 : Heap) (n0 : Nat) (O0 : Old Z n0 h0) (u1 : Jvm.Free.Fl.NoNaN64 (FP.ddiv (FP.l2d p1.toInt64) (FP.l2d p2.toInt64))) :
    Meets l (⟨"nearcast/engine/Score", "jaccard", "(II)D"⟩ : MethodName) prog_74_method_9_code 2 (some .double) ws ({ frames := 0, cells := 0, slots := 0, locals := 0 } : Room) Z #[(.int p1), (.int p2)] h0 (Q_rm_jac p1 p2 h0 n0) 0 0 := by
  refine enter (Ls := #[.val (.int p1), .val (.int p2)]) (plainFor_of_name pn_0) (fun m => by first | (simp [entryFrame, mkF, argsToLocals, Value.category]; done) | rfl) ?_
  intro p e s m below meth c T0 hx hby hml hown hnm hret hlk hZ X0 e0
  have N0 := Fr.nil n0
  replace hown : s.vm.findClass "nearcast/engine/Score" = some m.cls := hown
  show Run p e below _ (T0.setTop (mkF m 0 #[.val (.int p1), .val (.int p2)] []))
  refine go (fun _ => XS.iloadN X0.here hx rfl (hb hby d_p74_m9_0) rfl) ?_
  show Run p e below _ (T0.setTop (mkF m 1 #[.val (.int p1), .val (.int p2)] [(.int p1)]))
  refine go (fun _ => XS.i2dS X0.here hx rfl (hb hby d_p74_m9_1) rfl (i2d_w p1)) ?_
  show Run p e below _ (T0.setTop (mkF m 2 #[.val (.int p1), .val (.int p2)] [(.double (FP.l2d p1.toInt64))]))
  refine go (fun _ => XS.iloadN X0.here hx rfl (hb hby d_p74_m9_2) rfl) ?_
  show Run p e below _ (T0.setTop (mkF m 3 #[.val (.int p1), .val (.int p2)] [(.int p2), (.double (FP.l2d p1.toInt64))]))
  refine go (fun _ => XS.i2dS X0.here hx rfl (hb hby d_p74_m9_3) rfl (i2d_w p2)) ?_
  show Run p e below _ (T0.setTop (mkF m 4 #[.val (.int p1), .val (.int p2)] [(.double (FP.l2d p2.toInt64)), (.double (FP.l2d p1.toInt64))]))
  refine go (fun _ => XS.ddivS X0.here hx rfl (hb hby d_p74_m9_4) rfl u1 rfl) ?_
  show Run p e below _ (T0.setTop (mkF m 5 #[.val (.int p1), .val (.int p2)] [(.double (FP.ddiv (FP.l2d p1.toInt64) (FP.l2d p2.toInt64)))]))
  exact endD X0 hx hlk hret (hb hby d_p74_m9_5) (⟨rfl, N0, e0⟩) (by decide) (by decide)
theorem d_p74_m2_0 : decode prog_74_method_2_code 0 = .ok (.dload_n 0, 1) := by decide +kernel
theorem d_p74_m2_1 : decode prog_74_method_2_code 1 = .ok (.dload_n 2, 1) := by decide +kernel
theorem d_p74_m2_2 : decode prog_74_method_2_code 2 = .ok (.dmul, 1) := by decide +kernel
theorem d_p74_m2_3 : decode prog_74_method_2_code 3 = .ok (.dconst 1, 1) := by decide +kernel
theorem d_p74_m2_4 : decode prog_74_method_2_code 4 = .ok (.dload_n 0, 1) := by decide +kernel
theorem d_p74_m2_5 : decode prog_74_method_2_code 5 = .ok (.dsub, 1) := by decide +kernel
theorem d_p74_m2_6 : decode prog_74_method_2_code 6 = .ok (.dload 4, 2) := by decide +kernel
theorem d_p74_m2_8 : decode prog_74_method_2_code 8 = .ok (.dmul, 1) := by decide +kernel
theorem d_p74_m2_9 : decode prog_74_method_2_code 9 = .ok (.dadd, 1) := by decide +kernel
theorem d_p74_m2_10 : decode prog_74_method_2_code 10 = .ok (.dreturn, 1) := by decide +kernel
def Q_rm_of3 (d1 d2 d3 : UInt64) (h0 : Heap) (n0 : Nat) (v : Option Value) (h : Heap) (L : List Loc) : Prop := v = some (.double (FP.dadd (FP.dmul d1 d2) (FP.dmul (FP.dsub (4607182418800017408 : UInt64) d1) d3))) ∧ Fr n0 L ∧ h = h0
set_option maxRecDepth 65536 in
set_option maxHeartbeats 40000000 in
theorem rm_of3 (l : Launch) (Z : State) (a0 : Array Value) (hw : ∀ d ∈ tables_1, d.before a0 Z = true) (ws : List Jvm.Cond) (d1 d2 d3 : UInt64) (h0 : Heap) (n0 : Nat) (O0 : Old Z n0 h0) (u1 : Jvm.Free.Fl.NoNaN64 (FP.dmul d1 d2)) (u2 : Jvm.Free.Fl.NoNaN64 (FP.dsub (4607182418800017408 : UInt64) d1)) (u3 : Jvm.Free.Fl.NoNaN64 (FP.dmul (FP.dsub (4607182418800017408 : UInt64) d1) d3)) (u4 : Jvm.Free.Fl.NoNaN64 (FP.dadd (FP.dmul d1 d2) (FP.dmul (FP.dsub (4607182418800017408 : UInt64) d1) d3))) :
    Meets l (⟨"nearcast/engine/Score", "of", "(DDD)D"⟩ : MethodName) prog_74_method_2_code 6 (some .double) ws ({ frames := 0, cells := 0, slots := 0, locals := 0 } : Room) Z #[(.double d1), (.double d2), (.double d3)] h0 (Q_rm_of3 d1 d2 d3 h0 n0) 0 0 := by
  refine enter (Ls := #[.val (.double d1), .second, .val (.double d2), .second, .val (.double d3), .second]) (plainFor_of_name pn_0) (fun m => by first | (simp [entryFrame, mkF, argsToLocals, Value.category]; done) | rfl) ?_
  intro p e s m below meth c T0 hx hby hml hown hnm hret hlk hZ X0 e0
  have N0 := Fr.nil n0
  replace hown : s.vm.findClass "nearcast/engine/Score" = some m.cls := hown
  show Run p e below _ (T0.setTop (mkF m 0 #[.val (.double d1), .second, .val (.double d2), .second, .val (.double d3), .second] []))
  refine go (fun _ => XS.dloadN X0.here hx rfl (hb hby d_p74_m2_0) rfl) ?_
  show Run p e below _ (T0.setTop (mkF m 1 #[.val (.double d1), .second, .val (.double d2), .second, .val (.double d3), .second] [(.double d1)]))
  refine go (fun _ => XS.dloadN X0.here hx rfl (hb hby d_p74_m2_1) rfl) ?_
  show Run p e below _ (T0.setTop (mkF m 2 #[.val (.double d1), .second, .val (.double d2), .second, .val (.double d3), .second] [(.double d2), (.double d1)]))
  refine go (fun _ => XS.dmulS X0.here hx rfl (hb hby d_p74_m2_2) rfl u1 rfl) ?_
  show Run p e below _ (T0.setTop (mkF m 3 #[.val (.double d1), .second, .val (.double d2), .second, .val (.double d3), .second] [(.double (FP.dmul d1 d2))]))
  refine go (fun _ => XS.dconst1 X0.here hx rfl (hb hby d_p74_m2_3) (v := (4607182418800017408 : UInt64)) rfl) ?_
  show Run p e below _ (T0.setTop (mkF m 4 #[.val (.double d1), .second, .val (.double d2), .second, .val (.double d3), .second] [(.double (4607182418800017408 : UInt64)), (.double (FP.dmul d1 d2))]))
  refine go (fun _ => XS.dloadN X0.here hx rfl (hb hby d_p74_m2_4) rfl) ?_
  show Run p e below _ (T0.setTop (mkF m 5 #[.val (.double d1), .second, .val (.double d2), .second, .val (.double d3), .second] [(.double d1), (.double (4607182418800017408 : UInt64)), (.double (FP.dmul d1 d2))]))
  refine go (fun _ => XS.dsubS X0.here hx rfl (hb hby d_p74_m2_5) rfl u2 rfl) ?_
  show Run p e below _ (T0.setTop (mkF m 6 #[.val (.double d1), .second, .val (.double d2), .second, .val (.double d3), .second] [(.double (FP.dsub (4607182418800017408 : UInt64) d1)), (.double (FP.dmul d1 d2))]))
  refine go (fun _ => XS.dload X0.here hx rfl (hb hby d_p74_m2_6) rfl) ?_
  show Run p e below _ (T0.setTop (mkF m 8 #[.val (.double d1), .second, .val (.double d2), .second, .val (.double d3), .second] [(.double d3), (.double (FP.dsub (4607182418800017408 : UInt64) d1)), (.double (FP.dmul d1 d2))]))
  refine go (fun _ => XS.dmulS X0.here hx rfl (hb hby d_p74_m2_8) rfl u3 rfl) ?_
  show Run p e below _ (T0.setTop (mkF m 9 #[.val (.double d1), .second, .val (.double d2), .second, .val (.double d3), .second] [(.double (FP.dmul (FP.dsub (4607182418800017408 : UInt64) d1) d3)), (.double (FP.dmul d1 d2))]))
  refine go (fun _ => XS.daddS X0.here hx rfl (hb hby d_p74_m2_9) rfl u4 rfl) ?_
  show Run p e below _ (T0.setTop (mkF m 10 #[.val (.double d1), .second, .val (.double d2), .second, .val (.double d3), .second] [(.double (FP.dadd (FP.dmul d1 d2) (FP.dmul (FP.dsub (4607182418800017408 : UInt64) d1) d3)))]))
  exact endD X0 hx hlk hret (hb hby d_p74_m2_10) (⟨rfl, N0, e0⟩) (by decide) (by decide)
theorem d_p74_m3_0 : decode prog_74_method_3_code 0 = .ok (.dload_n 0, 1) := by decide +kernel
theorem d_p74_m3_1 : decode prog_74_method_3_code 1 = .ok (.dload_n 2, 1) := by decide +kernel
theorem d_p74_m3_2 : decode prog_74_method_3_code 2 = .ok (.iload 4, 2) := by decide +kernel
theorem d_p74_m3_4 : decode prog_74_method_3_code 4 = .ok (.iload 5, 2) := by decide +kernel
theorem d_p74_m3_6 : decode prog_74_method_3_code 6 = .ok (.invokestatic 7, 3) := by decide +kernel
theorem pd_0 : parseMethodDescriptor "(II)D" = some ⟨[.int, .int], some .double⟩ := by decide +kernel
theorem d_p74_m3_9 : decode prog_74_method_3_code 9 = .ok (.invokestatic 13, 3) := by decide +kernel
theorem pd_1 : parseMethodDescriptor "(DDD)D" = some ⟨[.double, .double, .double], some .double⟩ := by decide +kernel
theorem d_p74_m3_12 : decode prog_74_method_3_code 12 = .ok (.dreturn, 1) := by decide +kernel
def Q_rm_of (d1 d2 d3 sc : UInt64) (p1 p2 : Int32) (h0 : Heap) (n0 : Nat) (v : Option Value) (h : Heap) (L : List Loc) : Prop := v = some (.double sc) ∧ Fr n0 L ∧ h = h0
set_option maxRecDepth 65536 in
set_option maxHeartbeats 40000000 in
theorem rm_of (l : Launch) (Z : State) (a0 : Array Value) (hw : ∀ d ∈ tables_1, d.before a0 Z = true) (ws : List Jvm.Cond) (d1 d2 d3 sc : UInt64) (p1 p2 : Int32) (h0 : Heap) (n0 : Nat) (O0 : Old Z n0 h0) (u0 : Jvm.Free.Fl.NoNaN64 d3) (hj : d3 = (FP.ddiv (FP.l2d p1.toInt64) (FP.l2d p2.toInt64))) (hs : sc = (FP.dadd (FP.dmul d1 d2) (FP.dmul (FP.dsub (4607182418800017408 : UInt64) d1) d3))) (u1 : Jvm.Free.Fl.NoNaN64 (FP.dmul d1 d2)) (u2 : Jvm.Free.Fl.NoNaN64 (FP.dsub (4607182418800017408 : UInt64) d1)) (u3 : Jvm.Free.Fl.NoNaN64 (FP.dmul (FP.dsub (4607182418800017408 : UInt64) d1) d3)) (u4 : Jvm.Free.Fl.NoNaN64 (FP.dadd (FP.dmul d1 d2) (FP.dmul (FP.dsub (4607182418800017408 : UInt64) d1) d3))) :
    Meets l (⟨"nearcast/engine/Score", "of", "(DDII)D"⟩ : MethodName) prog_74_method_3_code 6 (some .double) ws ({ frames := 1, cells := 0, slots := 0, locals := 17 } : Room) Z #[(.double d1), (.double d2), (.int p1), (.int p2)] h0 (Q_rm_of d1 d2 d3 sc p1 p2 h0 n0) 0 0 := by
  refine enter (Ls := #[.val (.double d1), .second, .val (.double d2), .second, .val (.int p1), .val (.int p2)]) (plainFor_of_name pn_0) (fun m => by first | (simp [entryFrame, mkF, argsToLocals, Value.category]; done) | rfl) ?_
  intro p e s m below meth c T0 hx hby hml hown hnm hret hlk hZ X0 e0
  have N0 := Fr.nil n0
  replace hown : s.vm.findClass "nearcast/engine/Score" = some m.cls := hown
  show Run p e below _ (T0.setTop (mkF m 0 #[.val (.double d1), .second, .val (.double d2), .second, .val (.int p1), .val (.int p2)] []))
  refine go (fun _ => XS.dloadN X0.here hx rfl (hb hby d_p74_m3_0) rfl) ?_
  show Run p e below _ (T0.setTop (mkF m 1 #[.val (.double d1), .second, .val (.double d2), .second, .val (.int p1), .val (.int p2)] [(.double d1)]))
  refine go (fun _ => XS.dloadN X0.here hx rfl (hb hby d_p74_m3_1) rfl) ?_
  show Run p e below _ (T0.setTop (mkF m 2 #[.val (.double d1), .second, .val (.double d2), .second, .val (.int p1), .val (.int p2)] [(.double d2), (.double d1)]))
  refine go (fun _ => XS.iload X0.here hx rfl (hb hby d_p74_m3_2) rfl) ?_
  show Run p e below _ (T0.setTop (mkF m 4 #[.val (.double d1), .second, .val (.double d2), .second, .val (.int p1), .val (.int p2)] [(.int p1), (.double d2), (.double d1)]))
  refine go (fun _ => XS.iload X0.here hx rfl (hb hby d_p74_m3_4) rfl) ?_
  show Run p e below _ (T0.setTop (mkF m 6 #[.val (.double d1), .second, .val (.double d2), .second, .val (.int p1), .val (.int p2)] [(.int p2), (.int p1), (.double d2), (.double d1)]))
  refine callSt X0 hx hZ hown (wd hw 54 rfl) (wd hw 55 rfl) (wd hw 52 rfl) (wd hw 56 rfl) (by decide) e0 (argsL := [(.int p1), (.int p2)]) (rest := [(.double d2), (.double d1)]) (rm_jac l Z a0 hw [] p1 p2 h0 n0 O0 (hj ▸ u0)) (W := 4) (by decide) (by decide) (by decide) (by decide) (by rw [hml]; rfl) (lenOf pd_0 rfl) rfl (Nat.le_of_eq rfl) (hb hby d_p74_m3_6) ?_
  intro v1 T1 L1 h1 X1 e1 q1
  obtain ⟨rv, n1, k1⟩ := q1
  replace rv : v1 = some (.double d3) := hj ▸ rv
  subst rv
  have e1 := e1.trans k1
  have N1 := Fr.app N0 n1
  show Run p e below _ (T1.setTop (mkF m 9 #[.val (.double d1), .second, .val (.double d2), .second, .val (.int p1), .val (.int p2)] [(.double d3), (.double d2), (.double d1)]))
  refine callSt X1 hx hZ hown (wd hw 57 rfl) (wd hw 58 rfl) (wd hw 52 rfl) (wd hw 59 rfl) (by decide) e1 (argsL := [(.double d1), (.double d2), (.double d3)]) (rest := []) (rm_of3 l Z a0 hw [] d1 d2 d3 h0 n0 O0 u1 u2 u3 u4) (W := 0) (by decide) (by decide) (by decide) (by decide) (by rw [hml]; rfl) (lenOf pd_1 rfl) rfl (Nat.le_of_eq rfl) (hb hby d_p74_m3_9) ?_
  intro v2 T2 L2 h2 X2 e2 q2
  obtain ⟨rv, n2, k2⟩ := q2
  replace rv : v2 = some (.double sc) := hs ▸ rv
  subst rv
  have e2 := e2.trans k2
  have N2 := Fr.app N1 n2
  show Run p e below _ (T2.setTop (mkF m 12 #[.val (.double d1), .second, .val (.double d2), .second, .val (.int p1), .val (.int p2)] [(.double sc)]))
  exact endD X2 hx hlk hret (hb hby d_p74_m3_12) (⟨rfl, N2, e2⟩) (by decide) (by decide)
def shv (p1 p2 : Int32) : Int32 := nar .char (((p1 <<< ((9 : Int32) &&& 31)) ||| p2).toUInt32.toUInt16.toUInt32.toInt32)
theorem d_p76_m2_0 : decode prog_76_method_2_code 0 = .ok (.iload_n 0, 1) := by decide +kernel
theorem d_p76_m2_1 : decode prog_76_method_2_code 1 = .ok (.bipush 9, 2) := by decide +kernel
theorem d_p76_m2_3 : decode prog_76_method_2_code 3 = .ok (.ishl, 1) := by decide +kernel
theorem d_p76_m2_4 : decode prog_76_method_2_code 4 = .ok (.iload_n 1, 1) := by decide +kernel
theorem d_p76_m2_5 : decode prog_76_method_2_code 5 = .ok (.ior, 1) := by decide +kernel
theorem d_p76_m2_6 : decode prog_76_method_2_code 6 = .ok (.i2c, 1) := by decide +kernel
theorem d_p76_m2_7 : decode prog_76_method_2_code 7 = .ok (.ireturn, 1) := by decide +kernel
theorem pn_1 : plainName "nearcast/engine/Share" = true := by first | (simp [plainName, overriddenIn]; done) | decide +kernel
def Q_rm_sh (p1 p2 : Int32) (h0 : Heap) (n0 : Nat) (v : Option Value) (h : Heap) (L : List Loc) : Prop := v = some (.int (shv p1 p2)) ∧ Fr n0 L ∧ h = h0
set_option maxRecDepth 65536 in
set_option maxHeartbeats 40000000 in
theorem rm_sh (l : Launch) (Z : State) (a0 : Array Value) (hw : ∀ d ∈ tables_1, d.before a0 Z = true) (ws : List Jvm.Cond) (p1 p2 : Int32) (h0 : Heap) (n0 : Nat) (O0 : Old Z n0 h0)  :
    Meets l (⟨"nearcast/engine/Share", "of", "(II)C"⟩ : MethodName) prog_76_method_2_code 2 (some .char) ws ({ frames := 0, cells := 0, slots := 0, locals := 0 } : Room) Z #[(.int p1), (.int p2)] h0 (Q_rm_sh p1 p2 h0 n0) 0 0 := by
  refine enter (Ls := #[.val (.int p1), .val (.int p2)]) (plainFor_of_name pn_1) (fun m => by first | (simp [entryFrame, mkF, argsToLocals, Value.category]; done) | rfl) ?_
  intro p e s m below meth c T0 hx hby hml hown hnm hret hlk hZ X0 e0
  have N0 := Fr.nil n0
  replace hown : s.vm.findClass "nearcast/engine/Share" = some m.cls := hown
  show Run p e below _ (T0.setTop (mkF m 0 #[.val (.int p1), .val (.int p2)] []))
  refine go (fun _ => XS.iloadN X0.here hx rfl (hb hby d_p76_m2_0) rfl) ?_
  show Run p e below _ (T0.setTop (mkF m 1 #[.val (.int p1), .val (.int p2)] [(.int p1)]))
  refine go (fun _ => XS.bipush X0.here hx rfl (hb hby d_p76_m2_1)) ?_
  show Run p e below _ (T0.setTop (mkF m 3 #[.val (.int p1), .val (.int p2)] [(.int (9 : Int32)), (.int p1)]))
  refine go (fun _ => XS.ishl X0.here hx rfl (hb hby d_p76_m2_3) rfl) ?_
  show Run p e below _ (T0.setTop (mkF m 4 #[.val (.int p1), .val (.int p2)] [(.int (p1 <<< ((9 : Int32) &&& 31)))]))
  refine go (fun _ => XS.iloadN X0.here hx rfl (hb hby d_p76_m2_4) rfl) ?_
  show Run p e below _ (T0.setTop (mkF m 5 #[.val (.int p1), .val (.int p2)] [(.int p2), (.int (p1 <<< ((9 : Int32) &&& 31)))]))
  refine go (fun _ => XS.ior X0.here hx rfl (hb hby d_p76_m2_5) rfl) ?_
  show Run p e below _ (T0.setTop (mkF m 6 #[.val (.int p1), .val (.int p2)] [(.int ((p1 <<< ((9 : Int32) &&& 31)) ||| p2))]))
  refine go (fun _ => XS.i2c X0.here hx rfl (hb hby d_p76_m2_6) rfl) ?_
  show Run p e below _ (T0.setTop (mkF m 7 #[.val (.int p1), .val (.int p2)] [(.int (((p1 <<< ((9 : Int32) &&& 31)) ||| p2).toUInt32.toUInt16.toUInt32.toInt32))]))
  exact endN X0 hx hlk (t := .char) hret (by simp) (hb hby d_p76_m2_7) (⟨rfl, N0, e0⟩) (by decide) (by decide)
theorem d_j117_m27_0 : decode jdk_117_method_27_code 0 = .ok (.dload_n 0, 1) := by decide +kernel
theorem d_j117_m27_1 : decode jdk_117_method_27_code 1 = .ok (.dload_n 2, 1) := by decide +kernel
theorem d_j117_m27_2 : decode jdk_117_method_27_code 2 = .ok (.dcmp .g, 1) := by decide +kernel
theorem d_j117_m27_3 : decode jdk_117_method_27_code 3 = .ok (.ifCond .ge 5, 3) := by decide +kernel
theorem d_j117_m27_6 : decode jdk_117_method_27_code 6 = .ok (.iconst (-1), 1) := by decide +kernel
theorem d_j117_m27_7 : decode jdk_117_method_27_code 7 = .ok (.ireturn, 1) := by decide +kernel
theorem d_j117_m27_8 : decode jdk_117_method_27_code 8 = .ok (.dload_n 0, 1) := by decide +kernel
theorem d_j117_m27_9 : decode jdk_117_method_27_code 9 = .ok (.dload_n 2, 1) := by decide +kernel
theorem d_j117_m27_10 : decode jdk_117_method_27_code 10 = .ok (.dcmp .l, 1) := by decide +kernel
theorem d_j117_m27_11 : decode jdk_117_method_27_code 11 = .ok (.ifCond .le 5, 3) := by decide +kernel
theorem d_j117_m27_14 : decode jdk_117_method_27_code 14 = .ok (.iconst 1, 1) := by decide +kernel
theorem d_j117_m27_15 : decode jdk_117_method_27_code 15 = .ok (.ireturn, 1) := by decide +kernel
theorem pn_2 : plainName "java/lang/Double" = true := by first | (simp [plainName, overriddenIn]; done) | decide +kernel
def Q_rm_cmp (d1 d2 : UInt64) (r : Int32) (h0 : Heap) (n0 : Nat) (v : Option Value) (h : Heap) (L : List Loc) : Prop := v = some (.int r) ∧ Fr n0 L ∧ h = h0
set_option maxRecDepth 65536 in
set_option maxHeartbeats 40000000 in
theorem rm_cmp (l : Launch) (Z : State) (a0 : Array Value) (hw : ∀ d ∈ tables_1, d.before a0 Z = true) (ws : List Jvm.Cond) (d1 d2 : UInt64) (r : Int32) (h0 : Heap) (n0 : Nat) (O0 : Old Z n0 h0) (hc : (FP.dcmp d1 d2 = some .lt ∧ r = (-1 : Int32)) ∨ (FP.dcmp d1 d2 = some .gt ∧ r = (1 : Int32))) :
    Meets l (⟨"java/lang/Double", "compare", "(DD)I"⟩ : MethodName) jdk_117_method_27_code 8 (some .int) ws ({ frames := 0, cells := 0, slots := 0, locals := 0 } : Room) Z #[(.double d1), (.double d2)] h0 (Q_rm_cmp d1 d2 r h0 n0) 0 0 := by
  refine enter (Ls := #[.val (.double d1), .second, .val (.double d2), .second, .unset, .unset, .unset, .unset]) (plainFor_of_name pn_2) (fun m => by first | (simp [entryFrame, mkF, argsToLocals, Value.category]; done) | rfl) ?_
  intro p e s m below meth c T0 hx hby hml hown hnm hret hlk hZ X0 e0
  have N0 := Fr.nil n0
  replace hown : s.vm.findClass "java/lang/Double" = some m.cls := hown
  show Run p e below _ (T0.setTop (mkF m 0 #[.val (.double d1), .second, .val (.double d2), .second, .unset, .unset, .unset, .unset] []))
  rcases hc with ⟨hc, rfl⟩ | ⟨hc, rfl⟩
  · skip
    refine go (fun _ => XS.dloadN X0.here hx rfl (hb hby d_j117_m27_0) rfl) ?_
    show Run p e below _ (T0.setTop (mkF m 1 #[.val (.double d1), .second, .val (.double d2), .second, .unset, .unset, .unset, .unset] [(.double d1)]))
    refine go (fun _ => XS.dloadN X0.here hx rfl (hb hby d_j117_m27_1) rfl) ?_
    show Run p e below _ (T0.setTop (mkF m 2 #[.val (.double d1), .second, .val (.double d2), .second, .unset, .unset, .unset, .unset] [(.double d2), (.double d1)]))
    refine go (fun _ => XS.dcmpS X0.here hx rfl (hb hby d_j117_m27_2) rfl (v := (-1 : Int32)) (by rw [hc]; rfl)) ?_
    show Run p e below _ (T0.setTop (mkF m 3 #[.val (.double d1), .second, .val (.double d2), .second, .unset, .unset, .unset, .unset] [(.int (-1 : Int32))]))
    refine go (fun _ => XS.ifNo X0.here hx rfl (hb hby d_j117_m27_3) rfl ((if0 _ _).trans (tlt (by decide : (-1 : Int32) < 0)).2.1)) ?_
    show Run p e below _ (T0.setTop (mkF m 6 #[.val (.double d1), .second, .val (.double d2), .second, .unset, .unset, .unset, .unset] []))
    refine go (fun _ => XS.iconst X0.here hx rfl (hb hby d_j117_m27_6)) ?_
    show Run p e below _ (T0.setTop (mkF m 7 #[.val (.double d1), .second, .val (.double d2), .second, .unset, .unset, .unset, .unset] [(.int (-1 : Int32))]))
    exact endI X0 hx hlk hret (hb hby d_j117_m27_7) (⟨rfl, N0, e0⟩) (by decide) (by decide)
  · skip
    refine go (fun _ => XS.dloadN X0.here hx rfl (hb hby d_j117_m27_0) rfl) ?_
    show Run p e below _ (T0.setTop (mkF m 1 #[.val (.double d1), .second, .val (.double d2), .second, .unset, .unset, .unset, .unset] [(.double d1)]))
    refine go (fun _ => XS.dloadN X0.here hx rfl (hb hby d_j117_m27_1) rfl) ?_
    show Run p e below _ (T0.setTop (mkF m 2 #[.val (.double d1), .second, .val (.double d2), .second, .unset, .unset, .unset, .unset] [(.double d2), (.double d1)]))
    refine go (fun _ => XS.dcmpS X0.here hx rfl (hb hby d_j117_m27_2) rfl (v := (1 : Int32)) (by rw [hc]; rfl)) ?_
    show Run p e below _ (T0.setTop (mkF m 3 #[.val (.double d1), .second, .val (.double d2), .second, .unset, .unset, .unset, .unset] [(.int (1 : Int32))]))
    refine go (fun _ => XS.ifYes X0.here hx rfl (pc0 := 3) (pc' := 8) rfl (hb hby d_j117_m27_3) rfl ((if0 _ _).trans (flt (by decide : ¬ ((1 : Int32) < 0))).2.1) (by decide) (by decide)) ?_
    show Run p e below _ (T0.setTop (mkF m 8 #[.val (.double d1), .second, .val (.double d2), .second, .unset, .unset, .unset, .unset] []))
    refine go (fun _ => XS.dloadN X0.here hx rfl (hb hby d_j117_m27_8) rfl) ?_
    show Run p e below _ (T0.setTop (mkF m 9 #[.val (.double d1), .second, .val (.double d2), .second, .unset, .unset, .unset, .unset] [(.double d1)]))
    refine go (fun _ => XS.dloadN X0.here hx rfl (hb hby d_j117_m27_9) rfl) ?_
    show Run p e below _ (T0.setTop (mkF m 10 #[.val (.double d1), .second, .val (.double d2), .second, .unset, .unset, .unset, .unset] [(.double d2), (.double d1)]))
    refine go (fun _ => XS.dcmpS X0.here hx rfl (hb hby d_j117_m27_10) rfl (v := (1 : Int32)) (by rw [hc]; rfl)) ?_
    show Run p e below _ (T0.setTop (mkF m 11 #[.val (.double d1), .second, .val (.double d2), .second, .unset, .unset, .unset, .unset] [(.int (1 : Int32))]))
    refine go (fun _ => XS.ifNo X0.here hx rfl (hb hby d_j117_m27_11) rfl ((if0 _ _).trans (tlt (by decide : (0 : Int32) < 1)).2.2.2)) ?_
    show Run p e below _ (T0.setTop (mkF m 14 #[.val (.double d1), .second, .val (.double d2), .second, .unset, .unset, .unset, .unset] []))
    refine go (fun _ => XS.iconst X0.here hx rfl (hb hby d_j117_m27_14)) ?_
    show Run p e below _ (T0.setTop (mkF m 15 #[.val (.double d1), .second, .val (.double d2), .second, .unset, .unset, .unset, .unset] [(.int (1 : Int32))]))
    exact endI X0 hx hlk hret (hb hby d_j117_m27_15) (⟨rfl, N0, e0⟩) (by decide) (by decide)
theorem d_p74_m11_0 : decode prog_74_method_11_code 0 = .ok (.dload 4, 2) := by decide +kernel
theorem d_p74_m11_2 : decode prog_74_method_11_code 2 = .ok (.dload_n 0, 1) := by decide +kernel
theorem d_p74_m11_3 : decode prog_74_method_11_code 3 = .ok (.invokestatic 43, 3) := by decide +kernel
theorem pd_2 : parseMethodDescriptor "(DD)I" = some ⟨[.double, .double], some .int⟩ := by decide +kernel
theorem d_p74_m11_6 : decode prog_74_method_11_code 6 = .ok (.istore 8, 2) := by decide +kernel
theorem d_p74_m11_8 : decode prog_74_method_11_code 8 = .ok (.iload 8, 2) := by decide +kernel
theorem d_p74_m11_10 : decode prog_74_method_11_code 10 = .ok (.ifCond .eq 8, 3) := by decide +kernel
theorem d_p74_m11_13 : decode prog_74_method_11_code 13 = .ok (.iload 8, 2) := by decide +kernel
theorem d_p74_m11_15 : decode prog_74_method_11_code 15 = .ok (.goto 9, 3) := by decide +kernel
theorem d_p74_m11_24 : decode prog_74_method_11_code 24 = .ok (.ireturn, 1) := by decide +kernel
def Q_rm_bf (d1 d2 : UInt64) (l1 l2 : Int64) (r : Int32) (h0 : Heap) (n0 : Nat) (v : Option Value) (h : Heap) (L : List Loc) : Prop := v = some (.int r) ∧ Fr n0 L ∧ h = h0
set_option maxRecDepth 65536 in
set_option maxHeartbeats 40000000 in
theorem rm_bf (l : Launch) (Z : State) (a0 : Array Value) (hw : ∀ d ∈ tables_1, d.before a0 Z = true) (ws : List Jvm.Cond) (d1 d2 : UInt64) (l1 l2 : Int64) (r : Int32) (h0 : Heap) (n0 : Nat) (O0 : Old Z n0 h0) (hc : (FP.dcmp d1 d2 = some .lt ∧ r = (-1 : Int32)) ∨ (FP.dcmp d1 d2 = some .gt ∧ r = (1 : Int32))) :
    Meets l (⟨"nearcast/engine/Score", "bestFirst", "(DJDJ)I"⟩ : MethodName) prog_74_method_11_code 9 (some .int) ws ({ frames := 1, cells := 0, slots := 0, locals := 19 } : Room) Z #[(.double d2), (.long l1), (.double d1), (.long l2)] h0 (Q_rm_bf d1 d2 l1 l2 r h0 n0) 0 0 := by
  refine enter (Ls := #[.val (.double d2), .second, .val (.long l1), .second, .val (.double d1), .second, .val (.long l2), .second, .unset]) (plainFor_of_name pn_0) (fun m => by first | (simp [entryFrame, mkF, argsToLocals, Value.category]; done) | rfl) ?_
  intro p e s m below meth c T0 hx hby hml hown hnm hret hlk hZ X0 e0
  have N0 := Fr.nil n0
  replace hown : s.vm.findClass "nearcast/engine/Score" = some m.cls := hown
  show Run p e below _ (T0.setTop (mkF m 0 #[.val (.double d2), .second, .val (.long l1), .second, .val (.double d1), .second, .val (.long l2), .second, .unset] []))
  have hr : ¬ r = 0 := by rcases hc with ⟨-, rfl⟩ | ⟨-, rfl⟩ <;> decide
  refine go (fun _ => XS.dload X0.here hx rfl (hb hby d_p74_m11_0) rfl) ?_
  show Run p e below _ (T0.setTop (mkF m 2 #[.val (.double d2), .second, .val (.long l1), .second, .val (.double d1), .second, .val (.long l2), .second, .unset] [(.double d1)]))
  refine go (fun _ => XS.dloadN X0.here hx rfl (hb hby d_p74_m11_2) rfl) ?_
  show Run p e below _ (T0.setTop (mkF m 3 #[.val (.double d2), .second, .val (.long l1), .second, .val (.double d1), .second, .val (.long l2), .second, .unset] [(.double d2), (.double d1)]))
  refine callSt X0 hx hZ hown (wd hw 76 rfl) (wd hw 77 rfl) (wd hw 78 rfl) (wd hw 79 rfl) (by decide) e0 (argsL := [(.double d1), (.double d2)]) (rest := []) (rm_cmp l Z a0 hw [] d1 d2 r h0 n0 O0 hc) (W := 0) (by decide) (by decide) (by decide) (by decide) (by rw [hml]; rfl) (lenOf pd_2 rfl) rfl (Nat.le_of_eq rfl) (hb hby d_p74_m11_3) ?_
  intro v3 T3 L3 h3 X3 e3 q3
  obtain ⟨rv, n3, k3⟩ := q3
  replace rv : v3 = some (.int r) := rv
  subst rv
  have e3 := e3.trans k3
  have N3 := Fr.app N0 n3
  show Run p e below _ (T3.setTop (mkF m 6 #[.val (.double d2), .second, .val (.long l1), .second, .val (.double d1), .second, .val (.long l2), .second, .unset] [(.int r)]))
  refine go (fun _ => XS.istore X3.here hx rfl (hb hby d_p74_m11_6) rfl (l' := #[.val (.double d2), .second, .val (.long l1), .second, .val (.double d1), .second, .val (.long l2), .second, .val (.int r)]) rfl) ?_
  show Run p e below _ (T3.setTop (mkF m 8 #[.val (.double d2), .second, .val (.long l1), .second, .val (.double d1), .second, .val (.long l2), .second, .val (.int r)] []))
  refine go (fun _ => XS.iload X3.here hx rfl (hb hby d_p74_m11_8) rfl) ?_
  show Run p e below _ (T3.setTop (mkF m 10 #[.val (.double d2), .second, .val (.long l1), .second, .val (.double d1), .second, .val (.long l2), .second, .val (.int r)] [(.int r)]))
  refine go (fun _ => XS.ifNo X3.here hx rfl (hb hby d_p74_m11_10) rfl ((if0 _ _).trans (feq hr).1)) ?_
  show Run p e below _ (T3.setTop (mkF m 13 #[.val (.double d2), .second, .val (.long l1), .second, .val (.double d1), .second, .val (.long l2), .second, .val (.int r)] []))
  refine go (fun _ => XS.iload X3.here hx rfl (hb hby d_p74_m11_13) rfl) ?_
  show Run p e below _ (T3.setTop (mkF m 15 #[.val (.double d2), .second, .val (.long l1), .second, .val (.double d1), .second, .val (.long l2), .second, .val (.int r)] [(.int r)]))
  refine go (fun _ => XS.goto X3.here hx rfl (pc0 := 15) (pc' := 24) rfl (hb hby d_p74_m11_15) (by decide) (by decide)) ?_
  show Run p e below _ (T3.setTop (mkF m 24 #[.val (.double d2), .second, .val (.long l1), .second, .val (.double d1), .second, .val (.long l2), .second, .val (.int r)] [(.int r)]))
  exact endI X3 hx hlk hret (hb hby d_p74_m11_24) (⟨rfl, N3, e3⟩) (by decide) (by decide)
theorem pd_3 : parseMethodDescriptor "(DD)D" = some ⟨[.double, .double], some .double⟩ := by decide +kernel
theorem max_code : jdk_29_method_68_code = Jvm.Free.Fl.Abs.maxDCode := by decide +kernel
/-- Math.max(double, double) is the machine's own -/
theorem callMax {p : Program} {l : Launch} {e : Env} {R : Room} {s : State} {m : MethodId} {args : Array Value} {below : List Frame} {meth : Method} {c : Code} {T : State} {locs : List Loc} {cells slots : Nat} {Z : State} {a0 : Array Value} {h : Heap} (X : Stand p l e R s m args below meth c T locs cells slots) (hx : p.tables.exec = Jvm.exec) (hZ : Z.Warmed39 s.vm) {own : String} {index : Nat} (hown : s.vm.findClass own = some m.cls)
    (w1 : (Jvm.Cond.methodLink own index Jvm.Free.Fl.Abs.maxDN).before a0 Z = true) (w2 : (Jvm.Cond.static Jvm.Free.Fl.Abs.maxDN).before a0 Z = true) (w3 : (Jvm.Cond.initialized Jvm.Free.Fl.Abs.maxDN.cls).before a0 Z = true) (w4 : (Jvm.Cond.code Jvm.Free.Fl.Abs.maxDN jdk_29_method_68_code 4 (some .double)).before a0 Z = true) (eT : T.heap = h) {x y : UInt64} {rest : List Value}
    (hnx : Jvm.Free.Fl.NoNaN64 x) (hny : Jvm.Free.Fl.NoNaN64 y) (hl : FP.dcmp x y = some .lt) {W : Nat} (hf : 1 ≤ R.frames) (hlo : W + 15 ≤ R.locals) (hc : cells ≤ R.cells) (hn : slots ≤ R.slots)
    {pc : Nat} {Ls : Array Slot} (hsize : Ls.size = c.maxLocals) (hW : (rest.map fun v => v.category).sum ≤ W) (hd : decode c.code pc = .ok (.invokestatic index, 3)) {A : Outcome → State → Prop}
    (kk : ∀ (T' : State), Stand p l e R s m args below meth c T' locs cells slots → T'.heap = h → Run p e below A (T'.setTop (mkF m (pc + 3) Ls (.double y :: rest)))) : Run p e below A (T.setTop (mkF m pc Ls (.double y :: .double x :: rest))) := by
  have hpk : Native.java_lang_Math.nans.pick64 true x y = y := by unfold Native.java_lang_Math.nans.pick64; rw [hl]; rfl
  have w4' : (Jvm.Cond.code Jvm.Free.Fl.Abs.maxDN Jvm.Free.Fl.Abs.maxDCode 4 (some .double)).before args s = true := max_code ▸ (mvT hZ w4)
  obtain ⟨v, vm1, B18, -, X18, ⟨hv, hB⟩, st18⟩ := Jvm.LawKit.callS X hx hown (mvT hZ w1) (mvT hZ w2) (mvT hZ w3) w4' (by decide) (Jvm.Free.Fl.Abs.maxD_pays (W := W) x y w4' hf hlo) (g := mkF m pc Ls (.double y :: .double x :: rest)) rfl hsize (argsL := [.double x, .double y]) (rest := rest) (lenOf pd_3 rfl) rfl (by show 2 * 0 + _ ≤ _; omega) hd (fun _ _ => ⟨hc, hn, rfl, hnx, hny⟩)
  subst hB
  dsimp only [Pt.U, Pt.locs, Pt.cells, Pt.slots] at X18 st18
  rw [hv, hpk] at st18
  exact go st18 (kk _ X18 eT)
theorem d_p15_m16_0 : decode prog_15_method_16_code 0 = .ok (.aload_n 0, 1) := by decide +kernel
theorem d_p15_m16_1 : decode prog_15_method_16_code 1 = .ok (.aload_n 0, 1) := by decide +kernel
theorem d_p15_m16_2 : decode prog_15_method_16_code 2 = .ok (.getfield 18, 3) := by decide +kernel
theorem d_p15_m16_5 : decode prog_15_method_16_code 5 = .ok (.dload_n 1, 1) := by decide +kernel
theorem d_p15_m16_6 : decode prog_15_method_16_code 6 = .ok (.invokestatic 140, 3) := by decide +kernel
theorem d_p15_m16_9 : decode prog_15_method_16_code 9 = .ok (.putfield 18, 3) := by decide +kernel
theorem d_p15_m16_12 : decode prog_15_method_16_code 12 = .ok (.return_, 1) := by decide +kernel
theorem pn_3 : plainName "nearcast/engine/Best" = true := by first | (simp [plainName, overriddenIn]; done) | decide +kernel
def Q_rm_lo (Z : State) (a : Addr) (lo al : UInt64) (kw ct sz : Int32) (sd : Int64) (od hp : Int32) (s1 s2 s3 s4 : Addr) (d2 : UInt64) (h0 : Heap) (n0 : Nat) (v : Option Value) (h : Heap) (L : List Loc) : Prop := v = none ∧ Fr n0 L ∧ Keep h0 h [a] ∧ Exa Z h a "nearcast/engine/Best" ∧ Fld Z h a "nearcast/engine/Best" "leftOut" "D" (.double d2) ∧ Fld Z h a "nearcast/engine/Best" "slots" "[I" (.ref s1) ∧ Fld Z h a "nearcast/engine/Best" "published" "[J" (.ref s2) ∧ Fld Z h a "nearcast/engine/Best" "scores" "[D" (.ref s3) ∧ Fld Z h a "nearcast/engine/Best" "shares" "[C" (.ref s4) ∧ Fld Z h a "nearcast/engine/Best" "alpha" "D" (.double al) ∧ Fld Z h a "nearcast/engine/Best" "keywords" "I" (.int kw) ∧ Fld Z h a "nearcast/engine/Best" "count" "I" (.int ct) ∧ Fld Z h a "nearcast/engine/Best" "size" "I" (.int sz) ∧ Fld Z h a "nearcast/engine/Best" "scored" "J" (.long sd) ∧ Fld Z h a "nearcast/engine/Best" "ordered" "Z" (.int od) ∧ Fld Z h a "nearcast/engine/Best" "heap" "Z" (.int hp)
set_option maxRecDepth 65536 in
set_option maxHeartbeats 40000000 in
theorem rm_lo (l : Launch) (Z : State) (a0 : Array Value) (hw : ∀ d ∈ tables_1, d.before a0 Z = true) (ws : List Jvm.Cond) (a : Addr) (lo al : UInt64) (kw ct sz : Int32) (sd : Int64) (od hp : Int32) (s1 s2 s3 s4 : Addr) (d2 : UInt64) (h0 : Heap) (n0 : Nat) (O0 : Old Z n0 h0) (E_a : Exa Z h0 a "nearcast/engine/Best") (F_leftOut_a : Fld Z h0 a "nearcast/engine/Best" "leftOut" "D" (.double lo)) (F_slots_a : Fld Z h0 a "nearcast/engine/Best" "slots" "[I" (.ref s1)) (F_published_a : Fld Z h0 a "nearcast/engine/Best" "published" "[J" (.ref s2)) (F_scores_a : Fld Z h0 a "nearcast/engine/Best" "scores" "[D" (.ref s3)) (F_shares_a : Fld Z h0 a "nearcast/engine/Best" "shares" "[C" (.ref s4)) (F_alpha_a : Fld Z h0 a "nearcast/engine/Best" "alpha" "D" (.double al)) (F_keywords_a : Fld Z h0 a "nearcast/engine/Best" "keywords" "I" (.int kw)) (F_count_a : Fld Z h0 a "nearcast/engine/Best" "count" "I" (.int ct)) (F_size_a : Fld Z h0 a "nearcast/engine/Best" "size" "I" (.int sz)) (F_scored_a : Fld Z h0 a "nearcast/engine/Best" "scored" "J" (.long sd)) (F_ordered_a : Fld Z h0 a "nearcast/engine/Best" "ordered" "Z" (.int od)) (F_heap_a : Fld Z h0 a "nearcast/engine/Best" "heap" "Z" (.int hp)) (g_a : n0 ≤ a) (hnx : Jvm.Free.Fl.NoNaN64 lo) (hny : Jvm.Free.Fl.NoNaN64 d2) (hl : FP.dcmp lo d2 = some .lt) :
    Meets l (⟨"nearcast/engine/Best", "leaveOut", "(D)V"⟩ : MethodName) prog_15_method_16_code 3 none ws ({ frames := 1, cells := 0, slots := 0, locals := 16 } : Room) Z #[(.ref a), (.double d2)] h0 (Q_rm_lo Z a lo al kw ct sz sd od hp s1 s2 s3 s4 d2 h0 n0) 0 0 := by
  refine enter (Ls := #[.val (.ref a), .val (.double d2), .second]) (plainFor_of_name pn_3) (fun m => by first | (simp [entryFrame, mkF, argsToLocals, Value.category]; done) | rfl) ?_
  intro p e s m below meth c T0 hx hby hml hown hnm hret hlk hZ X0 e0
  have N0 := Fr.nil n0
  replace hown : s.vm.findClass "nearcast/engine/Best" = some m.cls := hown
  show Run p e below _ (T0.setTop (mkF m 0 #[.val (.ref a), .val (.double d2), .second] []))
  have K0 := Keep.refl h0 [a]
  refine go (fun _ => XS.aloadN X0.here hx rfl (hb hby d_p15_m16_0) rfl rfl) ?_
  show Run p e below _ (T0.setTop (mkF m 1 #[.val (.ref a), .val (.double d2), .second] [(.ref a)]))
  refine go (fun _ => XS.aloadN X0.here hx rfl (hb hby d_p15_m16_1) rfl rfl) ?_
  show Run p e below _ (T0.setTop (mkF m 2 #[.val (.ref a), .val (.double d2), .second] [(.ref a), (.ref a)]))
  obtain ⟨T4, X4, e4, st4⟩ := getF X0 hx hZ hown (host := "") (Or.inl (wd hw 10 rfl)) Via.refl e0 F_leftOut_a (g := (mkF m 2 #[.val (.ref a), .val (.double d2), .second] [(.ref a), (.ref a)])) rfl rfl (hb hby d_p15_m16_2)
  refine go st4 ?_
  show Run p e below _ (T4.setTop (mkF m 5 #[.val (.ref a), .val (.double d2), .second] [(.double lo), (.ref a)]))
  refine go (fun _ => XS.dloadN X4.here hx rfl (hb hby d_p15_m16_5) rfl) ?_
  show Run p e below _ (T4.setTop (mkF m 6 #[.val (.ref a), .val (.double d2), .second] [(.double d2), (.double lo), (.ref a)]))
  refine callMax X4 hx hZ hown (wd hw 84 rfl) (wd hw 85 rfl) (wd hw 86 rfl) (wd hw 87 rfl) e4 (rest := [(.ref a)]) hnx hny hl (W := 1) (by decide) (by decide) (by decide) (by decide) (by rw [hml]; rfl) (Nat.le_of_eq rfl) (hb hby d_p15_m16_6) ?_
  intro T5 X5 e5
  show Run p e below _ (T5.setTop (mkF m 9 #[.val (.ref a), .val (.double d2), .second] [(.double d2), (.ref a)]))
  obtain ⟨T6, h6, X6, e6, W6, st6⟩ := putF X5 hx hZ hown (host := "") (Or.inl (wd hw 10 rfl)) Via.refl e5 F_leftOut_a E_a (Or.inl (wd hw 11 rfl)) (wd hw 1 rfl) (ty := .double) (by decide) rfl rfl (g := (mkF m 9 #[.val (.ref a), .val (.double d2), .second] [(.double d2), (.ref a)])) rfl rfl (hb hby d_p15_m16_9)
  have O0 := O0.wr W6 g_a
  have E_a := E_a.wr W6
  have F_leftOut_a := F_leftOut_a.same W6
  have F_slots_a := F_slots_a.other W6 (Or.inr (slot_ne (Or.inl (wd hw 14 rfl)) (Or.inl (wd hw 11 rfl)) (by decide) (t := (.array .int)) (t' := .double) (by decide) (by decide)))
  have F_published_a := F_published_a.other W6 (Or.inr (slot_ne (Or.inl (wd hw 17 rfl)) (Or.inl (wd hw 11 rfl)) (by decide) (t := (.array .long)) (t' := .double) (by decide) (by decide)))
  have F_scores_a := F_scores_a.other W6 (Or.inr (slot_ne (Or.inl (wd hw 20 rfl)) (Or.inl (wd hw 11 rfl)) (by decide) (t := (.array .double)) (t' := .double) (by decide) (by decide)))
  have F_shares_a := F_shares_a.other W6 (Or.inr (slot_ne (Or.inl (wd hw 23 rfl)) (Or.inl (wd hw 11 rfl)) (by decide) (t := (.array .char)) (t' := .double) (by decide) (by decide)))
  have F_alpha_a := F_alpha_a.other W6 (Or.inr (slot_ne (Or.inl (wd hw 31 rfl)) (Or.inl (wd hw 11 rfl)) (by decide) (t := .double) (t' := .double) (by decide) (by decide)))
  have F_keywords_a := F_keywords_a.other W6 (Or.inr (slot_ne (Or.inl (wd hw 33 rfl)) (Or.inl (wd hw 11 rfl)) (by decide) (t := .int) (t' := .double) (by decide) (by decide)))
  have F_count_a := F_count_a.other W6 (Or.inr (slot_ne (Or.inl (wd hw 35 rfl)) (Or.inl (wd hw 11 rfl)) (by decide) (t := .int) (t' := .double) (by decide) (by decide)))
  have F_size_a := F_size_a.other W6 (Or.inr (slot_ne (Or.inl (wd hw 37 rfl)) (Or.inl (wd hw 11 rfl)) (by decide) (t := .int) (t' := .double) (by decide) (by decide)))
  have F_scored_a := F_scored_a.other W6 (Or.inr (slot_ne (Or.inl (wd hw 39 rfl)) (Or.inl (wd hw 11 rfl)) (by decide) (t := .long) (t' := .double) (by decide) (by decide)))
  have F_ordered_a := F_ordered_a.other W6 (Or.inr (slot_ne (Or.inl (wd hw 41 rfl)) (Or.inl (wd hw 11 rfl)) (by decide) (t := .boolean) (t' := .double) (by decide) (by decide)))
  have F_heap_a := F_heap_a.other W6 (Or.inr (slot_ne (Or.inl (wd hw 43 rfl)) (Or.inl (wd hw 11 rfl)) (by decide) (t := .boolean) (t' := .double) (by decide) (by decide)))
  have K0 := K0.wr W6 (Or.inl (by simp))
  have N6 := Fr.snoc X6 N0 g_a
  refine go st6 ?_
  show Run p e below _ (T6.setTop (mkF m 12 #[.val (.ref a), .val (.double d2), .second] []))
  exact endV X6 hx hlk hret (hb hby d_p15_m16_12) (by rw [e6]; exact ⟨rfl, N6, K0, E_a, F_leftOut_a, F_slots_a, F_published_a, F_scores_a, F_shares_a, F_alpha_a, F_keywords_a, F_count_a, F_size_a, F_scored_a, F_ordered_a, F_heap_a⟩) (by decide) (by decide)
theorem d_p15_m3_0 : decode prog_15_method_3_code 0 = .ok (.aload_n 0, 1) := by decide +kernel
theorem d_p15_m3_1 : decode prog_15_method_3_code 1 = .ok (.dload_n 1, 1) := by decide +kernel
theorem d_p15_m3_2 : decode prog_15_method_3_code 2 = .ok (.putfield 38, 3) := by decide +kernel
theorem d_p15_m3_5 : decode prog_15_method_3_code 5 = .ok (.aload_n 0, 1) := by decide +kernel
theorem d_p15_m3_6 : decode prog_15_method_3_code 6 = .ok (.iload_n 3, 1) := by decide +kernel
theorem d_p15_m3_7 : decode prog_15_method_3_code 7 = .ok (.putfield 41, 3) := by decide +kernel
theorem d_p15_m3_10 : decode prog_15_method_3_code 10 = .ok (.aload_n 0, 1) := by decide +kernel
theorem d_p15_m3_11 : decode prog_15_method_3_code 11 = .ok (.iload 4, 2) := by decide +kernel
theorem d_p15_m3_13 : decode prog_15_method_3_code 13 = .ok (.putfield 45, 3) := by decide +kernel
theorem d_p15_m3_16 : decode prog_15_method_3_code 16 = .ok (.aload_n 0, 1) := by decide +kernel
theorem d_p15_m3_17 : decode prog_15_method_3_code 17 = .ok (.iconst 0, 1) := by decide +kernel
theorem d_p15_m3_18 : decode prog_15_method_3_code 18 = .ok (.putfield 48, 3) := by decide +kernel
theorem d_p15_m3_21 : decode prog_15_method_3_code 21 = .ok (.aload_n 0, 1) := by decide +kernel
theorem d_p15_m3_22 : decode prog_15_method_3_code 22 = .ok (.lconst 0, 1) := by decide +kernel
theorem d_p15_m3_23 : decode prog_15_method_3_code 23 = .ok (.putfield 51, 3) := by decide +kernel
theorem d_p15_m3_26 : decode prog_15_method_3_code 26 = .ok (.aload_n 0, 1) := by decide +kernel
theorem d_p15_m3_27 : decode prog_15_method_3_code 27 = .ok (.ldc2_w 16, 3) := by decide +kernel
theorem d_p15_m3_30 : decode prog_15_method_3_code 30 = .ok (.putfield 18, 3) := by decide +kernel
theorem d_p15_m3_33 : decode prog_15_method_3_code 33 = .ok (.aload_n 0, 1) := by decide +kernel
theorem d_p15_m3_34 : decode prog_15_method_3_code 34 = .ok (.iconst 0, 1) := by decide +kernel
theorem d_p15_m3_35 : decode prog_15_method_3_code 35 = .ok (.putfield 55, 3) := by decide +kernel
theorem d_p15_m3_38 : decode prog_15_method_3_code 38 = .ok (.aload_n 0, 1) := by decide +kernel
theorem d_p15_m3_39 : decode prog_15_method_3_code 39 = .ok (.iconst 0, 1) := by decide +kernel
theorem d_p15_m3_40 : decode prog_15_method_3_code 40 = .ok (.putfield 59, 3) := by decide +kernel
theorem d_p15_m3_43 : decode prog_15_method_3_code 43 = .ok (.return_, 1) := by decide +kernel
def Q_rm_rs (Z : State) (a : Addr) (lo al : UInt64) (kw ct sz : Int32) (sd : Int64) (od hp : Int32) (s1 s2 s3 s4 : Addr) (d2 : UInt64) (p2 p3 : Int32) (h0 : Heap) (n0 : Nat) (v : Option Value) (h : Heap) (L : List Loc) : Prop := v = none ∧ Fr n0 L ∧ Keep h0 h [a] ∧ Exa Z h a "nearcast/engine/Best" ∧ Fld Z h a "nearcast/engine/Best" "leftOut" "D" (.double (18442240474082181120 : UInt64)) ∧ Fld Z h a "nearcast/engine/Best" "slots" "[I" (.ref s1) ∧ Fld Z h a "nearcast/engine/Best" "published" "[J" (.ref s2) ∧ Fld Z h a "nearcast/engine/Best" "scores" "[D" (.ref s3) ∧ Fld Z h a "nearcast/engine/Best" "shares" "[C" (.ref s4) ∧ Fld Z h a "nearcast/engine/Best" "alpha" "D" (.double d2) ∧ Fld Z h a "nearcast/engine/Best" "keywords" "I" (.int p2) ∧ Fld Z h a "nearcast/engine/Best" "count" "I" (.int p3) ∧ Fld Z h a "nearcast/engine/Best" "size" "I" (.int (0 : Int32)) ∧ Fld Z h a "nearcast/engine/Best" "scored" "J" (.long (0 : Int64)) ∧ Fld Z h a "nearcast/engine/Best" "ordered" "Z" (.int (0 : Int32)) ∧ Fld Z h a "nearcast/engine/Best" "heap" "Z" (.int (0 : Int32))
set_option maxRecDepth 65536 in
set_option maxHeartbeats 40000000 in
theorem rm_rs (l : Launch) (Z : State) (a0 : Array Value) (hw : ∀ d ∈ tables_1, d.before a0 Z = true) (ws : List Jvm.Cond) (a : Addr) (lo al : UInt64) (kw ct sz : Int32) (sd : Int64) (od hp : Int32) (s1 s2 s3 s4 : Addr) (d2 : UInt64) (p2 p3 : Int32) (h0 : Heap) (n0 : Nat) (O0 : Old Z n0 h0) (E_a : Exa Z h0 a "nearcast/engine/Best") (F_leftOut_a : Fld Z h0 a "nearcast/engine/Best" "leftOut" "D" (.double lo)) (F_slots_a : Fld Z h0 a "nearcast/engine/Best" "slots" "[I" (.ref s1)) (F_published_a : Fld Z h0 a "nearcast/engine/Best" "published" "[J" (.ref s2)) (F_scores_a : Fld Z h0 a "nearcast/engine/Best" "scores" "[D" (.ref s3)) (F_shares_a : Fld Z h0 a "nearcast/engine/Best" "shares" "[C" (.ref s4)) (F_alpha_a : Fld Z h0 a "nearcast/engine/Best" "alpha" "D" (.double al)) (F_keywords_a : Fld Z h0 a "nearcast/engine/Best" "keywords" "I" (.int kw)) (F_count_a : Fld Z h0 a "nearcast/engine/Best" "count" "I" (.int ct)) (F_size_a : Fld Z h0 a "nearcast/engine/Best" "size" "I" (.int sz)) (F_scored_a : Fld Z h0 a "nearcast/engine/Best" "scored" "J" (.long sd)) (F_ordered_a : Fld Z h0 a "nearcast/engine/Best" "ordered" "Z" (.int od)) (F_heap_a : Fld Z h0 a "nearcast/engine/Best" "heap" "Z" (.int hp)) (g_a : n0 ≤ a)  :
    Meets l (⟨"nearcast/engine/Best", "reset", "(DII)V"⟩ : MethodName) prog_15_method_3_code 5 none ws ({ frames := 0, cells := 0, slots := 0, locals := 0 } : Room) Z #[(.ref a), (.double d2), (.int p2), (.int p3)] h0 (Q_rm_rs Z a lo al kw ct sz sd od hp s1 s2 s3 s4 d2 p2 p3 h0 n0) 0 0 := by
  refine enter (Ls := #[.val (.ref a), .val (.double d2), .second, .val (.int p2), .val (.int p3)]) (plainFor_of_name pn_3) (fun m => by first | (simp [entryFrame, mkF, argsToLocals, Value.category]; done) | rfl) ?_
  intro p e s m below meth c T0 hx hby hml hown hnm hret hlk hZ X0 e0
  have N0 := Fr.nil n0
  replace hown : s.vm.findClass "nearcast/engine/Best" = some m.cls := hown
  show Run p e below _ (T0.setTop (mkF m 0 #[.val (.ref a), .val (.double d2), .second, .val (.int p2), .val (.int p3)] []))
  have K0 := Keep.refl h0 [a]
  refine go (fun _ => XS.aloadN X0.here hx rfl (hb hby d_p15_m3_0) rfl rfl) ?_
  show Run p e below _ (T0.setTop (mkF m 1 #[.val (.ref a), .val (.double d2), .second, .val (.int p2), .val (.int p3)] [(.ref a)]))
  refine go (fun _ => XS.dloadN X0.here hx rfl (hb hby d_p15_m3_1) rfl) ?_
  show Run p e below _ (T0.setTop (mkF m 2 #[.val (.ref a), .val (.double d2), .second, .val (.int p2), .val (.int p3)] [(.double d2), (.ref a)]))
  obtain ⟨T7, h7, X7, e7, W7, st7⟩ := putF X0 hx hZ hown (host := "") (Or.inl (wd hw 30 rfl)) Via.refl e0 F_alpha_a E_a (Or.inl (wd hw 31 rfl)) (wd hw 1 rfl) (ty := .double) (by decide) rfl rfl (g := (mkF m 2 #[.val (.ref a), .val (.double d2), .second, .val (.int p2), .val (.int p3)] [(.double d2), (.ref a)])) rfl rfl (hb hby d_p15_m3_2)
  have O0 := O0.wr W7 g_a
  have E_a := E_a.wr W7
  have F_leftOut_a := F_leftOut_a.other W7 (Or.inr (slot_ne (Or.inl (wd hw 11 rfl)) (Or.inl (wd hw 31 rfl)) (by decide) (t := .double) (t' := .double) (by decide) (by decide)))
  have F_slots_a := F_slots_a.other W7 (Or.inr (slot_ne (Or.inl (wd hw 14 rfl)) (Or.inl (wd hw 31 rfl)) (by decide) (t := (.array .int)) (t' := .double) (by decide) (by decide)))
  have F_published_a := F_published_a.other W7 (Or.inr (slot_ne (Or.inl (wd hw 17 rfl)) (Or.inl (wd hw 31 rfl)) (by decide) (t := (.array .long)) (t' := .double) (by decide) (by decide)))
  have F_scores_a := F_scores_a.other W7 (Or.inr (slot_ne (Or.inl (wd hw 20 rfl)) (Or.inl (wd hw 31 rfl)) (by decide) (t := (.array .double)) (t' := .double) (by decide) (by decide)))
  have F_shares_a := F_shares_a.other W7 (Or.inr (slot_ne (Or.inl (wd hw 23 rfl)) (Or.inl (wd hw 31 rfl)) (by decide) (t := (.array .char)) (t' := .double) (by decide) (by decide)))
  have F_alpha_a := F_alpha_a.same W7
  have F_keywords_a := F_keywords_a.other W7 (Or.inr (slot_ne (Or.inl (wd hw 33 rfl)) (Or.inl (wd hw 31 rfl)) (by decide) (t := .int) (t' := .double) (by decide) (by decide)))
  have F_count_a := F_count_a.other W7 (Or.inr (slot_ne (Or.inl (wd hw 35 rfl)) (Or.inl (wd hw 31 rfl)) (by decide) (t := .int) (t' := .double) (by decide) (by decide)))
  have F_size_a := F_size_a.other W7 (Or.inr (slot_ne (Or.inl (wd hw 37 rfl)) (Or.inl (wd hw 31 rfl)) (by decide) (t := .int) (t' := .double) (by decide) (by decide)))
  have F_scored_a := F_scored_a.other W7 (Or.inr (slot_ne (Or.inl (wd hw 39 rfl)) (Or.inl (wd hw 31 rfl)) (by decide) (t := .long) (t' := .double) (by decide) (by decide)))
  have F_ordered_a := F_ordered_a.other W7 (Or.inr (slot_ne (Or.inl (wd hw 41 rfl)) (Or.inl (wd hw 31 rfl)) (by decide) (t := .boolean) (t' := .double) (by decide) (by decide)))
  have F_heap_a := F_heap_a.other W7 (Or.inr (slot_ne (Or.inl (wd hw 43 rfl)) (Or.inl (wd hw 31 rfl)) (by decide) (t := .boolean) (t' := .double) (by decide) (by decide)))
  have K0 := K0.wr W7 (Or.inl (by simp))
  have N7 := Fr.snoc X7 N0 g_a
  refine go st7 ?_
  show Run p e below _ (T7.setTop (mkF m 5 #[.val (.ref a), .val (.double d2), .second, .val (.int p2), .val (.int p3)] []))
  refine go (fun _ => XS.aloadN X7.here hx rfl (hb hby d_p15_m3_5) rfl rfl) ?_
  show Run p e below _ (T7.setTop (mkF m 6 #[.val (.ref a), .val (.double d2), .second, .val (.int p2), .val (.int p3)] [(.ref a)]))
  refine go (fun _ => XS.iloadN X7.here hx rfl (hb hby d_p15_m3_6) rfl) ?_
  show Run p e below _ (T7.setTop (mkF m 7 #[.val (.ref a), .val (.double d2), .second, .val (.int p2), .val (.int p3)] [(.int p2), (.ref a)]))
  obtain ⟨T8, h8, X8, e8, W8, st8⟩ := putF X7 hx hZ hown (host := "") (Or.inl (wd hw 32 rfl)) Via.refl e7 F_keywords_a E_a (Or.inl (wd hw 33 rfl)) (wd hw 1 rfl) (ty := .int) (by decide) rfl rfl (g := (mkF m 7 #[.val (.ref a), .val (.double d2), .second, .val (.int p2), .val (.int p3)] [(.int p2), (.ref a)])) rfl rfl (hb hby d_p15_m3_7)
  have O0 := O0.wr W8 g_a
  have E_a := E_a.wr W8
  have F_leftOut_a := F_leftOut_a.other W8 (Or.inr (slot_ne (Or.inl (wd hw 11 rfl)) (Or.inl (wd hw 33 rfl)) (by decide) (t := .double) (t' := .int) (by decide) (by decide)))
  have F_slots_a := F_slots_a.other W8 (Or.inr (slot_ne (Or.inl (wd hw 14 rfl)) (Or.inl (wd hw 33 rfl)) (by decide) (t := (.array .int)) (t' := .int) (by decide) (by decide)))
  have F_published_a := F_published_a.other W8 (Or.inr (slot_ne (Or.inl (wd hw 17 rfl)) (Or.inl (wd hw 33 rfl)) (by decide) (t := (.array .long)) (t' := .int) (by decide) (by decide)))
  have F_scores_a := F_scores_a.other W8 (Or.inr (slot_ne (Or.inl (wd hw 20 rfl)) (Or.inl (wd hw 33 rfl)) (by decide) (t := (.array .double)) (t' := .int) (by decide) (by decide)))
  have F_shares_a := F_shares_a.other W8 (Or.inr (slot_ne (Or.inl (wd hw 23 rfl)) (Or.inl (wd hw 33 rfl)) (by decide) (t := (.array .char)) (t' := .int) (by decide) (by decide)))
  have F_alpha_a := F_alpha_a.other W8 (Or.inr (slot_ne (Or.inl (wd hw 31 rfl)) (Or.inl (wd hw 33 rfl)) (by decide) (t := .double) (t' := .int) (by decide) (by decide)))
  have F_keywords_a := F_keywords_a.same W8
  have F_count_a := F_count_a.other W8 (Or.inr (slot_ne (Or.inl (wd hw 35 rfl)) (Or.inl (wd hw 33 rfl)) (by decide) (t := .int) (t' := .int) (by decide) (by decide)))
  have F_size_a := F_size_a.other W8 (Or.inr (slot_ne (Or.inl (wd hw 37 rfl)) (Or.inl (wd hw 33 rfl)) (by decide) (t := .int) (t' := .int) (by decide) (by decide)))
  have F_scored_a := F_scored_a.other W8 (Or.inr (slot_ne (Or.inl (wd hw 39 rfl)) (Or.inl (wd hw 33 rfl)) (by decide) (t := .long) (t' := .int) (by decide) (by decide)))
  have F_ordered_a := F_ordered_a.other W8 (Or.inr (slot_ne (Or.inl (wd hw 41 rfl)) (Or.inl (wd hw 33 rfl)) (by decide) (t := .boolean) (t' := .int) (by decide) (by decide)))
  have F_heap_a := F_heap_a.other W8 (Or.inr (slot_ne (Or.inl (wd hw 43 rfl)) (Or.inl (wd hw 33 rfl)) (by decide) (t := .boolean) (t' := .int) (by decide) (by decide)))
  have K0 := K0.wr W8 (Or.inl (by simp))
  have N8 := Fr.snoc X8 N7 g_a
  refine go st8 ?_
  show Run p e below _ (T8.setTop (mkF m 10 #[.val (.ref a), .val (.double d2), .second, .val (.int p2), .val (.int p3)] []))
  refine go (fun _ => XS.aloadN X8.here hx rfl (hb hby d_p15_m3_10) rfl rfl) ?_
  show Run p e below _ (T8.setTop (mkF m 11 #[.val (.ref a), .val (.double d2), .second, .val (.int p2), .val (.int p3)] [(.ref a)]))
  refine go (fun _ => XS.iload X8.here hx rfl (hb hby d_p15_m3_11) rfl) ?_
  show Run p e below _ (T8.setTop (mkF m 13 #[.val (.ref a), .val (.double d2), .second, .val (.int p2), .val (.int p3)] [(.int p3), (.ref a)]))
  obtain ⟨T9, h9, X9, e9, W9, st9⟩ := putF X8 hx hZ hown (host := "") (Or.inl (wd hw 34 rfl)) Via.refl e8 F_count_a E_a (Or.inl (wd hw 35 rfl)) (wd hw 1 rfl) (ty := .int) (by decide) rfl rfl (g := (mkF m 13 #[.val (.ref a), .val (.double d2), .second, .val (.int p2), .val (.int p3)] [(.int p3), (.ref a)])) rfl rfl (hb hby d_p15_m3_13)
  have O0 := O0.wr W9 g_a
  have E_a := E_a.wr W9
  have F_leftOut_a := F_leftOut_a.other W9 (Or.inr (slot_ne (Or.inl (wd hw 11 rfl)) (Or.inl (wd hw 35 rfl)) (by decide) (t := .double) (t' := .int) (by decide) (by decide)))
  have F_slots_a := F_slots_a.other W9 (Or.inr (slot_ne (Or.inl (wd hw 14 rfl)) (Or.inl (wd hw 35 rfl)) (by decide) (t := (.array .int)) (t' := .int) (by decide) (by decide)))
  have F_published_a := F_published_a.other W9 (Or.inr (slot_ne (Or.inl (wd hw 17 rfl)) (Or.inl (wd hw 35 rfl)) (by decide) (t := (.array .long)) (t' := .int) (by decide) (by decide)))
  have F_scores_a := F_scores_a.other W9 (Or.inr (slot_ne (Or.inl (wd hw 20 rfl)) (Or.inl (wd hw 35 rfl)) (by decide) (t := (.array .double)) (t' := .int) (by decide) (by decide)))
  have F_shares_a := F_shares_a.other W9 (Or.inr (slot_ne (Or.inl (wd hw 23 rfl)) (Or.inl (wd hw 35 rfl)) (by decide) (t := (.array .char)) (t' := .int) (by decide) (by decide)))
  have F_alpha_a := F_alpha_a.other W9 (Or.inr (slot_ne (Or.inl (wd hw 31 rfl)) (Or.inl (wd hw 35 rfl)) (by decide) (t := .double) (t' := .int) (by decide) (by decide)))
  have F_keywords_a := F_keywords_a.other W9 (Or.inr (slot_ne (Or.inl (wd hw 33 rfl)) (Or.inl (wd hw 35 rfl)) (by decide) (t := .int) (t' := .int) (by decide) (by decide)))
  have F_count_a := F_count_a.same W9
  have F_size_a := F_size_a.other W9 (Or.inr (slot_ne (Or.inl (wd hw 37 rfl)) (Or.inl (wd hw 35 rfl)) (by decide) (t := .int) (t' := .int) (by decide) (by decide)))
  have F_scored_a := F_scored_a.other W9 (Or.inr (slot_ne (Or.inl (wd hw 39 rfl)) (Or.inl (wd hw 35 rfl)) (by decide) (t := .long) (t' := .int) (by decide) (by decide)))
  have F_ordered_a := F_ordered_a.other W9 (Or.inr (slot_ne (Or.inl (wd hw 41 rfl)) (Or.inl (wd hw 35 rfl)) (by decide) (t := .boolean) (t' := .int) (by decide) (by decide)))
  have F_heap_a := F_heap_a.other W9 (Or.inr (slot_ne (Or.inl (wd hw 43 rfl)) (Or.inl (wd hw 35 rfl)) (by decide) (t := .boolean) (t' := .int) (by decide) (by decide)))
  have K0 := K0.wr W9 (Or.inl (by simp))
  have N9 := Fr.snoc X9 N8 g_a
  refine go st9 ?_
  show Run p e below _ (T9.setTop (mkF m 16 #[.val (.ref a), .val (.double d2), .second, .val (.int p2), .val (.int p3)] []))
  refine go (fun _ => XS.aloadN X9.here hx rfl (hb hby d_p15_m3_16) rfl rfl) ?_
  show Run p e below _ (T9.setTop (mkF m 17 #[.val (.ref a), .val (.double d2), .second, .val (.int p2), .val (.int p3)] [(.ref a)]))
  refine go (fun _ => XS.iconst X9.here hx rfl (hb hby d_p15_m3_17)) ?_
  show Run p e below _ (T9.setTop (mkF m 18 #[.val (.ref a), .val (.double d2), .second, .val (.int p2), .val (.int p3)] [(.int (0 : Int32)), (.ref a)]))
  obtain ⟨T10, h10, X10, e10, W10, st10⟩ := putF X9 hx hZ hown (host := "") (Or.inl (wd hw 36 rfl)) Via.refl e9 F_size_a E_a (Or.inl (wd hw 37 rfl)) (wd hw 1 rfl) (ty := .int) (by decide) rfl rfl (g := (mkF m 18 #[.val (.ref a), .val (.double d2), .second, .val (.int p2), .val (.int p3)] [(.int (0 : Int32)), (.ref a)])) rfl rfl (hb hby d_p15_m3_18)
  have O0 := O0.wr W10 g_a
  have E_a := E_a.wr W10
  have F_leftOut_a := F_leftOut_a.other W10 (Or.inr (slot_ne (Or.inl (wd hw 11 rfl)) (Or.inl (wd hw 37 rfl)) (by decide) (t := .double) (t' := .int) (by decide) (by decide)))
  have F_slots_a := F_slots_a.other W10 (Or.inr (slot_ne (Or.inl (wd hw 14 rfl)) (Or.inl (wd hw 37 rfl)) (by decide) (t := (.array .int)) (t' := .int) (by decide) (by decide)))
  have F_published_a := F_published_a.other W10 (Or.inr (slot_ne (Or.inl (wd hw 17 rfl)) (Or.inl (wd hw 37 rfl)) (by decide) (t := (.array .long)) (t' := .int) (by decide) (by decide)))
  have F_scores_a := F_scores_a.other W10 (Or.inr (slot_ne (Or.inl (wd hw 20 rfl)) (Or.inl (wd hw 37 rfl)) (by decide) (t := (.array .double)) (t' := .int) (by decide) (by decide)))
  have F_shares_a := F_shares_a.other W10 (Or.inr (slot_ne (Or.inl (wd hw 23 rfl)) (Or.inl (wd hw 37 rfl)) (by decide) (t := (.array .char)) (t' := .int) (by decide) (by decide)))
  have F_alpha_a := F_alpha_a.other W10 (Or.inr (slot_ne (Or.inl (wd hw 31 rfl)) (Or.inl (wd hw 37 rfl)) (by decide) (t := .double) (t' := .int) (by decide) (by decide)))
  have F_keywords_a := F_keywords_a.other W10 (Or.inr (slot_ne (Or.inl (wd hw 33 rfl)) (Or.inl (wd hw 37 rfl)) (by decide) (t := .int) (t' := .int) (by decide) (by decide)))
  have F_count_a := F_count_a.other W10 (Or.inr (slot_ne (Or.inl (wd hw 35 rfl)) (Or.inl (wd hw 37 rfl)) (by decide) (t := .int) (t' := .int) (by decide) (by decide)))
  have F_size_a := F_size_a.same W10
  have F_scored_a := F_scored_a.other W10 (Or.inr (slot_ne (Or.inl (wd hw 39 rfl)) (Or.inl (wd hw 37 rfl)) (by decide) (t := .long) (t' := .int) (by decide) (by decide)))
  have F_ordered_a := F_ordered_a.other W10 (Or.inr (slot_ne (Or.inl (wd hw 41 rfl)) (Or.inl (wd hw 37 rfl)) (by decide) (t := .boolean) (t' := .int) (by decide) (by decide)))
  have F_heap_a := F_heap_a.other W10 (Or.inr (slot_ne (Or.inl (wd hw 43 rfl)) (Or.inl (wd hw 37 rfl)) (by decide) (t := .boolean) (t' := .int) (by decide) (by decide)))
  have K0 := K0.wr W10 (Or.inl (by simp))
  have N10 := Fr.snoc X10 N9 g_a
  refine go st10 ?_
  show Run p e below _ (T10.setTop (mkF m 21 #[.val (.ref a), .val (.double d2), .second, .val (.int p2), .val (.int p3)] []))
  refine go (fun _ => XS.aloadN X10.here hx rfl (hb hby d_p15_m3_21) rfl rfl) ?_
  show Run p e below _ (T10.setTop (mkF m 22 #[.val (.ref a), .val (.double d2), .second, .val (.int p2), .val (.int p3)] [(.ref a)]))
  refine go (fun _ => XS.lconst X10.here hx rfl (hb hby d_p15_m3_22)) ?_
  show Run p e below _ (T10.setTop (mkF m 23 #[.val (.ref a), .val (.double d2), .second, .val (.int p2), .val (.int p3)] [(.long (0 : Int64)), (.ref a)]))
  obtain ⟨T11, h11, X11, e11, W11, st11⟩ := putF X10 hx hZ hown (host := "") (Or.inl (wd hw 38 rfl)) Via.refl e10 F_scored_a E_a (Or.inl (wd hw 39 rfl)) (wd hw 1 rfl) (ty := .long) (by decide) rfl rfl (g := (mkF m 23 #[.val (.ref a), .val (.double d2), .second, .val (.int p2), .val (.int p3)] [(.long (0 : Int64)), (.ref a)])) rfl rfl (hb hby d_p15_m3_23)
  have O0 := O0.wr W11 g_a
  have E_a := E_a.wr W11
  have F_leftOut_a := F_leftOut_a.other W11 (Or.inr (slot_ne (Or.inl (wd hw 11 rfl)) (Or.inl (wd hw 39 rfl)) (by decide) (t := .double) (t' := .long) (by decide) (by decide)))
  have F_slots_a := F_slots_a.other W11 (Or.inr (slot_ne (Or.inl (wd hw 14 rfl)) (Or.inl (wd hw 39 rfl)) (by decide) (t := (.array .int)) (t' := .long) (by decide) (by decide)))
  have F_published_a := F_published_a.other W11 (Or.inr (slot_ne (Or.inl (wd hw 17 rfl)) (Or.inl (wd hw 39 rfl)) (by decide) (t := (.array .long)) (t' := .long) (by decide) (by decide)))
  have F_scores_a := F_scores_a.other W11 (Or.inr (slot_ne (Or.inl (wd hw 20 rfl)) (Or.inl (wd hw 39 rfl)) (by decide) (t := (.array .double)) (t' := .long) (by decide) (by decide)))
  have F_shares_a := F_shares_a.other W11 (Or.inr (slot_ne (Or.inl (wd hw 23 rfl)) (Or.inl (wd hw 39 rfl)) (by decide) (t := (.array .char)) (t' := .long) (by decide) (by decide)))
  have F_alpha_a := F_alpha_a.other W11 (Or.inr (slot_ne (Or.inl (wd hw 31 rfl)) (Or.inl (wd hw 39 rfl)) (by decide) (t := .double) (t' := .long) (by decide) (by decide)))
  have F_keywords_a := F_keywords_a.other W11 (Or.inr (slot_ne (Or.inl (wd hw 33 rfl)) (Or.inl (wd hw 39 rfl)) (by decide) (t := .int) (t' := .long) (by decide) (by decide)))
  have F_count_a := F_count_a.other W11 (Or.inr (slot_ne (Or.inl (wd hw 35 rfl)) (Or.inl (wd hw 39 rfl)) (by decide) (t := .int) (t' := .long) (by decide) (by decide)))
  have F_size_a := F_size_a.other W11 (Or.inr (slot_ne (Or.inl (wd hw 37 rfl)) (Or.inl (wd hw 39 rfl)) (by decide) (t := .int) (t' := .long) (by decide) (by decide)))
  have F_scored_a := F_scored_a.same W11
  have F_ordered_a := F_ordered_a.other W11 (Or.inr (slot_ne (Or.inl (wd hw 41 rfl)) (Or.inl (wd hw 39 rfl)) (by decide) (t := .boolean) (t' := .long) (by decide) (by decide)))
  have F_heap_a := F_heap_a.other W11 (Or.inr (slot_ne (Or.inl (wd hw 43 rfl)) (Or.inl (wd hw 39 rfl)) (by decide) (t := .boolean) (t' := .long) (by decide) (by decide)))
  have K0 := K0.wr W11 (Or.inl (by simp))
  have N11 := Fr.snoc X11 N10 g_a
  refine go st11 ?_
  show Run p e below _ (T11.setTop (mkF m 26 #[.val (.ref a), .val (.double d2), .second, .val (.int p2), .val (.int p3)] []))
  refine go (fun _ => XS.aloadN X11.here hx rfl (hb hby d_p15_m3_26) rfl rfl) ?_
  show Run p e below _ (T11.setTop (mkF m 27 #[.val (.ref a), .val (.double d2), .second, .val (.int p2), .val (.int p3)] [(.ref a)]))
  refine go (fun _ => X11.ldc2DoubleC hx hown (mvT hZ (wd hw 9 rfl)) (g := (mkF m 27 #[.val (.ref a), .val (.double d2), .second, .val (.int p2), .val (.int p3)] [(.ref a)])) rfl (hb hby d_p15_m3_27) _) ?_
  show Run p e below _ (T11.setTop (mkF m 30 #[.val (.ref a), .val (.double d2), .second, .val (.int p2), .val (.int p3)] [(.double (18442240474082181120 : UInt64)), (.ref a)]))
  obtain ⟨T12, h12, X12, e12, W12, st12⟩ := putF X11 hx hZ hown (host := "") (Or.inl (wd hw 10 rfl)) Via.refl e11 F_leftOut_a E_a (Or.inl (wd hw 11 rfl)) (wd hw 1 rfl) (ty := .double) (by decide) rfl rfl (g := (mkF m 30 #[.val (.ref a), .val (.double d2), .second, .val (.int p2), .val (.int p3)] [(.double (18442240474082181120 : UInt64)), (.ref a)])) rfl rfl (hb hby d_p15_m3_30)
  have O0 := O0.wr W12 g_a
  have E_a := E_a.wr W12
  have F_leftOut_a := F_leftOut_a.same W12
  have F_slots_a := F_slots_a.other W12 (Or.inr (slot_ne (Or.inl (wd hw 14 rfl)) (Or.inl (wd hw 11 rfl)) (by decide) (t := (.array .int)) (t' := .double) (by decide) (by decide)))
  have F_published_a := F_published_a.other W12 (Or.inr (slot_ne (Or.inl (wd hw 17 rfl)) (Or.inl (wd hw 11 rfl)) (by decide) (t := (.array .long)) (t' := .double) (by decide) (by decide)))
  have F_scores_a := F_scores_a.other W12 (Or.inr (slot_ne (Or.inl (wd hw 20 rfl)) (Or.inl (wd hw 11 rfl)) (by decide) (t := (.array .double)) (t' := .double) (by decide) (by decide)))
  have F_shares_a := F_shares_a.other W12 (Or.inr (slot_ne (Or.inl (wd hw 23 rfl)) (Or.inl (wd hw 11 rfl)) (by decide) (t := (.array .char)) (t' := .double) (by decide) (by decide)))
  have F_alpha_a := F_alpha_a.other W12 (Or.inr (slot_ne (Or.inl (wd hw 31 rfl)) (Or.inl (wd hw 11 rfl)) (by decide) (t := .double) (t' := .double) (by decide) (by decide)))
  have F_keywords_a := F_keywords_a.other W12 (Or.inr (slot_ne (Or.inl (wd hw 33 rfl)) (Or.inl (wd hw 11 rfl)) (by decide) (t := .int) (t' := .double) (by decide) (by decide)))
  have F_count_a := F_count_a.other W12 (Or.inr (slot_ne (Or.inl (wd hw 35 rfl)) (Or.inl (wd hw 11 rfl)) (by decide) (t := .int) (t' := .double) (by decide) (by decide)))
  have F_size_a := F_size_a.other W12 (Or.inr (slot_ne (Or.inl (wd hw 37 rfl)) (Or.inl (wd hw 11 rfl)) (by decide) (t := .int) (t' := .double) (by decide) (by decide)))
  have F_scored_a := F_scored_a.other W12 (Or.inr (slot_ne (Or.inl (wd hw 39 rfl)) (Or.inl (wd hw 11 rfl)) (by decide) (t := .long) (t' := .double) (by decide) (by decide)))
  have F_ordered_a := F_ordered_a.other W12 (Or.inr (slot_ne (Or.inl (wd hw 41 rfl)) (Or.inl (wd hw 11 rfl)) (by decide) (t := .boolean) (t' := .double) (by decide) (by decide)))
  have F_heap_a := F_heap_a.other W12 (Or.inr (slot_ne (Or.inl (wd hw 43 rfl)) (Or.inl (wd hw 11 rfl)) (by decide) (t := .boolean) (t' := .double) (by decide) (by decide)))
  have K0 := K0.wr W12 (Or.inl (by simp))
  have N12 := Fr.snoc X12 N11 g_a
  refine go st12 ?_
  show Run p e below _ (T12.setTop (mkF m 33 #[.val (.ref a), .val (.double d2), .second, .val (.int p2), .val (.int p3)] []))
  refine go (fun _ => XS.aloadN X12.here hx rfl (hb hby d_p15_m3_33) rfl rfl) ?_
  show Run p e below _ (T12.setTop (mkF m 34 #[.val (.ref a), .val (.double d2), .second, .val (.int p2), .val (.int p3)] [(.ref a)]))
  refine go (fun _ => XS.iconst X12.here hx rfl (hb hby d_p15_m3_34)) ?_
  show Run p e below _ (T12.setTop (mkF m 35 #[.val (.ref a), .val (.double d2), .second, .val (.int p2), .val (.int p3)] [(.int (0 : Int32)), (.ref a)]))
  obtain ⟨T13, h13, X13, e13, W13, st13⟩ := putFN X12 hx hZ hown (wd hw 40 rfl) Via.refl e12 F_ordered_a E_a (Or.inl (wd hw 41 rfl)) (wd hw 1 rfl) (ty := .boolean) (v' := (.int (nar .boolean (0 : Int32)))) (by decide) rfl (fits_nar_bool _) (g := (mkF m 35 #[.val (.ref a), .val (.double d2), .second, .val (.int p2), .val (.int p3)] [(.int (0 : Int32)), (.ref a)])) rfl rfl (hb hby d_p15_m3_35)
  have O0 := O0.wr W13 g_a
  have E_a := E_a.wr W13
  have F_leftOut_a := F_leftOut_a.other W13 (Or.inr (slot_ne (Or.inl (wd hw 11 rfl)) (Or.inl (wd hw 41 rfl)) (by decide) (t := .double) (t' := .boolean) (by decide) (by decide)))
  have F_slots_a := F_slots_a.other W13 (Or.inr (slot_ne (Or.inl (wd hw 14 rfl)) (Or.inl (wd hw 41 rfl)) (by decide) (t := (.array .int)) (t' := .boolean) (by decide) (by decide)))
  have F_published_a := F_published_a.other W13 (Or.inr (slot_ne (Or.inl (wd hw 17 rfl)) (Or.inl (wd hw 41 rfl)) (by decide) (t := (.array .long)) (t' := .boolean) (by decide) (by decide)))
  have F_scores_a := F_scores_a.other W13 (Or.inr (slot_ne (Or.inl (wd hw 20 rfl)) (Or.inl (wd hw 41 rfl)) (by decide) (t := (.array .double)) (t' := .boolean) (by decide) (by decide)))
  have F_shares_a := F_shares_a.other W13 (Or.inr (slot_ne (Or.inl (wd hw 23 rfl)) (Or.inl (wd hw 41 rfl)) (by decide) (t := (.array .char)) (t' := .boolean) (by decide) (by decide)))
  have F_alpha_a := F_alpha_a.other W13 (Or.inr (slot_ne (Or.inl (wd hw 31 rfl)) (Or.inl (wd hw 41 rfl)) (by decide) (t := .double) (t' := .boolean) (by decide) (by decide)))
  have F_keywords_a := F_keywords_a.other W13 (Or.inr (slot_ne (Or.inl (wd hw 33 rfl)) (Or.inl (wd hw 41 rfl)) (by decide) (t := .int) (t' := .boolean) (by decide) (by decide)))
  have F_count_a := F_count_a.other W13 (Or.inr (slot_ne (Or.inl (wd hw 35 rfl)) (Or.inl (wd hw 41 rfl)) (by decide) (t := .int) (t' := .boolean) (by decide) (by decide)))
  have F_size_a := F_size_a.other W13 (Or.inr (slot_ne (Or.inl (wd hw 37 rfl)) (Or.inl (wd hw 41 rfl)) (by decide) (t := .int) (t' := .boolean) (by decide) (by decide)))
  have F_scored_a := F_scored_a.other W13 (Or.inr (slot_ne (Or.inl (wd hw 39 rfl)) (Or.inl (wd hw 41 rfl)) (by decide) (t := .long) (t' := .boolean) (by decide) (by decide)))
  have F_ordered_a := F_ordered_a.same W13
  have F_heap_a := F_heap_a.other W13 (Or.inr (slot_ne (Or.inl (wd hw 43 rfl)) (Or.inl (wd hw 41 rfl)) (by decide) (t := .boolean) (t' := .boolean) (by decide) (by decide)))
  have K0 := K0.wr W13 (Or.inl (by simp))
  rw [nb0] at F_ordered_a
  have N13 := Fr.snoc X13 N12 g_a
  refine go st13 ?_
  show Run p e below _ (T13.setTop (mkF m 38 #[.val (.ref a), .val (.double d2), .second, .val (.int p2), .val (.int p3)] []))
  refine go (fun _ => XS.aloadN X13.here hx rfl (hb hby d_p15_m3_38) rfl rfl) ?_
  show Run p e below _ (T13.setTop (mkF m 39 #[.val (.ref a), .val (.double d2), .second, .val (.int p2), .val (.int p3)] [(.ref a)]))
  refine go (fun _ => XS.iconst X13.here hx rfl (hb hby d_p15_m3_39)) ?_
  show Run p e below _ (T13.setTop (mkF m 40 #[.val (.ref a), .val (.double d2), .second, .val (.int p2), .val (.int p3)] [(.int (0 : Int32)), (.ref a)]))
  obtain ⟨T14, h14, X14, e14, W14, st14⟩ := putFN X13 hx hZ hown (wd hw 42 rfl) Via.refl e13 F_heap_a E_a (Or.inl (wd hw 43 rfl)) (wd hw 1 rfl) (ty := .boolean) (v' := (.int (nar .boolean (0 : Int32)))) (by decide) rfl (fits_nar_bool _) (g := (mkF m 40 #[.val (.ref a), .val (.double d2), .second, .val (.int p2), .val (.int p3)] [(.int (0 : Int32)), (.ref a)])) rfl rfl (hb hby d_p15_m3_40)
  have O0 := O0.wr W14 g_a
  have E_a := E_a.wr W14
  have F_leftOut_a := F_leftOut_a.other W14 (Or.inr (slot_ne (Or.inl (wd hw 11 rfl)) (Or.inl (wd hw 43 rfl)) (by decide) (t := .double) (t' := .boolean) (by decide) (by decide)))
  have F_slots_a := F_slots_a.other W14 (Or.inr (slot_ne (Or.inl (wd hw 14 rfl)) (Or.inl (wd hw 43 rfl)) (by decide) (t := (.array .int)) (t' := .boolean) (by decide) (by decide)))
  have F_published_a := F_published_a.other W14 (Or.inr (slot_ne (Or.inl (wd hw 17 rfl)) (Or.inl (wd hw 43 rfl)) (by decide) (t := (.array .long)) (t' := .boolean) (by decide) (by decide)))
  have F_scores_a := F_scores_a.other W14 (Or.inr (slot_ne (Or.inl (wd hw 20 rfl)) (Or.inl (wd hw 43 rfl)) (by decide) (t := (.array .double)) (t' := .boolean) (by decide) (by decide)))
  have F_shares_a := F_shares_a.other W14 (Or.inr (slot_ne (Or.inl (wd hw 23 rfl)) (Or.inl (wd hw 43 rfl)) (by decide) (t := (.array .char)) (t' := .boolean) (by decide) (by decide)))
  have F_alpha_a := F_alpha_a.other W14 (Or.inr (slot_ne (Or.inl (wd hw 31 rfl)) (Or.inl (wd hw 43 rfl)) (by decide) (t := .double) (t' := .boolean) (by decide) (by decide)))
  have F_keywords_a := F_keywords_a.other W14 (Or.inr (slot_ne (Or.inl (wd hw 33 rfl)) (Or.inl (wd hw 43 rfl)) (by decide) (t := .int) (t' := .boolean) (by decide) (by decide)))
  have F_count_a := F_count_a.other W14 (Or.inr (slot_ne (Or.inl (wd hw 35 rfl)) (Or.inl (wd hw 43 rfl)) (by decide) (t := .int) (t' := .boolean) (by decide) (by decide)))
  have F_size_a := F_size_a.other W14 (Or.inr (slot_ne (Or.inl (wd hw 37 rfl)) (Or.inl (wd hw 43 rfl)) (by decide) (t := .int) (t' := .boolean) (by decide) (by decide)))
  have F_scored_a := F_scored_a.other W14 (Or.inr (slot_ne (Or.inl (wd hw 39 rfl)) (Or.inl (wd hw 43 rfl)) (by decide) (t := .long) (t' := .boolean) (by decide) (by decide)))
  have F_ordered_a := F_ordered_a.other W14 (Or.inr (slot_ne (Or.inl (wd hw 41 rfl)) (Or.inl (wd hw 43 rfl)) (by decide) (t := .boolean) (t' := .boolean) (by decide) (by decide)))
  have F_heap_a := F_heap_a.same W14
  have K0 := K0.wr W14 (Or.inl (by simp))
  rw [nb0] at F_heap_a
  have N14 := Fr.snoc X14 N13 g_a
  refine go st14 ?_
  show Run p e below _ (T14.setTop (mkF m 43 #[.val (.ref a), .val (.double d2), .second, .val (.int p2), .val (.int p3)] []))
  exact endV X14 hx hlk hret (hb hby d_p15_m3_43) (by rw [e14]; exact ⟨rfl, N14, K0, E_a, F_leftOut_a, F_slots_a, F_published_a, F_scores_a, F_shares_a, F_alpha_a, F_keywords_a, F_count_a, F_size_a, F_scored_a, F_ordered_a, F_heap_a⟩) (by decide) (by decide)
theorem d_p15_m23_0 : decode prog_15_method_23_code 0 = .ok (.aload_n 0, 1) := by decide +kernel
theorem d_p15_m23_1 : decode prog_15_method_23_code 1 = .ok (.getfield 22, 3) := by decide +kernel
theorem d_p15_m23_4 : decode prog_15_method_23_code 4 = .ok (.iload_n 1, 1) := by decide +kernel
theorem d_p15_m23_5 : decode prog_15_method_23_code 5 = .ok (.iload_n 2, 1) := by decide +kernel
theorem d_p15_m23_6 : decode prog_15_method_23_code 6 = .ok (.iastore, 1) := by decide +kernel
theorem d_p15_m23_7 : decode prog_15_method_23_code 7 = .ok (.aload_n 0, 1) := by decide +kernel
theorem d_p15_m23_8 : decode prog_15_method_23_code 8 = .ok (.getfield 26, 3) := by decide +kernel
theorem d_p15_m23_11 : decode prog_15_method_23_code 11 = .ok (.iload_n 1, 1) := by decide +kernel
theorem d_p15_m23_12 : decode prog_15_method_23_code 12 = .ok (.lload_n 3, 1) := by decide +kernel
theorem d_p15_m23_13 : decode prog_15_method_23_code 13 = .ok (.lastore, 1) := by decide +kernel
theorem d_p15_m23_14 : decode prog_15_method_23_code 14 = .ok (.aload_n 0, 1) := by decide +kernel
theorem d_p15_m23_15 : decode prog_15_method_23_code 15 = .ok (.getfield 30, 3) := by decide +kernel
theorem d_p15_m23_18 : decode prog_15_method_23_code 18 = .ok (.iload_n 1, 1) := by decide +kernel
theorem d_p15_m23_19 : decode prog_15_method_23_code 19 = .ok (.dload 5, 2) := by decide +kernel
theorem d_p15_m23_21 : decode prog_15_method_23_code 21 = .ok (.dastore, 1) := by decide +kernel
theorem d_p15_m23_22 : decode prog_15_method_23_code 22 = .ok (.aload_n 0, 1) := by decide +kernel
theorem d_p15_m23_23 : decode prog_15_method_23_code 23 = .ok (.getfield 34, 3) := by decide +kernel
theorem d_p15_m23_26 : decode prog_15_method_23_code 26 = .ok (.iload_n 1, 1) := by decide +kernel
theorem d_p15_m23_27 : decode prog_15_method_23_code 27 = .ok (.iload 7, 2) := by decide +kernel
theorem d_p15_m23_29 : decode prog_15_method_23_code 29 = .ok (.castore, 1) := by decide +kernel
theorem d_p15_m23_30 : decode prog_15_method_23_code 30 = .ok (.return_, 1) := by decide +kernel
def Q_rm_set0 (Z : State) (a : Addr) (lo al : UInt64) (kw ct sz : Int32) (sd : Int64) (od hp : Int32) (s1 s2 s3 s4 : Addr) (ks1 ks2 ks3 ks4 : ClassId) (xa xb : Int32) (ja jb : Int64) (za zb : UInt64) (ra rb : Int32) (p2 : Int32) (l2 : Int64) (d2 : UInt64) (p3 : Int32) (h0 : Heap) (n0 : Nat) (v : Option Value) (h : Heap) (L : List Loc) : Prop := v = none ∧ Fr n0 L ∧ Keep h0 h [s1, s2, s3, s4] ∧ Arv Z h s1 ks1 .int (16 : Int32) [(.int p2), (.int xb), (.int (0 : Int32)), (.int (0 : Int32)), (.int (0 : Int32)), (.int (0 : Int32)), (.int (0 : Int32)), (.int (0 : Int32)), (.int (0 : Int32)), (.int (0 : Int32)), (.int (0 : Int32)), (.int (0 : Int32)), (.int (0 : Int32)), (.int (0 : Int32)), (.int (0 : Int32)), (.int (0 : Int32))] (.int (0 : Int32)) ∧ Arv Z h s2 ks2 .long (16 : Int32) [(.long l2), (.long jb), (.long (0 : Int64)), (.long (0 : Int64)), (.long (0 : Int64)), (.long (0 : Int64)), (.long (0 : Int64)), (.long (0 : Int64)), (.long (0 : Int64)), (.long (0 : Int64)), (.long (0 : Int64)), (.long (0 : Int64)), (.long (0 : Int64)), (.long (0 : Int64)), (.long (0 : Int64)), (.long (0 : Int64))] (.long (0 : Int64)) ∧ Arv Z h s3 ks3 .double (16 : Int32) [(.double d2), (.double zb), (.double (0 : UInt64)), (.double (0 : UInt64)), (.double (0 : UInt64)), (.double (0 : UInt64)), (.double (0 : UInt64)), (.double (0 : UInt64)), (.double (0 : UInt64)), (.double (0 : UInt64)), (.double (0 : UInt64)), (.double (0 : UInt64)), (.double (0 : UInt64)), (.double (0 : UInt64)), (.double (0 : UInt64)), (.double (0 : UInt64))] (.double (0 : UInt64)) ∧ Arv Z h s4 ks4 .char (16 : Int32) [(.int (nar .char p3)), (.int rb), (.int (0 : Int32)), (.int (0 : Int32)), (.int (0 : Int32)), (.int (0 : Int32)), (.int (0 : Int32)), (.int (0 : Int32)), (.int (0 : Int32)), (.int (0 : Int32)), (.int (0 : Int32)), (.int (0 : Int32)), (.int (0 : Int32)), (.int (0 : Int32)), (.int (0 : Int32)), (.int (0 : Int32))] (.int (0 : Int32))
set_option maxRecDepth 65536 in
set_option maxHeartbeats 40000000 in
theorem rm_set0 (l : Launch) (Z : State) (a0 : Array Value) (hw : ∀ d ∈ tables_1, d.before a0 Z = true) (ws : List Jvm.Cond) (a : Addr) (lo al : UInt64) (kw ct sz : Int32) (sd : Int64) (od hp : Int32) (s1 s2 s3 s4 : Addr) (ks1 ks2 ks3 ks4 : ClassId) (xa xb : Int32) (ja jb : Int64) (za zb : UInt64) (ra rb : Int32) (p2 : Int32) (l2 : Int64) (d2 : UInt64) (p3 : Int32) (h0 : Heap) (n0 : Nat) (O0 : Old Z n0 h0) (E_a : Exa Z h0 a "nearcast/engine/Best") (F_leftOut_a : Fld Z h0 a "nearcast/engine/Best" "leftOut" "D" (.double lo)) (F_slots_a : Fld Z h0 a "nearcast/engine/Best" "slots" "[I" (.ref s1)) (F_published_a : Fld Z h0 a "nearcast/engine/Best" "published" "[J" (.ref s2)) (F_scores_a : Fld Z h0 a "nearcast/engine/Best" "scores" "[D" (.ref s3)) (F_shares_a : Fld Z h0 a "nearcast/engine/Best" "shares" "[C" (.ref s4)) (F_alpha_a : Fld Z h0 a "nearcast/engine/Best" "alpha" "D" (.double al)) (F_keywords_a : Fld Z h0 a "nearcast/engine/Best" "keywords" "I" (.int kw)) (F_count_a : Fld Z h0 a "nearcast/engine/Best" "count" "I" (.int ct)) (F_size_a : Fld Z h0 a "nearcast/engine/Best" "size" "I" (.int sz)) (F_scored_a : Fld Z h0 a "nearcast/engine/Best" "scored" "J" (.long sd)) (F_ordered_a : Fld Z h0 a "nearcast/engine/Best" "ordered" "Z" (.int od)) (F_heap_a : Fld Z h0 a "nearcast/engine/Best" "heap" "Z" (.int hp)) (V_s1 : Arv Z h0 s1 ks1 .int (16 : Int32) [(.int xa), (.int xb), (.int (0 : Int32)), (.int (0 : Int32)), (.int (0 : Int32)), (.int (0 : Int32)), (.int (0 : Int32)), (.int (0 : Int32)), (.int (0 : Int32)), (.int (0 : Int32)), (.int (0 : Int32)), (.int (0 : Int32)), (.int (0 : Int32)), (.int (0 : Int32)), (.int (0 : Int32)), (.int (0 : Int32))] (.int (0 : Int32))) (V_s2 : Arv Z h0 s2 ks2 .long (16 : Int32) [(.long ja), (.long jb), (.long (0 : Int64)), (.long (0 : Int64)), (.long (0 : Int64)), (.long (0 : Int64)), (.long (0 : Int64)), (.long (0 : Int64)), (.long (0 : Int64)), (.long (0 : Int64)), (.long (0 : Int64)), (.long (0 : Int64)), (.long (0 : Int64)), (.long (0 : Int64)), (.long (0 : Int64)), (.long (0 : Int64))] (.long (0 : Int64))) (V_s3 : Arv Z h0 s3 ks3 .double (16 : Int32) [(.double za), (.double zb), (.double (0 : UInt64)), (.double (0 : UInt64)), (.double (0 : UInt64)), (.double (0 : UInt64)), (.double (0 : UInt64)), (.double (0 : UInt64)), (.double (0 : UInt64)), (.double (0 : UInt64)), (.double (0 : UInt64)), (.double (0 : UInt64)), (.double (0 : UInt64)), (.double (0 : UInt64)), (.double (0 : UInt64)), (.double (0 : UInt64))] (.double (0 : UInt64))) (V_s4 : Arv Z h0 s4 ks4 .char (16 : Int32) [(.int ra), (.int rb), (.int (0 : Int32)), (.int (0 : Int32)), (.int (0 : Int32)), (.int (0 : Int32)), (.int (0 : Int32)), (.int (0 : Int32)), (.int (0 : Int32)), (.int (0 : Int32)), (.int (0 : Int32)), (.int (0 : Int32)), (.int (0 : Int32)), (.int (0 : Int32)), (.int (0 : Int32)), (.int (0 : Int32))] (.int (0 : Int32))) (ne_s1_s2 : s1 ≠ s2) (ne_s1_s3 : s1 ≠ s3) (ne_s1_s4 : s1 ≠ s4) (ne_s2_s3 : s2 ≠ s3) (ne_s2_s4 : s2 ≠ s4) (ne_s3_s4 : s3 ≠ s4) (g_s1 : n0 ≤ s1) (g_s2 : n0 ≤ s2) (g_s3 : n0 ≤ s3) (g_s4 : n0 ≤ s4) (g_a : n0 ≤ a)  :
    Meets l (⟨"nearcast/engine/Best", "set", "(IIJDC)V"⟩ : MethodName) prog_15_method_23_code 8 none ws ({ frames := 0, cells := 0, slots := 0, locals := 0 } : Room) Z #[(.ref a), (.int (0 : Int32)), (.int p2), (.long l2), (.double d2), (.int p3)] h0 (Q_rm_set0 Z a lo al kw ct sz sd od hp s1 s2 s3 s4 ks1 ks2 ks3 ks4 xa xb ja jb za zb ra rb p2 l2 d2 p3 h0 n0) 0 0 := by
  refine enter (Ls := #[.val (.ref a), .val (.int (0 : Int32)), .val (.int p2), .val (.long l2), .second, .val (.double d2), .second, .val (.int p3)]) (plainFor_of_name pn_3) (fun m => by first | (simp [entryFrame, mkF, argsToLocals, Value.category]; done) | rfl) ?_
  intro p e s m below meth c T0 hx hby hml hown hnm hret hlk hZ X0 e0
  have N0 := Fr.nil n0
  replace hown : s.vm.findClass "nearcast/engine/Best" = some m.cls := hown
  show Run p e below _ (T0.setTop (mkF m 0 #[.val (.ref a), .val (.int (0 : Int32)), .val (.int p2), .val (.long l2), .second, .val (.double d2), .second, .val (.int p3)] []))
  have K0 := Keep.refl h0 [s1, s2, s3, s4]
  refine go (fun _ => XS.aloadN X0.here hx rfl (hb hby d_p15_m23_0) rfl rfl) ?_
  show Run p e below _ (T0.setTop (mkF m 1 #[.val (.ref a), .val (.int (0 : Int32)), .val (.int p2), .val (.long l2), .second, .val (.double d2), .second, .val (.int p3)] [(.ref a)]))
  obtain ⟨T15, X15, e15, st15⟩ := getF X0 hx hZ hown (host := "") (Or.inl (wd hw 13 rfl)) Via.refl e0 F_slots_a (g := (mkF m 1 #[.val (.ref a), .val (.int (0 : Int32)), .val (.int p2), .val (.long l2), .second, .val (.double d2), .second, .val (.int p3)] [(.ref a)])) rfl rfl (hb hby d_p15_m23_1)
  refine go st15 ?_
  show Run p e below _ (T15.setTop (mkF m 4 #[.val (.ref a), .val (.int (0 : Int32)), .val (.int p2), .val (.long l2), .second, .val (.double d2), .second, .val (.int p3)] [(.ref s1)]))
  refine go (fun _ => XS.iloadN X15.here hx rfl (hb hby d_p15_m23_4) rfl) ?_
  show Run p e below _ (T15.setTop (mkF m 5 #[.val (.ref a), .val (.int (0 : Int32)), .val (.int p2), .val (.long l2), .second, .val (.double d2), .second, .val (.int p3)] [(.int (0 : Int32)), (.ref s1)]))
  refine go (fun _ => XS.iloadN X15.here hx rfl (hb hby d_p15_m23_5) rfl) ?_
  show Run p e below _ (T15.setTop (mkF m 6 #[.val (.ref a), .val (.int (0 : Int32)), .val (.int p2), .val (.long l2), .second, .val (.double d2), .second, .val (.int p3)] [(.int p2), (.int (0 : Int32)), (.ref s1)]))
  obtain ⟨cl16, Ar16, ak16, as16, an16, ah16, ag16⟩ := id V_s1
  have hin16 := inb_of as16 (j := (0 : Int32)) ⟨by decide, by decide⟩
  obtain ⟨T16, h16, X16, e16, W16, st16⟩ := stI X15 hx hZ e15 Ar16 (j := (0 : Int32)) hin16 (g := (mkF m 6 #[.val (.ref a), .val (.int (0 : Int32)), .val (.int p2), .val (.long l2), .second, .val (.double d2), .second, .val (.int p3)] [(.int p2), (.int (0 : Int32)), (.ref s1)])) rfl rfl (hb hby d_p15_m23_6)
  have ne_a_s1 : a ≠ s1 := Exa.neArv E_a V_s1 (wd hw 1 rfl)
  have O0 := O0.wr W16 g_s1
  have E_a := E_a.wr W16
  have F_leftOut_a := F_leftOut_a.other W16 (Or.inl ne_a_s1)
  have F_slots_a := F_slots_a.other W16 (Or.inl ne_a_s1)
  have F_published_a := F_published_a.other W16 (Or.inl ne_a_s1)
  have F_scores_a := F_scores_a.other W16 (Or.inl ne_a_s1)
  have F_shares_a := F_shares_a.other W16 (Or.inl ne_a_s1)
  have F_alpha_a := F_alpha_a.other W16 (Or.inl ne_a_s1)
  have F_keywords_a := F_keywords_a.other W16 (Or.inl ne_a_s1)
  have F_count_a := F_count_a.other W16 (Or.inl ne_a_s1)
  have F_size_a := F_size_a.other W16 (Or.inl ne_a_s1)
  have F_scored_a := F_scored_a.other W16 (Or.inl ne_a_s1)
  have F_ordered_a := F_ordered_a.other W16 (Or.inl ne_a_s1)
  have F_heap_a := F_heap_a.other W16 (Or.inl ne_a_s1)
  have V_s1 := (Arv.set Ar16 ak16 as16 an16 ah16 ag16 rfl W16 0 rfl (Nat.le_of_ble_eq_true rfl) : Arv Z h16 s1 ks1 .int (16 : Int32) [(.int p2), (.int xb), (.int (0 : Int32)), (.int (0 : Int32)), (.int (0 : Int32)), (.int (0 : Int32)), (.int (0 : Int32)), (.int (0 : Int32)), (.int (0 : Int32)), (.int (0 : Int32)), (.int (0 : Int32)), (.int (0 : Int32)), (.int (0 : Int32)), (.int (0 : Int32)), (.int (0 : Int32)), (.int (0 : Int32))] (.int (0 : Int32)))
  have V_s2 := V_s2.other W16 (Ne.symm ne_s1_s2)
  have V_s3 := V_s3.other W16 (Ne.symm ne_s1_s3)
  have V_s4 := V_s4.other W16 (Ne.symm ne_s1_s4)
  have K0 := K0.wr W16 (Or.inl (by simp))
  have N16 := Fr.snoc X16 N0 g_s1
  refine go st16 ?_
  show Run p e below _ (T16.setTop (mkF m 7 #[.val (.ref a), .val (.int (0 : Int32)), .val (.int p2), .val (.long l2), .second, .val (.double d2), .second, .val (.int p3)] []))
  refine go (fun _ => XS.aloadN X16.here hx rfl (hb hby d_p15_m23_7) rfl rfl) ?_
  show Run p e below _ (T16.setTop (mkF m 8 #[.val (.ref a), .val (.int (0 : Int32)), .val (.int p2), .val (.long l2), .second, .val (.double d2), .second, .val (.int p3)] [(.ref a)]))
  obtain ⟨T17, X17, e17, st17⟩ := getF X16 hx hZ hown (host := "") (Or.inl (wd hw 16 rfl)) Via.refl e16 F_published_a (g := (mkF m 8 #[.val (.ref a), .val (.int (0 : Int32)), .val (.int p2), .val (.long l2), .second, .val (.double d2), .second, .val (.int p3)] [(.ref a)])) rfl rfl (hb hby d_p15_m23_8)
  refine go st17 ?_
  show Run p e below _ (T17.setTop (mkF m 11 #[.val (.ref a), .val (.int (0 : Int32)), .val (.int p2), .val (.long l2), .second, .val (.double d2), .second, .val (.int p3)] [(.ref s2)]))
  refine go (fun _ => XS.iloadN X17.here hx rfl (hb hby d_p15_m23_11) rfl) ?_
  show Run p e below _ (T17.setTop (mkF m 12 #[.val (.ref a), .val (.int (0 : Int32)), .val (.int p2), .val (.long l2), .second, .val (.double d2), .second, .val (.int p3)] [(.int (0 : Int32)), (.ref s2)]))
  refine go (fun _ => XS.lloadN X17.here hx rfl (hb hby d_p15_m23_12) rfl) ?_
  show Run p e below _ (T17.setTop (mkF m 13 #[.val (.ref a), .val (.int (0 : Int32)), .val (.int p2), .val (.long l2), .second, .val (.double d2), .second, .val (.int p3)] [(.long l2), (.int (0 : Int32)), (.ref s2)]))
  obtain ⟨cl18, Ar18, ak18, as18, an18, ah18, ag18⟩ := id V_s2
  have hin18 := inb_of as18 (j := (0 : Int32)) ⟨by decide, by decide⟩
  obtain ⟨T18, h18, X18, e18, W18, st18⟩ := stJ X17 hx hZ e17 Ar18 (j := (0 : Int32)) hin18 (g := (mkF m 13 #[.val (.ref a), .val (.int (0 : Int32)), .val (.int p2), .val (.long l2), .second, .val (.double d2), .second, .val (.int p3)] [(.long l2), (.int (0 : Int32)), (.ref s2)])) rfl rfl (hb hby d_p15_m23_13)
  have ne_a_s2 : a ≠ s2 := Exa.neArv E_a V_s2 (wd hw 1 rfl)
  have O0 := O0.wr W18 g_s2
  have E_a := E_a.wr W18
  have F_leftOut_a := F_leftOut_a.other W18 (Or.inl ne_a_s2)
  have F_slots_a := F_slots_a.other W18 (Or.inl ne_a_s2)
  have F_published_a := F_published_a.other W18 (Or.inl ne_a_s2)
  have F_scores_a := F_scores_a.other W18 (Or.inl ne_a_s2)
  have F_shares_a := F_shares_a.other W18 (Or.inl ne_a_s2)
  have F_alpha_a := F_alpha_a.other W18 (Or.inl ne_a_s2)
  have F_keywords_a := F_keywords_a.other W18 (Or.inl ne_a_s2)
  have F_count_a := F_count_a.other W18 (Or.inl ne_a_s2)
  have F_size_a := F_size_a.other W18 (Or.inl ne_a_s2)
  have F_scored_a := F_scored_a.other W18 (Or.inl ne_a_s2)
  have F_ordered_a := F_ordered_a.other W18 (Or.inl ne_a_s2)
  have F_heap_a := F_heap_a.other W18 (Or.inl ne_a_s2)
  have V_s1 := V_s1.other W18 ne_s1_s2
  have V_s2 := (Arv.set Ar18 ak18 as18 an18 ah18 ag18 rfl W18 0 rfl (Nat.le_of_ble_eq_true rfl) : Arv Z h18 s2 ks2 .long (16 : Int32) [(.long l2), (.long jb), (.long (0 : Int64)), (.long (0 : Int64)), (.long (0 : Int64)), (.long (0 : Int64)), (.long (0 : Int64)), (.long (0 : Int64)), (.long (0 : Int64)), (.long (0 : Int64)), (.long (0 : Int64)), (.long (0 : Int64)), (.long (0 : Int64)), (.long (0 : Int64)), (.long (0 : Int64)), (.long (0 : Int64))] (.long (0 : Int64)))
  have V_s3 := V_s3.other W18 (Ne.symm ne_s2_s3)
  have V_s4 := V_s4.other W18 (Ne.symm ne_s2_s4)
  have K0 := K0.wr W18 (Or.inl (by simp))
  have N18 := Fr.snoc X18 N16 g_s2
  refine go st18 ?_
  show Run p e below _ (T18.setTop (mkF m 14 #[.val (.ref a), .val (.int (0 : Int32)), .val (.int p2), .val (.long l2), .second, .val (.double d2), .second, .val (.int p3)] []))
  refine go (fun _ => XS.aloadN X18.here hx rfl (hb hby d_p15_m23_14) rfl rfl) ?_
  show Run p e below _ (T18.setTop (mkF m 15 #[.val (.ref a), .val (.int (0 : Int32)), .val (.int p2), .val (.long l2), .second, .val (.double d2), .second, .val (.int p3)] [(.ref a)]))
  obtain ⟨T19, X19, e19, st19⟩ := getF X18 hx hZ hown (host := "") (Or.inl (wd hw 19 rfl)) Via.refl e18 F_scores_a (g := (mkF m 15 #[.val (.ref a), .val (.int (0 : Int32)), .val (.int p2), .val (.long l2), .second, .val (.double d2), .second, .val (.int p3)] [(.ref a)])) rfl rfl (hb hby d_p15_m23_15)
  refine go st19 ?_
  show Run p e below _ (T19.setTop (mkF m 18 #[.val (.ref a), .val (.int (0 : Int32)), .val (.int p2), .val (.long l2), .second, .val (.double d2), .second, .val (.int p3)] [(.ref s3)]))
  refine go (fun _ => XS.iloadN X19.here hx rfl (hb hby d_p15_m23_18) rfl) ?_
  show Run p e below _ (T19.setTop (mkF m 19 #[.val (.ref a), .val (.int (0 : Int32)), .val (.int p2), .val (.long l2), .second, .val (.double d2), .second, .val (.int p3)] [(.int (0 : Int32)), (.ref s3)]))
  refine go (fun _ => XS.dload X19.here hx rfl (hb hby d_p15_m23_19) rfl) ?_
  show Run p e below _ (T19.setTop (mkF m 21 #[.val (.ref a), .val (.int (0 : Int32)), .val (.int p2), .val (.long l2), .second, .val (.double d2), .second, .val (.int p3)] [(.double d2), (.int (0 : Int32)), (.ref s3)]))
  obtain ⟨cl20, Ar20, ak20, as20, an20, ah20, ag20⟩ := id V_s3
  have hin20 := inb_of as20 (j := (0 : Int32)) ⟨by decide, by decide⟩
  obtain ⟨T20, h20, X20, e20, W20, st20⟩ := stD X19 hx hZ e19 Ar20 (j := (0 : Int32)) hin20 (g := (mkF m 21 #[.val (.ref a), .val (.int (0 : Int32)), .val (.int p2), .val (.long l2), .second, .val (.double d2), .second, .val (.int p3)] [(.double d2), (.int (0 : Int32)), (.ref s3)])) rfl rfl (hb hby d_p15_m23_21)
  have ne_a_s3 : a ≠ s3 := Exa.neArv E_a V_s3 (wd hw 1 rfl)
  have O0 := O0.wr W20 g_s3
  have E_a := E_a.wr W20
  have F_leftOut_a := F_leftOut_a.other W20 (Or.inl ne_a_s3)
  have F_slots_a := F_slots_a.other W20 (Or.inl ne_a_s3)
  have F_published_a := F_published_a.other W20 (Or.inl ne_a_s3)
  have F_scores_a := F_scores_a.other W20 (Or.inl ne_a_s3)
  have F_shares_a := F_shares_a.other W20 (Or.inl ne_a_s3)
  have F_alpha_a := F_alpha_a.other W20 (Or.inl ne_a_s3)
  have F_keywords_a := F_keywords_a.other W20 (Or.inl ne_a_s3)
  have F_count_a := F_count_a.other W20 (Or.inl ne_a_s3)
  have F_size_a := F_size_a.other W20 (Or.inl ne_a_s3)
  have F_scored_a := F_scored_a.other W20 (Or.inl ne_a_s3)
  have F_ordered_a := F_ordered_a.other W20 (Or.inl ne_a_s3)
  have F_heap_a := F_heap_a.other W20 (Or.inl ne_a_s3)
  have V_s1 := V_s1.other W20 ne_s1_s3
  have V_s2 := V_s2.other W20 ne_s2_s3
  have V_s3 := (Arv.set Ar20 ak20 as20 an20 ah20 ag20 rfl W20 0 rfl (Nat.le_of_ble_eq_true rfl) : Arv Z h20 s3 ks3 .double (16 : Int32) [(.double d2), (.double zb), (.double (0 : UInt64)), (.double (0 : UInt64)), (.double (0 : UInt64)), (.double (0 : UInt64)), (.double (0 : UInt64)), (.double (0 : UInt64)), (.double (0 : UInt64)), (.double (0 : UInt64)), (.double (0 : UInt64)), (.double (0 : UInt64)), (.double (0 : UInt64)), (.double (0 : UInt64)), (.double (0 : UInt64)), (.double (0 : UInt64))] (.double (0 : UInt64)))
  have V_s4 := V_s4.other W20 (Ne.symm ne_s3_s4)
  have K0 := K0.wr W20 (Or.inl (by simp))
  have N20 := Fr.snoc X20 N18 g_s3
  refine go st20 ?_
  show Run p e below _ (T20.setTop (mkF m 22 #[.val (.ref a), .val (.int (0 : Int32)), .val (.int p2), .val (.long l2), .second, .val (.double d2), .second, .val (.int p3)] []))
  refine go (fun _ => XS.aloadN X20.here hx rfl (hb hby d_p15_m23_22) rfl rfl) ?_
  show Run p e below _ (T20.setTop (mkF m 23 #[.val (.ref a), .val (.int (0 : Int32)), .val (.int p2), .val (.long l2), .second, .val (.double d2), .second, .val (.int p3)] [(.ref a)]))
  obtain ⟨T21, X21, e21, st21⟩ := getF X20 hx hZ hown (host := "") (Or.inl (wd hw 22 rfl)) Via.refl e20 F_shares_a (g := (mkF m 23 #[.val (.ref a), .val (.int (0 : Int32)), .val (.int p2), .val (.long l2), .second, .val (.double d2), .second, .val (.int p3)] [(.ref a)])) rfl rfl (hb hby d_p15_m23_23)
  refine go st21 ?_
  show Run p e below _ (T21.setTop (mkF m 26 #[.val (.ref a), .val (.int (0 : Int32)), .val (.int p2), .val (.long l2), .second, .val (.double d2), .second, .val (.int p3)] [(.ref s4)]))
  refine go (fun _ => XS.iloadN X21.here hx rfl (hb hby d_p15_m23_26) rfl) ?_
  show Run p e below _ (T21.setTop (mkF m 27 #[.val (.ref a), .val (.int (0 : Int32)), .val (.int p2), .val (.long l2), .second, .val (.double d2), .second, .val (.int p3)] [(.int (0 : Int32)), (.ref s4)]))
  refine go (fun _ => XS.iload X21.here hx rfl (hb hby d_p15_m23_27) rfl) ?_
  show Run p e below _ (T21.setTop (mkF m 29 #[.val (.ref a), .val (.int (0 : Int32)), .val (.int p2), .val (.long l2), .second, .val (.double d2), .second, .val (.int p3)] [(.int p3), (.int (0 : Int32)), (.ref s4)]))
  obtain ⟨cl22, Ar22, ak22, as22, an22, ah22, ag22⟩ := id V_s4
  have hin22 := inb_of as22 (j := (0 : Int32)) ⟨by decide, by decide⟩
  obtain ⟨T22, h22, X22, e22, W22, st22⟩ := stC X21 hx hZ e21 Ar22 (j := (0 : Int32)) hin22 (g := (mkF m 29 #[.val (.ref a), .val (.int (0 : Int32)), .val (.int p2), .val (.long l2), .second, .val (.double d2), .second, .val (.int p3)] [(.int p3), (.int (0 : Int32)), (.ref s4)])) rfl rfl (hb hby d_p15_m23_29)
  have ne_a_s4 : a ≠ s4 := Exa.neArv E_a V_s4 (wd hw 1 rfl)
  have O0 := O0.wr W22 g_s4
  have E_a := E_a.wr W22
  have F_leftOut_a := F_leftOut_a.other W22 (Or.inl ne_a_s4)
  have F_slots_a := F_slots_a.other W22 (Or.inl ne_a_s4)
  have F_published_a := F_published_a.other W22 (Or.inl ne_a_s4)
  have F_scores_a := F_scores_a.other W22 (Or.inl ne_a_s4)
  have F_shares_a := F_shares_a.other W22 (Or.inl ne_a_s4)
  have F_alpha_a := F_alpha_a.other W22 (Or.inl ne_a_s4)
  have F_keywords_a := F_keywords_a.other W22 (Or.inl ne_a_s4)
  have F_count_a := F_count_a.other W22 (Or.inl ne_a_s4)
  have F_size_a := F_size_a.other W22 (Or.inl ne_a_s4)
  have F_scored_a := F_scored_a.other W22 (Or.inl ne_a_s4)
  have F_ordered_a := F_ordered_a.other W22 (Or.inl ne_a_s4)
  have F_heap_a := F_heap_a.other W22 (Or.inl ne_a_s4)
  have V_s1 := V_s1.other W22 ne_s1_s4
  have V_s2 := V_s2.other W22 ne_s2_s4
  have V_s3 := V_s3.other W22 ne_s3_s4
  have V_s4 := (Arv.set Ar22 ak22 as22 an22 ah22 ag22 (fits_nar_char _) W22 0 rfl (Nat.le_of_ble_eq_true rfl) : Arv Z h22 s4 ks4 .char (16 : Int32) [(.int (nar .char p3)), (.int rb), (.int (0 : Int32)), (.int (0 : Int32)), (.int (0 : Int32)), (.int (0 : Int32)), (.int (0 : Int32)), (.int (0 : Int32)), (.int (0 : Int32)), (.int (0 : Int32)), (.int (0 : Int32)), (.int (0 : Int32)), (.int (0 : Int32)), (.int (0 : Int32)), (.int (0 : Int32)), (.int (0 : Int32))] (.int (0 : Int32)))
  have K0 := K0.wr W22 (Or.inl (by simp))
  have N22 := Fr.snoc X22 N20 g_s4
  refine go st22 ?_
  show Run p e below _ (T22.setTop (mkF m 30 #[.val (.ref a), .val (.int (0 : Int32)), .val (.int p2), .val (.long l2), .second, .val (.double d2), .second, .val (.int p3)] []))
  exact endV X22 hx hlk hret (hb hby d_p15_m23_30) (by rw [e22]; exact ⟨rfl, N22, K0, V_s1, V_s2, V_s3, V_s4⟩) (by decide) (by decide)
def Q_rm_set1 (Z : State) (a : Addr) (lo al : UInt64) (kw ct sz : Int32) (sd : Int64) (od hp : Int32) (s1 s2 s3 s4 : Addr) (ks1 ks2 ks3 ks4 : ClassId) (xa xb : Int32) (ja jb : Int64) (za zb : UInt64) (ra rb : Int32) (p2 : Int32) (l2 : Int64) (d2 : UInt64) (p3 : Int32) (h0 : Heap) (n0 : Nat) (v : Option Value) (h : Heap) (L : List Loc) : Prop := v = none ∧ Fr n0 L ∧ Keep h0 h [s1, s2, s3, s4] ∧ Arv Z h s1 ks1 .int (16 : Int32) [(.int xa), (.int p2), (.int (0 : Int32)), (.int (0 : Int32)), (.int (0 : Int32)), (.int (0 : Int32)), (.int (0 : Int32)), (.int (0 : Int32)), (.int (0 : Int32)), (.int (0 : Int32)), (.int (0 : Int32)), (.int (0 : Int32)), (.int (0 : Int32)), (.int (0 : Int32)), (.int (0 : Int32)), (.int (0 : Int32))] (.int (0 : Int32)) ∧ Arv Z h s2 ks2 .long (16 : Int32) [(.long ja), (.long l2), (.long (0 : Int64)), (.long (0 : Int64)), (.long (0 : Int64)), (.long (0 : Int64)), (.long (0 : Int64)), (.long (0 : Int64)), (.long (0 : Int64)), (.long (0 : Int64)), (.long (0 : Int64)), (.long (0 : Int64)), (.long (0 : Int64)), (.long (0 : Int64)), (.long (0 : Int64)), (.long (0 : Int64))] (.long (0 : Int64)) ∧ Arv Z h s3 ks3 .double (16 : Int32) [(.double za), (.double d2), (.double (0 : UInt64)), (.double (0 : UInt64)), (.double (0 : UInt64)), (.double (0 : UInt64)), (.double (0 : UInt64)), (.double (0 : UInt64)), (.double (0 : UInt64)), (.double (0 : UInt64)), (.double (0 : UInt64)), (.double (0 : UInt64)), (.double (0 : UInt64)), (.double (0 : UInt64)), (.double (0 : UInt64)), (.double (0 : UInt64))] (.double (0 : UInt64)) ∧ Arv Z h s4 ks4 .char (16 : Int32) [(.int ra), (.int (nar .char p3)), (.int (0 : Int32)), (.int (0 : Int32)), (.int (0 : Int32)), (.int (0 : Int32)), (.int (0 : Int32)), (.int (0 : Int32)), (.int (0 : Int32)), (.int (0 : Int32)), (.int (0 : Int32)), (.int (0 : Int32)), (.int (0 : Int32)), (.int (0 : Int32)), (.int (0 : Int32)), (.int (0 : Int32))] (.int (0 : Int32))
set_option maxRecDepth 65536 in
set_option maxHeartbeats 40000000 in
theorem rm_set1 (l : Launch) (Z : State) (a0 : Array Value) (hw : ∀ d ∈ tables_1, d.before a0 Z = true) (ws : List Jvm.Cond) (a : Addr) (lo al : UInt64) (kw ct sz : Int32) (sd : Int64) (od hp : Int32) (s1 s2 s3 s4 : Addr) (ks1 ks2 ks3 ks4 : ClassId) (xa xb : Int32) (ja jb : Int64) (za zb : UInt64) (ra rb : Int32) (p2 : Int32) (l2 : Int64) (d2 : UInt64) (p3 : Int32) (h0 : Heap) (n0 : Nat) (O0 : Old Z n0 h0) (E_a : Exa Z h0 a "nearcast/engine/Best") (F_leftOut_a : Fld Z h0 a "nearcast/engine/Best" "leftOut" "D" (.double lo)) (F_slots_a : Fld Z h0 a "nearcast/engine/Best" "slots" "[I" (.ref s1)) (F_published_a : Fld Z h0 a "nearcast/engine/Best" "published" "[J" (.ref s2)) (F_scores_a : Fld Z h0 a "nearcast/engine/Best" "scores" "[D" (.ref s3)) (F_shares_a : Fld Z h0 a "nearcast/engine/Best" "shares" "[C" (.ref s4)) (F_alpha_a : Fld Z h0 a "nearcast/engine/Best" "alpha" "D" (.double al)) (F_keywords_a : Fld Z h0 a "nearcast/engine/Best" "keywords" "I" (.int kw)) (F_count_a : Fld Z h0 a "nearcast/engine/Best" "count" "I" (.int ct)) (F_size_a : Fld Z h0 a "nearcast/engine/Best" "size" "I" (.int sz)) (F_scored_a : Fld Z h0 a "nearcast/engine/Best" "scored" "J" (.long sd)) (F_ordered_a : Fld Z h0 a "nearcast/engine/Best" "ordered" "Z" (.int od)) (F_heap_a : Fld Z h0 a "nearcast/engine/Best" "heap" "Z" (.int hp)) (V_s1 : Arv Z h0 s1 ks1 .int (16 : Int32) [(.int xa), (.int xb), (.int (0 : Int32)), (.int (0 : Int32)), (.int (0 : Int32)), (.int (0 : Int32)), (.int (0 : Int32)), (.int (0 : Int32)), (.int (0 : Int32)), (.int (0 : Int32)), (.int (0 : Int32)), (.int (0 : Int32)), (.int (0 : Int32)), (.int (0 : Int32)), (.int (0 : Int32)), (.int (0 : Int32))] (.int (0 : Int32))) (V_s2 : Arv Z h0 s2 ks2 .long (16 : Int32) [(.long ja), (.long jb), (.long (0 : Int64)), (.long (0 : Int64)), (.long (0 : Int64)), (.long (0 : Int64)), (.long (0 : Int64)), (.long (0 : Int64)), (.long (0 : Int64)), (.long (0 : Int64)), (.long (0 : Int64)), (.long (0 : Int64)), (.long (0 : Int64)), (.long (0 : Int64)), (.long (0 : Int64)), (.long (0 : Int64))] (.long (0 : Int64))) (V_s3 : Arv Z h0 s3 ks3 .double (16 : Int32) [(.double za), (.double zb), (.double (0 : UInt64)), (.double (0 : UInt64)), (.double (0 : UInt64)), (.double (0 : UInt64)), (.double (0 : UInt64)), (.double (0 : UInt64)), (.double (0 : UInt64)), (.double (0 : UInt64)), (.double (0 : UInt64)), (.double (0 : UInt64)), (.double (0 : UInt64)), (.double (0 : UInt64)), (.double (0 : UInt64)), (.double (0 : UInt64))] (.double (0 : UInt64))) (V_s4 : Arv Z h0 s4 ks4 .char (16 : Int32) [(.int ra), (.int rb), (.int (0 : Int32)), (.int (0 : Int32)), (.int (0 : Int32)), (.int (0 : Int32)), (.int (0 : Int32)), (.int (0 : Int32)), (.int (0 : Int32)), (.int (0 : Int32)), (.int (0 : Int32)), (.int (0 : Int32)), (.int (0 : Int32)), (.int (0 : Int32)), (.int (0 : Int32)), (.int (0 : Int32))] (.int (0 : Int32))) (ne_s1_s2 : s1 ≠ s2) (ne_s1_s3 : s1 ≠ s3) (ne_s1_s4 : s1 ≠ s4) (ne_s2_s3 : s2 ≠ s3) (ne_s2_s4 : s2 ≠ s4) (ne_s3_s4 : s3 ≠ s4) (g_s1 : n0 ≤ s1) (g_s2 : n0 ≤ s2) (g_s3 : n0 ≤ s3) (g_s4 : n0 ≤ s4) (g_a : n0 ≤ a)  :
    Meets l (⟨"nearcast/engine/Best", "set", "(IIJDC)V"⟩ : MethodName) prog_15_method_23_code 8 none ws ({ frames := 0, cells := 0, slots := 0, locals := 0 } : Room) Z #[(.ref a), (.int (1 : Int32)), (.int p2), (.long l2), (.double d2), (.int p3)] h0 (Q_rm_set1 Z a lo al kw ct sz sd od hp s1 s2 s3 s4 ks1 ks2 ks3 ks4 xa xb ja jb za zb ra rb p2 l2 d2 p3 h0 n0) 0 0 := by
  refine enter (Ls := #[.val (.ref a), .val (.int (1 : Int32)), .val (.int p2), .val (.long l2), .second, .val (.double d2), .second, .val (.int p3)]) (plainFor_of_name pn_3) (fun m => by first | (simp [entryFrame, mkF, argsToLocals, Value.category]; done) | rfl) ?_
  intro p e s m below meth c T0 hx hby hml hown hnm hret hlk hZ X0 e0
  have N0 := Fr.nil n0
  replace hown : s.vm.findClass "nearcast/engine/Best" = some m.cls := hown
  show Run p e below _ (T0.setTop (mkF m 0 #[.val (.ref a), .val (.int (1 : Int32)), .val (.int p2), .val (.long l2), .second, .val (.double d2), .second, .val (.int p3)] []))
  have K0 := Keep.refl h0 [s1, s2, s3, s4]
  refine go (fun _ => XS.aloadN X0.here hx rfl (hb hby d_p15_m23_0) rfl rfl) ?_
  show Run p e below _ (T0.setTop (mkF m 1 #[.val (.ref a), .val (.int (1 : Int32)), .val (.int p2), .val (.long l2), .second, .val (.double d2), .second, .val (.int p3)] [(.ref a)]))
  obtain ⟨T23, X23, e23, st23⟩ := getF X0 hx hZ hown (host := "") (Or.inl (wd hw 13 rfl)) Via.refl e0 F_slots_a (g := (mkF m 1 #[.val (.ref a), .val (.int (1 : Int32)), .val (.int p2), .val (.long l2), .second, .val (.double d2), .second, .val (.int p3)] [(.ref a)])) rfl rfl (hb hby d_p15_m23_1)
  refine go st23 ?_
  show Run p e below _ (T23.setTop (mkF m 4 #[.val (.ref a), .val (.int (1 : Int32)), .val (.int p2), .val (.long l2), .second, .val (.double d2), .second, .val (.int p3)] [(.ref s1)]))
  refine go (fun _ => XS.iloadN X23.here hx rfl (hb hby d_p15_m23_4) rfl) ?_
  show Run p e below _ (T23.setTop (mkF m 5 #[.val (.ref a), .val (.int (1 : Int32)), .val (.int p2), .val (.long l2), .second, .val (.double d2), .second, .val (.int p3)] [(.int (1 : Int32)), (.ref s1)]))
  refine go (fun _ => XS.iloadN X23.here hx rfl (hb hby d_p15_m23_5) rfl) ?_
  show Run p e below _ (T23.setTop (mkF m 6 #[.val (.ref a), .val (.int (1 : Int32)), .val (.int p2), .val (.long l2), .second, .val (.double d2), .second, .val (.int p3)] [(.int p2), (.int (1 : Int32)), (.ref s1)]))
  obtain ⟨cl24, Ar24, ak24, as24, an24, ah24, ag24⟩ := id V_s1
  have hin24 := inb_of as24 (j := (1 : Int32)) ⟨by decide, by decide⟩
  obtain ⟨T24, h24, X24, e24, W24, st24⟩ := stI X23 hx hZ e23 Ar24 (j := (1 : Int32)) hin24 (g := (mkF m 6 #[.val (.ref a), .val (.int (1 : Int32)), .val (.int p2), .val (.long l2), .second, .val (.double d2), .second, .val (.int p3)] [(.int p2), (.int (1 : Int32)), (.ref s1)])) rfl rfl (hb hby d_p15_m23_6)
  have ne_a_s1 : a ≠ s1 := Exa.neArv E_a V_s1 (wd hw 1 rfl)
  have O0 := O0.wr W24 g_s1
  have E_a := E_a.wr W24
  have F_leftOut_a := F_leftOut_a.other W24 (Or.inl ne_a_s1)
  have F_slots_a := F_slots_a.other W24 (Or.inl ne_a_s1)
  have F_published_a := F_published_a.other W24 (Or.inl ne_a_s1)
  have F_scores_a := F_scores_a.other W24 (Or.inl ne_a_s1)
  have F_shares_a := F_shares_a.other W24 (Or.inl ne_a_s1)
  have F_alpha_a := F_alpha_a.other W24 (Or.inl ne_a_s1)
  have F_keywords_a := F_keywords_a.other W24 (Or.inl ne_a_s1)
  have F_count_a := F_count_a.other W24 (Or.inl ne_a_s1)
  have F_size_a := F_size_a.other W24 (Or.inl ne_a_s1)
  have F_scored_a := F_scored_a.other W24 (Or.inl ne_a_s1)
  have F_ordered_a := F_ordered_a.other W24 (Or.inl ne_a_s1)
  have F_heap_a := F_heap_a.other W24 (Or.inl ne_a_s1)
  have V_s1 := (Arv.set Ar24 ak24 as24 an24 ah24 ag24 rfl W24 1 rfl (Nat.le_of_ble_eq_true rfl) : Arv Z h24 s1 ks1 .int (16 : Int32) [(.int xa), (.int p2), (.int (0 : Int32)), (.int (0 : Int32)), (.int (0 : Int32)), (.int (0 : Int32)), (.int (0 : Int32)), (.int (0 : Int32)), (.int (0 : Int32)), (.int (0 : Int32)), (.int (0 : Int32)), (.int (0 : Int32)), (.int (0 : Int32)), (.int (0 : Int32)), (.int (0 : Int32)), (.int (0 : Int32))] (.int (0 : Int32)))
  have V_s2 := V_s2.other W24 (Ne.symm ne_s1_s2)
  have V_s3 := V_s3.other W24 (Ne.symm ne_s1_s3)
  have V_s4 := V_s4.other W24 (Ne.symm ne_s1_s4)
  have K0 := K0.wr W24 (Or.inl (by simp))
  have N24 := Fr.snoc X24 N0 g_s1
  refine go st24 ?_
  show Run p e below _ (T24.setTop (mkF m 7 #[.val (.ref a), .val (.int (1 : Int32)), .val (.int p2), .val (.long l2), .second, .val (.double d2), .second, .val (.int p3)] []))
  refine go (fun _ => XS.aloadN X24.here hx rfl (hb hby d_p15_m23_7) rfl rfl) ?_
  show Run p e below _ (T24.setTop (mkF m 8 #[.val (.ref a), .val (.int (1 : Int32)), .val (.int p2), .val (.long l2), .second, .val (.double d2), .second, .val (.int p3)] [(.ref a)]))
  obtain ⟨T25, X25, e25, st25⟩ := getF X24 hx hZ hown (host := "") (Or.inl (wd hw 16 rfl)) Via.refl e24 F_published_a (g := (mkF m 8 #[.val (.ref a), .val (.int (1 : Int32)), .val (.int p2), .val (.long l2), .second, .val (.double d2), .second, .val (.int p3)] [(.ref a)])) rfl rfl (hb hby d_p15_m23_8)
  refine go st25 ?_
  show Run p e below _ (T25.setTop (mkF m 11 #[.val (.ref a), .val (.int (1 : Int32)), .val (.int p2), .val (.long l2), .second, .val (.double d2), .second, .val (.int p3)] [(.ref s2)]))
  refine go (fun _ => XS.iloadN X25.here hx rfl (hb hby d_p15_m23_11) rfl) ?_
  show Run p e below _ (T25.setTop (mkF m 12 #[.val (.ref a), .val (.int (1 : Int32)), .val (.int p2), .val (.long l2), .second, .val (.double d2), .second, .val (.int p3)] [(.int (1 : Int32)), (.ref s2)]))
  refine go (fun _ => XS.lloadN X25.here hx rfl (hb hby d_p15_m23_12) rfl) ?_
  show Run p e below _ (T25.setTop (mkF m 13 #[.val (.ref a), .val (.int (1 : Int32)), .val (.int p2), .val (.long l2), .second, .val (.double d2), .second, .val (.int p3)] [(.long l2), (.int (1 : Int32)), (.ref s2)]))
  obtain ⟨cl26, Ar26, ak26, as26, an26, ah26, ag26⟩ := id V_s2
  have hin26 := inb_of as26 (j := (1 : Int32)) ⟨by decide, by decide⟩
  obtain ⟨T26, h26, X26, e26, W26, st26⟩ := stJ X25 hx hZ e25 Ar26 (j := (1 : Int32)) hin26 (g := (mkF m 13 #[.val (.ref a), .val (.int (1 : Int32)), .val (.int p2), .val (.long l2), .second, .val (.double d2), .second, .val (.int p3)] [(.long l2), (.int (1 : Int32)), (.ref s2)])) rfl rfl (hb hby d_p15_m23_13)
  have ne_a_s2 : a ≠ s2 := Exa.neArv E_a V_s2 (wd hw 1 rfl)
  have O0 := O0.wr W26 g_s2
  have E_a := E_a.wr W26
  have F_leftOut_a := F_leftOut_a.other W26 (Or.inl ne_a_s2)
  have F_slots_a := F_slots_a.other W26 (Or.inl ne_a_s2)
  have F_published_a := F_published_a.other W26 (Or.inl ne_a_s2)
  have F_scores_a := F_scores_a.other W26 (Or.inl ne_a_s2)
  have F_shares_a := F_shares_a.other W26 (Or.inl ne_a_s2)
  have F_alpha_a := F_alpha_a.other W26 (Or.inl ne_a_s2)
  have F_keywords_a := F_keywords_a.other W26 (Or.inl ne_a_s2)
  have F_count_a := F_count_a.other W26 (Or.inl ne_a_s2)
  have F_size_a := F_size_a.other W26 (Or.inl ne_a_s2)
  have F_scored_a := F_scored_a.other W26 (Or.inl ne_a_s2)
  have F_ordered_a := F_ordered_a.other W26 (Or.inl ne_a_s2)
  have F_heap_a := F_heap_a.other W26 (Or.inl ne_a_s2)
  have V_s1 := V_s1.other W26 ne_s1_s2
  have V_s2 := (Arv.set Ar26 ak26 as26 an26 ah26 ag26 rfl W26 1 rfl (Nat.le_of_ble_eq_true rfl) : Arv Z h26 s2 ks2 .long (16 : Int32) [(.long ja), (.long l2), (.long (0 : Int64)), (.long (0 : Int64)), (.long (0 : Int64)), (.long (0 : Int64)), (.long (0 : Int64)), (.long (0 : Int64)), (.long (0 : Int64)), (.long (0 : Int64)), (.long (0 : Int64)), (.long (0 : Int64)), (.long (0 : Int64)), (.long (0 : Int64)), (.long (0 : Int64)), (.long (0 : Int64))] (.long (0 : Int64)))
  have V_s3 := V_s3.other W26 (Ne.symm ne_s2_s3)
  have V_s4 := V_s4.other W26 (Ne.symm ne_s2_s4)
  have K0 := K0.wr W26 (Or.inl (by simp))
  have N26 := Fr.snoc X26 N24 g_s2
  refine go st26 ?_
  show Run p e below _ (T26.setTop (mkF m 14 #[.val (.ref a), .val (.int (1 : Int32)), .val (.int p2), .val (.long l2), .second, .val (.double d2), .second, .val (.int p3)] []))
  refine go (fun _ => XS.aloadN X26.here hx rfl (hb hby d_p15_m23_14) rfl rfl) ?_
  show Run p e below _ (T26.setTop (mkF m 15 #[.val (.ref a), .val (.int (1 : Int32)), .val (.int p2), .val (.long l2), .second, .val (.double d2), .second, .val (.int p3)] [(.ref a)]))
  obtain ⟨T27, X27, e27, st27⟩ := getF X26 hx hZ hown (host := "") (Or.inl (wd hw 19 rfl)) Via.refl e26 F_scores_a (g := (mkF m 15 #[.val (.ref a), .val (.int (1 : Int32)), .val (.int p2), .val (.long l2), .second, .val (.double d2), .second, .val (.int p3)] [(.ref a)])) rfl rfl (hb hby d_p15_m23_15)
  refine go st27 ?_
  show Run p e below _ (T27.setTop (mkF m 18 #[.val (.ref a), .val (.int (1 : Int32)), .val (.int p2), .val (.long l2), .second, .val (.double d2), .second, .val (.int p3)] [(.ref s3)]))
  refine go (fun _ => XS.iloadN X27.here hx rfl (hb hby d_p15_m23_18) rfl) ?_
  show Run p e below _ (T27.setTop (mkF m 19 #[.val (.ref a), .val (.int (1 : Int32)), .val (.int p2), .val (.long l2), .second, .val (.double d2), .second, .val (.int p3)] [(.int (1 : Int32)), (.ref s3)]))
  refine go (fun _ => XS.dload X27.here hx rfl (hb hby d_p15_m23_19) rfl) ?_
  show Run p e below _ (T27.setTop (mkF m 21 #[.val (.ref a), .val (.int (1 : Int32)), .val (.int p2), .val (.long l2), .second, .val (.double d2), .second, .val (.int p3)] [(.double d2), (.int (1 : Int32)), (.ref s3)]))
  obtain ⟨cl28, Ar28, ak28, as28, an28, ah28, ag28⟩ := id V_s3
  have hin28 := inb_of as28 (j := (1 : Int32)) ⟨by decide, by decide⟩
  obtain ⟨T28, h28, X28, e28, W28, st28⟩ := stD X27 hx hZ e27 Ar28 (j := (1 : Int32)) hin28 (g := (mkF m 21 #[.val (.ref a), .val (.int (1 : Int32)), .val (.int p2), .val (.long l2), .second, .val (.double d2), .second, .val (.int p3)] [(.double d2), (.int (1 : Int32)), (.ref s3)])) rfl rfl (hb hby d_p15_m23_21)
  have ne_a_s3 : a ≠ s3 := Exa.neArv E_a V_s3 (wd hw 1 rfl)
  have O0 := O0.wr W28 g_s3
  have E_a := E_a.wr W28
  have F_leftOut_a := F_leftOut_a.other W28 (Or.inl ne_a_s3)
  have F_slots_a := F_slots_a.other W28 (Or.inl ne_a_s3)
  have F_published_a := F_published_a.other W28 (Or.inl ne_a_s3)
  have F_scores_a := F_scores_a.other W28 (Or.inl ne_a_s3)
  have F_shares_a := F_shares_a.other W28 (Or.inl ne_a_s3)
  have F_alpha_a := F_alpha_a.other W28 (Or.inl ne_a_s3)
  have F_keywords_a := F_keywords_a.other W28 (Or.inl ne_a_s3)
  have F_count_a := F_count_a.other W28 (Or.inl ne_a_s3)
  have F_size_a := F_size_a.other W28 (Or.inl ne_a_s3)
  have F_scored_a := F_scored_a.other W28 (Or.inl ne_a_s3)
  have F_ordered_a := F_ordered_a.other W28 (Or.inl ne_a_s3)
  have F_heap_a := F_heap_a.other W28 (Or.inl ne_a_s3)
  have V_s1 := V_s1.other W28 ne_s1_s3
  have V_s2 := V_s2.other W28 ne_s2_s3
  have V_s3 := (Arv.set Ar28 ak28 as28 an28 ah28 ag28 rfl W28 1 rfl (Nat.le_of_ble_eq_true rfl) : Arv Z h28 s3 ks3 .double (16 : Int32) [(.double za), (.double d2), (.double (0 : UInt64)), (.double (0 : UInt64)), (.double (0 : UInt64)), (.double (0 : UInt64)), (.double (0 : UInt64)), (.double (0 : UInt64)), (.double (0 : UInt64)), (.double (0 : UInt64)), (.double (0 : UInt64)), (.double (0 : UInt64)), (.double (0 : UInt64)), (.double (0 : UInt64)), (.double (0 : UInt64)), (.double (0 : UInt64))] (.double (0 : UInt64)))
  have V_s4 := V_s4.other W28 (Ne.symm ne_s3_s4)
  have K0 := K0.wr W28 (Or.inl (by simp))
  have N28 := Fr.snoc X28 N26 g_s3
  refine go st28 ?_
  show Run p e below _ (T28.setTop (mkF m 22 #[.val (.ref a), .val (.int (1 : Int32)), .val (.int p2), .val (.long l2), .second, .val (.double d2), .second, .val (.int p3)] []))
  refine go (fun _ => XS.aloadN X28.here hx rfl (hb hby d_p15_m23_22) rfl rfl) ?_
  show Run p e below _ (T28.setTop (mkF m 23 #[.val (.ref a), .val (.int (1 : Int32)), .val (.int p2), .val (.long l2), .second, .val (.double d2), .second, .val (.int p3)] [(.ref a)]))
  obtain ⟨T29, X29, e29, st29⟩ := getF X28 hx hZ hown (host := "") (Or.inl (wd hw 22 rfl)) Via.refl e28 F_shares_a (g := (mkF m 23 #[.val (.ref a), .val (.int (1 : Int32)), .val (.int p2), .val (.long l2), .second, .val (.double d2), .second, .val (.int p3)] [(.ref a)])) rfl rfl (hb hby d_p15_m23_23)
  refine go st29 ?_
  show Run p e below _ (T29.setTop (mkF m 26 #[.val (.ref a), .val (.int (1 : Int32)), .val (.int p2), .val (.long l2), .second, .val (.double d2), .second, .val (.int p3)] [(.ref s4)]))
  refine go (fun _ => XS.iloadN X29.here hx rfl (hb hby d_p15_m23_26) rfl) ?_
  show Run p e below _ (T29.setTop (mkF m 27 #[.val (.ref a), .val (.int (1 : Int32)), .val (.int p2), .val (.long l2), .second, .val (.double d2), .second, .val (.int p3)] [(.int (1 : Int32)), (.ref s4)]))
  refine go (fun _ => XS.iload X29.here hx rfl (hb hby d_p15_m23_27) rfl) ?_
  show Run p e below _ (T29.setTop (mkF m 29 #[.val (.ref a), .val (.int (1 : Int32)), .val (.int p2), .val (.long l2), .second, .val (.double d2), .second, .val (.int p3)] [(.int p3), (.int (1 : Int32)), (.ref s4)]))
  obtain ⟨cl30, Ar30, ak30, as30, an30, ah30, ag30⟩ := id V_s4
  have hin30 := inb_of as30 (j := (1 : Int32)) ⟨by decide, by decide⟩
  obtain ⟨T30, h30, X30, e30, W30, st30⟩ := stC X29 hx hZ e29 Ar30 (j := (1 : Int32)) hin30 (g := (mkF m 29 #[.val (.ref a), .val (.int (1 : Int32)), .val (.int p2), .val (.long l2), .second, .val (.double d2), .second, .val (.int p3)] [(.int p3), (.int (1 : Int32)), (.ref s4)])) rfl rfl (hb hby d_p15_m23_29)
  have ne_a_s4 : a ≠ s4 := Exa.neArv E_a V_s4 (wd hw 1 rfl)
  have O0 := O0.wr W30 g_s4
  have E_a := E_a.wr W30
  have F_leftOut_a := F_leftOut_a.other W30 (Or.inl ne_a_s4)
  have F_slots_a := F_slots_a.other W30 (Or.inl ne_a_s4)
  have F_published_a := F_published_a.other W30 (Or.inl ne_a_s4)
  have F_scores_a := F_scores_a.other W30 (Or.inl ne_a_s4)
  have F_shares_a := F_shares_a.other W30 (Or.inl ne_a_s4)
  have F_alpha_a := F_alpha_a.other W30 (Or.inl ne_a_s4)
  have F_keywords_a := F_keywords_a.other W30 (Or.inl ne_a_s4)
  have F_count_a := F_count_a.other W30 (Or.inl ne_a_s4)
  have F_size_a := F_size_a.other W30 (Or.inl ne_a_s4)
  have F_scored_a := F_scored_a.other W30 (Or.inl ne_a_s4)
  have F_ordered_a := F_ordered_a.other W30 (Or.inl ne_a_s4)
  have F_heap_a := F_heap_a.other W30 (Or.inl ne_a_s4)
  have V_s1 := V_s1.other W30 ne_s1_s4
  have V_s2 := V_s2.other W30 ne_s2_s4
  have V_s3 := V_s3.other W30 ne_s3_s4
  have V_s4 := (Arv.set Ar30 ak30 as30 an30 ah30 ag30 (fits_nar_char _) W30 1 rfl (Nat.le_of_ble_eq_true rfl) : Arv Z h30 s4 ks4 .char (16 : Int32) [(.int ra), (.int (nar .char p3)), (.int (0 : Int32)), (.int (0 : Int32)), (.int (0 : Int32)), (.int (0 : Int32)), (.int (0 : Int32)), (.int (0 : Int32)), (.int (0 : Int32)), (.int (0 : Int32)), (.int (0 : Int32)), (.int (0 : Int32)), (.int (0 : Int32)), (.int (0 : Int32)), (.int (0 : Int32)), (.int (0 : Int32))] (.int (0 : Int32)))
  have K0 := K0.wr W30 (Or.inl (by simp))
  have N30 := Fr.snoc X30 N28 g_s4
  refine go st30 ?_
  show Run p e below _ (T30.setTop (mkF m 30 #[.val (.ref a), .val (.int (1 : Int32)), .val (.int p2), .val (.long l2), .second, .val (.double d2), .second, .val (.int p3)] []))
  exact endV X30 hx hlk hret (hb hby d_p15_m23_30) (by rw [e30]; exact ⟨rfl, N30, K0, V_s1, V_s2, V_s3, V_s4⟩) (by decide) (by decide)
theorem d_p15_m22_0 : decode prog_15_method_22_code 0 = .ok (.aload_n 0, 1) := by decide +kernel
theorem d_p15_m22_1 : decode prog_15_method_22_code 1 = .ok (.getfield 22, 3) := by decide +kernel
theorem d_p15_m22_4 : decode prog_15_method_22_code 4 = .ok (.iload_n 1, 1) := by decide +kernel
theorem d_p15_m22_5 : decode prog_15_method_22_code 5 = .ok (.aload_n 0, 1) := by decide +kernel
theorem d_p15_m22_6 : decode prog_15_method_22_code 6 = .ok (.getfield 22, 3) := by decide +kernel
theorem d_p15_m22_9 : decode prog_15_method_22_code 9 = .ok (.iload_n 2, 1) := by decide +kernel
theorem d_p15_m22_10 : decode prog_15_method_22_code 10 = .ok (.iaload, 1) := by decide +kernel
theorem d_p15_m22_11 : decode prog_15_method_22_code 11 = .ok (.iastore, 1) := by decide +kernel
theorem d_p15_m22_12 : decode prog_15_method_22_code 12 = .ok (.aload_n 0, 1) := by decide +kernel
theorem d_p15_m22_13 : decode prog_15_method_22_code 13 = .ok (.getfield 26, 3) := by decide +kernel
theorem d_p15_m22_16 : decode prog_15_method_22_code 16 = .ok (.iload_n 1, 1) := by decide +kernel
theorem d_p15_m22_17 : decode prog_15_method_22_code 17 = .ok (.aload_n 0, 1) := by decide +kernel
theorem d_p15_m22_18 : decode prog_15_method_22_code 18 = .ok (.getfield 26, 3) := by decide +kernel
theorem d_p15_m22_21 : decode prog_15_method_22_code 21 = .ok (.iload_n 2, 1) := by decide +kernel
theorem d_p15_m22_22 : decode prog_15_method_22_code 22 = .ok (.laload, 1) := by decide +kernel
theorem d_p15_m22_23 : decode prog_15_method_22_code 23 = .ok (.lastore, 1) := by decide +kernel
theorem d_p15_m22_24 : decode prog_15_method_22_code 24 = .ok (.aload_n 0, 1) := by decide +kernel
theorem d_p15_m22_25 : decode prog_15_method_22_code 25 = .ok (.getfield 30, 3) := by decide +kernel
theorem d_p15_m22_28 : decode prog_15_method_22_code 28 = .ok (.iload_n 1, 1) := by decide +kernel
theorem d_p15_m22_29 : decode prog_15_method_22_code 29 = .ok (.aload_n 0, 1) := by decide +kernel
theorem d_p15_m22_30 : decode prog_15_method_22_code 30 = .ok (.getfield 30, 3) := by decide +kernel
theorem d_p15_m22_33 : decode prog_15_method_22_code 33 = .ok (.iload_n 2, 1) := by decide +kernel
theorem d_p15_m22_34 : decode prog_15_method_22_code 34 = .ok (.daload, 1) := by decide +kernel
theorem d_p15_m22_35 : decode prog_15_method_22_code 35 = .ok (.dastore, 1) := by decide +kernel
theorem d_p15_m22_36 : decode prog_15_method_22_code 36 = .ok (.aload_n 0, 1) := by decide +kernel
theorem d_p15_m22_37 : decode prog_15_method_22_code 37 = .ok (.getfield 34, 3) := by decide +kernel
theorem d_p15_m22_40 : decode prog_15_method_22_code 40 = .ok (.iload_n 1, 1) := by decide +kernel
theorem d_p15_m22_41 : decode prog_15_method_22_code 41 = .ok (.aload_n 0, 1) := by decide +kernel
theorem d_p15_m22_42 : decode prog_15_method_22_code 42 = .ok (.getfield 34, 3) := by decide +kernel
theorem d_p15_m22_45 : decode prog_15_method_22_code 45 = .ok (.iload_n 2, 1) := by decide +kernel
theorem d_p15_m22_46 : decode prog_15_method_22_code 46 = .ok (.caload, 1) := by decide +kernel
theorem d_p15_m22_47 : decode prog_15_method_22_code 47 = .ok (.castore, 1) := by decide +kernel
theorem d_p15_m22_48 : decode prog_15_method_22_code 48 = .ok (.return_, 1) := by decide +kernel
def Q_rm_put01 (Z : State) (a : Addr) (lo al : UInt64) (kw ct sz : Int32) (sd : Int64) (od hp : Int32) (s1 s2 s3 s4 : Addr) (ks1 ks2 ks3 ks4 : ClassId) (xa xb : Int32) (ja jb : Int64) (za zb : UInt64) (ra rb : Int32) (h0 : Heap) (n0 : Nat) (v : Option Value) (h : Heap) (L : List Loc) : Prop := v = none ∧ Fr n0 L ∧ Keep h0 h [s1, s2, s3, s4] ∧ Arv Z h s1 ks1 .int (16 : Int32) [(.int xb), (.int xb), (.int (0 : Int32)), (.int (0 : Int32)), (.int (0 : Int32)), (.int (0 : Int32)), (.int (0 : Int32)), (.int (0 : Int32)), (.int (0 : Int32)), (.int (0 : Int32)), (.int (0 : Int32)), (.int (0 : Int32)), (.int (0 : Int32)), (.int (0 : Int32)), (.int (0 : Int32)), (.int (0 : Int32))] (.int (0 : Int32)) ∧ Arv Z h s2 ks2 .long (16 : Int32) [(.long jb), (.long jb), (.long (0 : Int64)), (.long (0 : Int64)), (.long (0 : Int64)), (.long (0 : Int64)), (.long (0 : Int64)), (.long (0 : Int64)), (.long (0 : Int64)), (.long (0 : Int64)), (.long (0 : Int64)), (.long (0 : Int64)), (.long (0 : Int64)), (.long (0 : Int64)), (.long (0 : Int64)), (.long (0 : Int64))] (.long (0 : Int64)) ∧ Arv Z h s3 ks3 .double (16 : Int32) [(.double zb), (.double zb), (.double (0 : UInt64)), (.double (0 : UInt64)), (.double (0 : UInt64)), (.double (0 : UInt64)), (.double (0 : UInt64)), (.double (0 : UInt64)), (.double (0 : UInt64)), (.double (0 : UInt64)), (.double (0 : UInt64)), (.double (0 : UInt64)), (.double (0 : UInt64)), (.double (0 : UInt64)), (.double (0 : UInt64)), (.double (0 : UInt64))] (.double (0 : UInt64)) ∧ Arv Z h s4 ks4 .char (16 : Int32) [(.int (nar .char rb)), (.int rb), (.int (0 : Int32)), (.int (0 : Int32)), (.int (0 : Int32)), (.int (0 : Int32)), (.int (0 : Int32)), (.int (0 : Int32)), (.int (0 : Int32)), (.int (0 : Int32)), (.int (0 : Int32)), (.int (0 : Int32)), (.int (0 : Int32)), (.int (0 : Int32)), (.int (0 : Int32)), (.int (0 : Int32))] (.int (0 : Int32))
set_option maxRecDepth 65536 in
set_option maxHeartbeats 40000000 in
theorem rm_put01 (l : Launch) (Z : State) (a0 : Array Value) (hw : ∀ d ∈ tables_1, d.before a0 Z = true) (ws : List Jvm.Cond) (a : Addr) (lo al : UInt64) (kw ct sz : Int32) (sd : Int64) (od hp : Int32) (s1 s2 s3 s4 : Addr) (ks1 ks2 ks3 ks4 : ClassId) (xa xb : Int32) (ja jb : Int64) (za zb : UInt64) (ra rb : Int32) (h0 : Heap) (n0 : Nat) (O0 : Old Z n0 h0) (E_a : Exa Z h0 a "nearcast/engine/Best") (F_leftOut_a : Fld Z h0 a "nearcast/engine/Best" "leftOut" "D" (.double lo)) (F_slots_a : Fld Z h0 a "nearcast/engine/Best" "slots" "[I" (.ref s1)) (F_published_a : Fld Z h0 a "nearcast/engine/Best" "published" "[J" (.ref s2)) (F_scores_a : Fld Z h0 a "nearcast/engine/Best" "scores" "[D" (.ref s3)) (F_shares_a : Fld Z h0 a "nearcast/engine/Best" "shares" "[C" (.ref s4)) (F_alpha_a : Fld Z h0 a "nearcast/engine/Best" "alpha" "D" (.double al)) (F_keywords_a : Fld Z h0 a "nearcast/engine/Best" "keywords" "I" (.int kw)) (F_count_a : Fld Z h0 a "nearcast/engine/Best" "count" "I" (.int ct)) (F_size_a : Fld Z h0 a "nearcast/engine/Best" "size" "I" (.int sz)) (F_scored_a : Fld Z h0 a "nearcast/engine/Best" "scored" "J" (.long sd)) (F_ordered_a : Fld Z h0 a "nearcast/engine/Best" "ordered" "Z" (.int od)) (F_heap_a : Fld Z h0 a "nearcast/engine/Best" "heap" "Z" (.int hp)) (V_s1 : Arv Z h0 s1 ks1 .int (16 : Int32) [(.int xa), (.int xb), (.int (0 : Int32)), (.int (0 : Int32)), (.int (0 : Int32)), (.int (0 : Int32)), (.int (0 : Int32)), (.int (0 : Int32)), (.int (0 : Int32)), (.int (0 : Int32)), (.int (0 : Int32)), (.int (0 : Int32)), (.int (0 : Int32)), (.int (0 : Int32)), (.int (0 : Int32)), (.int (0 : Int32))] (.int (0 : Int32))) (V_s2 : Arv Z h0 s2 ks2 .long (16 : Int32) [(.long ja), (.long jb), (.long (0 : Int64)), (.long (0 : Int64)), (.long (0 : Int64)), (.long (0 : Int64)), (.long (0 : Int64)), (.long (0 : Int64)), (.long (0 : Int64)), (.long (0 : Int64)), (.long (0 : Int64)), (.long (0 : Int64)), (.long (0 : Int64)), (.long (0 : Int64)), (.long (0 : Int64)), (.long (0 : Int64))] (.long (0 : Int64))) (V_s3 : Arv Z h0 s3 ks3 .double (16 : Int32) [(.double za), (.double zb), (.double (0 : UInt64)), (.double (0 : UInt64)), (.double (0 : UInt64)), (.double (0 : UInt64)), (.double (0 : UInt64)), (.double (0 : UInt64)), (.double (0 : UInt64)), (.double (0 : UInt64)), (.double (0 : UInt64)), (.double (0 : UInt64)), (.double (0 : UInt64)), (.double (0 : UInt64)), (.double (0 : UInt64)), (.double (0 : UInt64))] (.double (0 : UInt64))) (V_s4 : Arv Z h0 s4 ks4 .char (16 : Int32) [(.int ra), (.int rb), (.int (0 : Int32)), (.int (0 : Int32)), (.int (0 : Int32)), (.int (0 : Int32)), (.int (0 : Int32)), (.int (0 : Int32)), (.int (0 : Int32)), (.int (0 : Int32)), (.int (0 : Int32)), (.int (0 : Int32)), (.int (0 : Int32)), (.int (0 : Int32)), (.int (0 : Int32)), (.int (0 : Int32))] (.int (0 : Int32))) (ne_s1_s2 : s1 ≠ s2) (ne_s1_s3 : s1 ≠ s3) (ne_s1_s4 : s1 ≠ s4) (ne_s2_s3 : s2 ≠ s3) (ne_s2_s4 : s2 ≠ s4) (ne_s3_s4 : s3 ≠ s4) (g_s1 : n0 ≤ s1) (g_s2 : n0 ≤ s2) (g_s3 : n0 ≤ s3) (g_s4 : n0 ≤ s4) (g_a : n0 ≤ a)  :
    Meets l (⟨"nearcast/engine/Best", "put", "(II)V"⟩ : MethodName) prog_15_method_22_code 3 none ws ({ frames := 0, cells := 0, slots := 0, locals := 0 } : Room) Z #[(.ref a), (.int (0 : Int32)), (.int (1 : Int32))] h0 (Q_rm_put01 Z a lo al kw ct sz sd od hp s1 s2 s3 s4 ks1 ks2 ks3 ks4 xa xb ja jb za zb ra rb h0 n0) 0 0 := by
  refine enter (Ls := #[.val (.ref a), .val (.int (0 : Int32)), .val (.int (1 : Int32))]) (plainFor_of_name pn_3) (fun m => by first | (simp [entryFrame, mkF, argsToLocals, Value.category]; done) | rfl) ?_
  intro p e s m below meth c T0 hx hby hml hown hnm hret hlk hZ X0 e0
  have N0 := Fr.nil n0
  replace hown : s.vm.findClass "nearcast/engine/Best" = some m.cls := hown
  show Run p e below _ (T0.setTop (mkF m 0 #[.val (.ref a), .val (.int (0 : Int32)), .val (.int (1 : Int32))] []))
  have K0 := Keep.refl h0 [s1, s2, s3, s4]
  refine go (fun _ => XS.aloadN X0.here hx rfl (hb hby d_p15_m22_0) rfl rfl) ?_
  show Run p e below _ (T0.setTop (mkF m 1 #[.val (.ref a), .val (.int (0 : Int32)), .val (.int (1 : Int32))] [(.ref a)]))
  obtain ⟨T31, X31, e31, st31⟩ := getF X0 hx hZ hown (host := "") (Or.inl (wd hw 13 rfl)) Via.refl e0 F_slots_a (g := (mkF m 1 #[.val (.ref a), .val (.int (0 : Int32)), .val (.int (1 : Int32))] [(.ref a)])) rfl rfl (hb hby d_p15_m22_1)
  refine go st31 ?_
  show Run p e below _ (T31.setTop (mkF m 4 #[.val (.ref a), .val (.int (0 : Int32)), .val (.int (1 : Int32))] [(.ref s1)]))
  refine go (fun _ => XS.iloadN X31.here hx rfl (hb hby d_p15_m22_4) rfl) ?_
  show Run p e below _ (T31.setTop (mkF m 5 #[.val (.ref a), .val (.int (0 : Int32)), .val (.int (1 : Int32))] [(.int (0 : Int32)), (.ref s1)]))
  refine go (fun _ => XS.aloadN X31.here hx rfl (hb hby d_p15_m22_5) rfl rfl) ?_
  show Run p e below _ (T31.setTop (mkF m 6 #[.val (.ref a), .val (.int (0 : Int32)), .val (.int (1 : Int32))] [(.ref a), (.int (0 : Int32)), (.ref s1)]))
  obtain ⟨T32, X32, e32, st32⟩ := getF X31 hx hZ hown (host := "") (Or.inl (wd hw 13 rfl)) Via.refl e31 F_slots_a (g := (mkF m 6 #[.val (.ref a), .val (.int (0 : Int32)), .val (.int (1 : Int32))] [(.ref a), (.int (0 : Int32)), (.ref s1)])) rfl rfl (hb hby d_p15_m22_6)
  refine go st32 ?_
  show Run p e below _ (T32.setTop (mkF m 9 #[.val (.ref a), .val (.int (0 : Int32)), .val (.int (1 : Int32))] [(.ref s1), (.int (0 : Int32)), (.ref s1)]))
  refine go (fun _ => XS.iloadN X32.here hx rfl (hb hby d_p15_m22_9) rfl) ?_
  show Run p e below _ (T32.setTop (mkF m 10 #[.val (.ref a), .val (.int (0 : Int32)), .val (.int (1 : Int32))] [(.int (1 : Int32)), (.ref s1), (.int (0 : Int32)), (.ref s1)]))
  obtain ⟨cl33, Ar33, ak33, as33, an33, ah33, ag33⟩ := id V_s1
  have hin33 := inb_of as33 (j := (1 : Int32)) ⟨by decide, by decide⟩
  have hat33 := ah33.at hin33 (v := (.int xb)) rfl
  refine go (fun _ => X32.iaload hx (j := (1 : Int32)) (v := (.int xb)) (by rw [e32]; exact Ar33.1) (State.isArrayOf_alike hZ.alike Ar33.2.1) Ar33.2.2 hin33 hat33 (g := (mkF m 10 #[.val (.ref a), .val (.int (0 : Int32)), .val (.int (1 : Int32))] [(.int (1 : Int32)), (.ref s1), (.int (0 : Int32)), (.ref s1)])) rfl rfl (hb hby d_p15_m22_10) _) ?_
  show Run p e below _ (T32.setTop (mkF m 11 #[.val (.ref a), .val (.int (0 : Int32)), .val (.int (1 : Int32))] [(.int xb), (.int (0 : Int32)), (.ref s1)]))
  obtain ⟨cl34, Ar34, ak34, as34, an34, ah34, ag34⟩ := id V_s1
  have hin34 := inb_of as34 (j := (0 : Int32)) ⟨by decide, by decide⟩
  obtain ⟨T34, h34, X34, e34, W34, st34⟩ := stI X32 hx hZ e32 Ar34 (j := (0 : Int32)) hin34 (g := (mkF m 11 #[.val (.ref a), .val (.int (0 : Int32)), .val (.int (1 : Int32))] [(.int xb), (.int (0 : Int32)), (.ref s1)])) rfl rfl (hb hby d_p15_m22_11)
  have ne_a_s1 : a ≠ s1 := Exa.neArv E_a V_s1 (wd hw 1 rfl)
  have O0 := O0.wr W34 g_s1
  have E_a := E_a.wr W34
  have F_leftOut_a := F_leftOut_a.other W34 (Or.inl ne_a_s1)
  have F_slots_a := F_slots_a.other W34 (Or.inl ne_a_s1)
  have F_published_a := F_published_a.other W34 (Or.inl ne_a_s1)
  have F_scores_a := F_scores_a.other W34 (Or.inl ne_a_s1)
  have F_shares_a := F_shares_a.other W34 (Or.inl ne_a_s1)
  have F_alpha_a := F_alpha_a.other W34 (Or.inl ne_a_s1)
  have F_keywords_a := F_keywords_a.other W34 (Or.inl ne_a_s1)
  have F_count_a := F_count_a.other W34 (Or.inl ne_a_s1)
  have F_size_a := F_size_a.other W34 (Or.inl ne_a_s1)
  have F_scored_a := F_scored_a.other W34 (Or.inl ne_a_s1)
  have F_ordered_a := F_ordered_a.other W34 (Or.inl ne_a_s1)
  have F_heap_a := F_heap_a.other W34 (Or.inl ne_a_s1)
  have V_s1 := (Arv.set Ar34 ak34 as34 an34 ah34 ag34 rfl W34 0 rfl (Nat.le_of_ble_eq_true rfl) : Arv Z h34 s1 ks1 .int (16 : Int32) [(.int xb), (.int xb), (.int (0 : Int32)), (.int (0 : Int32)), (.int (0 : Int32)), (.int (0 : Int32)), (.int (0 : Int32)), (.int (0 : Int32)), (.int (0 : Int32)), (.int (0 : Int32)), (.int (0 : Int32)), (.int (0 : Int32)), (.int (0 : Int32)), (.int (0 : Int32)), (.int (0 : Int32)), (.int (0 : Int32))] (.int (0 : Int32)))
  have V_s2 := V_s2.other W34 (Ne.symm ne_s1_s2)
  have V_s3 := V_s3.other W34 (Ne.symm ne_s1_s3)
  have V_s4 := V_s4.other W34 (Ne.symm ne_s1_s4)
  have K0 := K0.wr W34 (Or.inl (by simp))
  have N34 := Fr.snoc X34 N0 g_s1
  refine go st34 ?_
  show Run p e below _ (T34.setTop (mkF m 12 #[.val (.ref a), .val (.int (0 : Int32)), .val (.int (1 : Int32))] []))
  refine go (fun _ => XS.aloadN X34.here hx rfl (hb hby d_p15_m22_12) rfl rfl) ?_
  show Run p e below _ (T34.setTop (mkF m 13 #[.val (.ref a), .val (.int (0 : Int32)), .val (.int (1 : Int32))] [(.ref a)]))
  obtain ⟨T35, X35, e35, st35⟩ := getF X34 hx hZ hown (host := "") (Or.inl (wd hw 16 rfl)) Via.refl e34 F_published_a (g := (mkF m 13 #[.val (.ref a), .val (.int (0 : Int32)), .val (.int (1 : Int32))] [(.ref a)])) rfl rfl (hb hby d_p15_m22_13)
  refine go st35 ?_
  show Run p e below _ (T35.setTop (mkF m 16 #[.val (.ref a), .val (.int (0 : Int32)), .val (.int (1 : Int32))] [(.ref s2)]))
  refine go (fun _ => XS.iloadN X35.here hx rfl (hb hby d_p15_m22_16) rfl) ?_
  show Run p e below _ (T35.setTop (mkF m 17 #[.val (.ref a), .val (.int (0 : Int32)), .val (.int (1 : Int32))] [(.int (0 : Int32)), (.ref s2)]))
  refine go (fun _ => XS.aloadN X35.here hx rfl (hb hby d_p15_m22_17) rfl rfl) ?_
  show Run p e below _ (T35.setTop (mkF m 18 #[.val (.ref a), .val (.int (0 : Int32)), .val (.int (1 : Int32))] [(.ref a), (.int (0 : Int32)), (.ref s2)]))
  obtain ⟨T36, X36, e36, st36⟩ := getF X35 hx hZ hown (host := "") (Or.inl (wd hw 16 rfl)) Via.refl e35 F_published_a (g := (mkF m 18 #[.val (.ref a), .val (.int (0 : Int32)), .val (.int (1 : Int32))] [(.ref a), (.int (0 : Int32)), (.ref s2)])) rfl rfl (hb hby d_p15_m22_18)
  refine go st36 ?_
  show Run p e below _ (T36.setTop (mkF m 21 #[.val (.ref a), .val (.int (0 : Int32)), .val (.int (1 : Int32))] [(.ref s2), (.int (0 : Int32)), (.ref s2)]))
  refine go (fun _ => XS.iloadN X36.here hx rfl (hb hby d_p15_m22_21) rfl) ?_
  show Run p e below _ (T36.setTop (mkF m 22 #[.val (.ref a), .val (.int (0 : Int32)), .val (.int (1 : Int32))] [(.int (1 : Int32)), (.ref s2), (.int (0 : Int32)), (.ref s2)]))
  obtain ⟨cl37, Ar37, ak37, as37, an37, ah37, ag37⟩ := id V_s2
  have hin37 := inb_of as37 (j := (1 : Int32)) ⟨by decide, by decide⟩
  have hat37 := ah37.at hin37 (v := (.long jb)) rfl
  refine go (fun _ => X36.laload hx (j := (1 : Int32)) (v := (.long jb)) (by rw [e36]; exact Ar37.1) (State.isArrayOf_alike hZ.alike Ar37.2.1) Ar37.2.2 hin37 hat37 (g := (mkF m 22 #[.val (.ref a), .val (.int (0 : Int32)), .val (.int (1 : Int32))] [(.int (1 : Int32)), (.ref s2), (.int (0 : Int32)), (.ref s2)])) rfl rfl (hb hby d_p15_m22_22) _) ?_
  show Run p e below _ (T36.setTop (mkF m 23 #[.val (.ref a), .val (.int (0 : Int32)), .val (.int (1 : Int32))] [(.long jb), (.int (0 : Int32)), (.ref s2)]))
  obtain ⟨cl38, Ar38, ak38, as38, an38, ah38, ag38⟩ := id V_s2
  have hin38 := inb_of as38 (j := (0 : Int32)) ⟨by decide, by decide⟩
  obtain ⟨T38, h38, X38, e38, W38, st38⟩ := stJ X36 hx hZ e36 Ar38 (j := (0 : Int32)) hin38 (g := (mkF m 23 #[.val (.ref a), .val (.int (0 : Int32)), .val (.int (1 : Int32))] [(.long jb), (.int (0 : Int32)), (.ref s2)])) rfl rfl (hb hby d_p15_m22_23)
  have ne_a_s2 : a ≠ s2 := Exa.neArv E_a V_s2 (wd hw 1 rfl)
  have O0 := O0.wr W38 g_s2
  have E_a := E_a.wr W38
  have F_leftOut_a := F_leftOut_a.other W38 (Or.inl ne_a_s2)
  have F_slots_a := F_slots_a.other W38 (Or.inl ne_a_s2)
  have F_published_a := F_published_a.other W38 (Or.inl ne_a_s2)
  have F_scores_a := F_scores_a.other W38 (Or.inl ne_a_s2)
  have F_shares_a := F_shares_a.other W38 (Or.inl ne_a_s2)
  have F_alpha_a := F_alpha_a.other W38 (Or.inl ne_a_s2)
  have F_keywords_a := F_keywords_a.other W38 (Or.inl ne_a_s2)
  have F_count_a := F_count_a.other W38 (Or.inl ne_a_s2)
  have F_size_a := F_size_a.other W38 (Or.inl ne_a_s2)
  have F_scored_a := F_scored_a.other W38 (Or.inl ne_a_s2)
  have F_ordered_a := F_ordered_a.other W38 (Or.inl ne_a_s2)
  have F_heap_a := F_heap_a.other W38 (Or.inl ne_a_s2)
  have V_s1 := V_s1.other W38 ne_s1_s2
  have V_s2 := (Arv.set Ar38 ak38 as38 an38 ah38 ag38 rfl W38 0 rfl (Nat.le_of_ble_eq_true rfl) : Arv Z h38 s2 ks2 .long (16 : Int32) [(.long jb), (.long jb), (.long (0 : Int64)), (.long (0 : Int64)), (.long (0 : Int64)), (.long (0 : Int64)), (.long (0 : Int64)), (.long (0 : Int64)), (.long (0 : Int64)), (.long (0 : Int64)), (.long (0 : Int64)), (.long (0 : Int64)), (.long (0 : Int64)), (.long (0 : Int64)), (.long (0 : Int64)), (.long (0 : Int64))] (.long (0 : Int64)))
  have V_s3 := V_s3.other W38 (Ne.symm ne_s2_s3)
  have V_s4 := V_s4.other W38 (Ne.symm ne_s2_s4)
  have K0 := K0.wr W38 (Or.inl (by simp))
  have N38 := Fr.snoc X38 N34 g_s2
  refine go st38 ?_
  show Run p e below _ (T38.setTop (mkF m 24 #[.val (.ref a), .val (.int (0 : Int32)), .val (.int (1 : Int32))] []))
  refine go (fun _ => XS.aloadN X38.here hx rfl (hb hby d_p15_m22_24) rfl rfl) ?_
  show Run p e below _ (T38.setTop (mkF m 25 #[.val (.ref a), .val (.int (0 : Int32)), .val (.int (1 : Int32))] [(.ref a)]))
  obtain ⟨T39, X39, e39, st39⟩ := getF X38 hx hZ hown (host := "") (Or.inl (wd hw 19 rfl)) Via.refl e38 F_scores_a (g := (mkF m 25 #[.val (.ref a), .val (.int (0 : Int32)), .val (.int (1 : Int32))] [(.ref a)])) rfl rfl (hb hby d_p15_m22_25)
  refine go st39 ?_
  show Run p e below _ (T39.setTop (mkF m 28 #[.val (.ref a), .val (.int (0 : Int32)), .val (.int (1 : Int32))] [(.ref s3)]))
  refine go (fun _ => XS.iloadN X39.here hx rfl (hb hby d_p15_m22_28) rfl) ?_
  show Run p e below _ (T39.setTop (mkF m 29 #[.val (.ref a), .val (.int (0 : Int32)), .val (.int (1 : Int32))] [(.int (0 : Int32)), (.ref s3)]))
  refine go (fun _ => XS.aloadN X39.here hx rfl (hb hby d_p15_m22_29) rfl rfl) ?_
  show Run p e below _ (T39.setTop (mkF m 30 #[.val (.ref a), .val (.int (0 : Int32)), .val (.int (1 : Int32))] [(.ref a), (.int (0 : Int32)), (.ref s3)]))
  obtain ⟨T40, X40, e40, st40⟩ := getF X39 hx hZ hown (host := "") (Or.inl (wd hw 19 rfl)) Via.refl e39 F_scores_a (g := (mkF m 30 #[.val (.ref a), .val (.int (0 : Int32)), .val (.int (1 : Int32))] [(.ref a), (.int (0 : Int32)), (.ref s3)])) rfl rfl (hb hby d_p15_m22_30)
  refine go st40 ?_
  show Run p e below _ (T40.setTop (mkF m 33 #[.val (.ref a), .val (.int (0 : Int32)), .val (.int (1 : Int32))] [(.ref s3), (.int (0 : Int32)), (.ref s3)]))
  refine go (fun _ => XS.iloadN X40.here hx rfl (hb hby d_p15_m22_33) rfl) ?_
  show Run p e below _ (T40.setTop (mkF m 34 #[.val (.ref a), .val (.int (0 : Int32)), .val (.int (1 : Int32))] [(.int (1 : Int32)), (.ref s3), (.int (0 : Int32)), (.ref s3)]))
  obtain ⟨cl41, Ar41, ak41, as41, an41, ah41, ag41⟩ := id V_s3
  have hin41 := inb_of as41 (j := (1 : Int32)) ⟨by decide, by decide⟩
  have hat41 := ah41.at hin41 (v := (.double zb)) rfl
  refine go (fun _ => X40.daload hx (j := (1 : Int32)) (v := (.double zb)) (by rw [e40]; exact Ar41.1) (State.isArrayOf_alike hZ.alike Ar41.2.1) Ar41.2.2 hin41 hat41 (g := (mkF m 34 #[.val (.ref a), .val (.int (0 : Int32)), .val (.int (1 : Int32))] [(.int (1 : Int32)), (.ref s3), (.int (0 : Int32)), (.ref s3)])) rfl rfl (hb hby d_p15_m22_34) _) ?_
  show Run p e below _ (T40.setTop (mkF m 35 #[.val (.ref a), .val (.int (0 : Int32)), .val (.int (1 : Int32))] [(.double zb), (.int (0 : Int32)), (.ref s3)]))
  obtain ⟨cl42, Ar42, ak42, as42, an42, ah42, ag42⟩ := id V_s3
  have hin42 := inb_of as42 (j := (0 : Int32)) ⟨by decide, by decide⟩
  obtain ⟨T42, h42, X42, e42, W42, st42⟩ := stD X40 hx hZ e40 Ar42 (j := (0 : Int32)) hin42 (g := (mkF m 35 #[.val (.ref a), .val (.int (0 : Int32)), .val (.int (1 : Int32))] [(.double zb), (.int (0 : Int32)), (.ref s3)])) rfl rfl (hb hby d_p15_m22_35)
  have ne_a_s3 : a ≠ s3 := Exa.neArv E_a V_s3 (wd hw 1 rfl)
  have O0 := O0.wr W42 g_s3
  have E_a := E_a.wr W42
  have F_leftOut_a := F_leftOut_a.other W42 (Or.inl ne_a_s3)
  have F_slots_a := F_slots_a.other W42 (Or.inl ne_a_s3)
  have F_published_a := F_published_a.other W42 (Or.inl ne_a_s3)
  have F_scores_a := F_scores_a.other W42 (Or.inl ne_a_s3)
  have F_shares_a := F_shares_a.other W42 (Or.inl ne_a_s3)
  have F_alpha_a := F_alpha_a.other W42 (Or.inl ne_a_s3)
  have F_keywords_a := F_keywords_a.other W42 (Or.inl ne_a_s3)
  have F_count_a := F_count_a.other W42 (Or.inl ne_a_s3)
  have F_size_a := F_size_a.other W42 (Or.inl ne_a_s3)
  have F_scored_a := F_scored_a.other W42 (Or.inl ne_a_s3)
  have F_ordered_a := F_ordered_a.other W42 (Or.inl ne_a_s3)
  have F_heap_a := F_heap_a.other W42 (Or.inl ne_a_s3)
  have V_s1 := V_s1.other W42 ne_s1_s3
  have V_s2 := V_s2.other W42 ne_s2_s3
  have V_s3 := (Arv.set Ar42 ak42 as42 an42 ah42 ag42 rfl W42 0 rfl (Nat.le_of_ble_eq_true rfl) : Arv Z h42 s3 ks3 .double (16 : Int32) [(.double zb), (.double zb), (.double (0 : UInt64)), (.double (0 : UInt64)), (.double (0 : UInt64)), (.double (0 : UInt64)), (.double (0 : UInt64)), (.double (0 : UInt64)), (.double (0 : UInt64)), (.double (0 : UInt64)), (.double (0 : UInt64)), (.double (0 : UInt64)), (.double (0 : UInt64)), (.double (0 : UInt64)), (.double (0 : UInt64)), (.double (0 : UInt64))] (.double (0 : UInt64)))
  have V_s4 := V_s4.other W42 (Ne.symm ne_s3_s4)
  have K0 := K0.wr W42 (Or.inl (by simp))
  have N42 := Fr.snoc X42 N38 g_s3
  refine go st42 ?_
  show Run p e below _ (T42.setTop (mkF m 36 #[.val (.ref a), .val (.int (0 : Int32)), .val (.int (1 : Int32))] []))
  refine go (fun _ => XS.aloadN X42.here hx rfl (hb hby d_p15_m22_36) rfl rfl) ?_
  show Run p e below _ (T42.setTop (mkF m 37 #[.val (.ref a), .val (.int (0 : Int32)), .val (.int (1 : Int32))] [(.ref a)]))
  obtain ⟨T43, X43, e43, st43⟩ := getF X42 hx hZ hown (host := "") (Or.inl (wd hw 22 rfl)) Via.refl e42 F_shares_a (g := (mkF m 37 #[.val (.ref a), .val (.int (0 : Int32)), .val (.int (1 : Int32))] [(.ref a)])) rfl rfl (hb hby d_p15_m22_37)
  refine go st43 ?_
  show Run p e below _ (T43.setTop (mkF m 40 #[.val (.ref a), .val (.int (0 : Int32)), .val (.int (1 : Int32))] [(.ref s4)]))
  refine go (fun _ => XS.iloadN X43.here hx rfl (hb hby d_p15_m22_40) rfl) ?_
  show Run p e below _ (T43.setTop (mkF m 41 #[.val (.ref a), .val (.int (0 : Int32)), .val (.int (1 : Int32))] [(.int (0 : Int32)), (.ref s4)]))
  refine go (fun _ => XS.aloadN X43.here hx rfl (hb hby d_p15_m22_41) rfl rfl) ?_
  show Run p e below _ (T43.setTop (mkF m 42 #[.val (.ref a), .val (.int (0 : Int32)), .val (.int (1 : Int32))] [(.ref a), (.int (0 : Int32)), (.ref s4)]))
  obtain ⟨T44, X44, e44, st44⟩ := getF X43 hx hZ hown (host := "") (Or.inl (wd hw 22 rfl)) Via.refl e43 F_shares_a (g := (mkF m 42 #[.val (.ref a), .val (.int (0 : Int32)), .val (.int (1 : Int32))] [(.ref a), (.int (0 : Int32)), (.ref s4)])) rfl rfl (hb hby d_p15_m22_42)
  refine go st44 ?_
  show Run p e below _ (T44.setTop (mkF m 45 #[.val (.ref a), .val (.int (0 : Int32)), .val (.int (1 : Int32))] [(.ref s4), (.int (0 : Int32)), (.ref s4)]))
  refine go (fun _ => XS.iloadN X44.here hx rfl (hb hby d_p15_m22_45) rfl) ?_
  show Run p e below _ (T44.setTop (mkF m 46 #[.val (.ref a), .val (.int (0 : Int32)), .val (.int (1 : Int32))] [(.int (1 : Int32)), (.ref s4), (.int (0 : Int32)), (.ref s4)]))
  obtain ⟨cl45, Ar45, ak45, as45, an45, ah45, ag45⟩ := id V_s4
  have hin45 := inb_of as45 (j := (1 : Int32)) ⟨by decide, by decide⟩
  have hat45 := ah45.at hin45 (v := (.int rb)) rfl
  refine go (fun _ => X44.caload hx (j := (1 : Int32)) (v := (.int rb)) (by rw [e44]; exact Ar45.1) (State.isArrayOf_alike hZ.alike Ar45.2.1) Ar45.2.2 hin45 hat45 (g := (mkF m 46 #[.val (.ref a), .val (.int (0 : Int32)), .val (.int (1 : Int32))] [(.int (1 : Int32)), (.ref s4), (.int (0 : Int32)), (.ref s4)])) rfl rfl (hb hby d_p15_m22_46) _) ?_
  show Run p e below _ (T44.setTop (mkF m 47 #[.val (.ref a), .val (.int (0 : Int32)), .val (.int (1 : Int32))] [(.int rb), (.int (0 : Int32)), (.ref s4)]))
  obtain ⟨cl46, Ar46, ak46, as46, an46, ah46, ag46⟩ := id V_s4
  have hin46 := inb_of as46 (j := (0 : Int32)) ⟨by decide, by decide⟩
  obtain ⟨T46, h46, X46, e46, W46, st46⟩ := stC X44 hx hZ e44 Ar46 (j := (0 : Int32)) hin46 (g := (mkF m 47 #[.val (.ref a), .val (.int (0 : Int32)), .val (.int (1 : Int32))] [(.int rb), (.int (0 : Int32)), (.ref s4)])) rfl rfl (hb hby d_p15_m22_47)
  have ne_a_s4 : a ≠ s4 := Exa.neArv E_a V_s4 (wd hw 1 rfl)
  have O0 := O0.wr W46 g_s4
  have E_a := E_a.wr W46
  have F_leftOut_a := F_leftOut_a.other W46 (Or.inl ne_a_s4)
  have F_slots_a := F_slots_a.other W46 (Or.inl ne_a_s4)
  have F_published_a := F_published_a.other W46 (Or.inl ne_a_s4)
  have F_scores_a := F_scores_a.other W46 (Or.inl ne_a_s4)
  have F_shares_a := F_shares_a.other W46 (Or.inl ne_a_s4)
  have F_alpha_a := F_alpha_a.other W46 (Or.inl ne_a_s4)
  have F_keywords_a := F_keywords_a.other W46 (Or.inl ne_a_s4)
  have F_count_a := F_count_a.other W46 (Or.inl ne_a_s4)
  have F_size_a := F_size_a.other W46 (Or.inl ne_a_s4)
  have F_scored_a := F_scored_a.other W46 (Or.inl ne_a_s4)
  have F_ordered_a := F_ordered_a.other W46 (Or.inl ne_a_s4)
  have F_heap_a := F_heap_a.other W46 (Or.inl ne_a_s4)
  have V_s1 := V_s1.other W46 ne_s1_s4
  have V_s2 := V_s2.other W46 ne_s2_s4
  have V_s3 := V_s3.other W46 ne_s3_s4
  have V_s4 := (Arv.set Ar46 ak46 as46 an46 ah46 ag46 (fits_nar_char _) W46 0 rfl (Nat.le_of_ble_eq_true rfl) : Arv Z h46 s4 ks4 .char (16 : Int32) [(.int (nar .char rb)), (.int rb), (.int (0 : Int32)), (.int (0 : Int32)), (.int (0 : Int32)), (.int (0 : Int32)), (.int (0 : Int32)), (.int (0 : Int32)), (.int (0 : Int32)), (.int (0 : Int32)), (.int (0 : Int32)), (.int (0 : Int32)), (.int (0 : Int32)), (.int (0 : Int32)), (.int (0 : Int32)), (.int (0 : Int32))] (.int (0 : Int32)))
  have K0 := K0.wr W46 (Or.inl (by simp))
  have N46 := Fr.snoc X46 N42 g_s4
  refine go st46 ?_
  show Run p e below _ (T46.setTop (mkF m 48 #[.val (.ref a), .val (.int (0 : Int32)), .val (.int (1 : Int32))] []))
  exact endV X46 hx hlk hret (hb hby d_p15_m22_48) (by rw [e46]; exact ⟨rfl, N46, K0, V_s1, V_s2, V_s3, V_s4⟩) (by decide) (by decide)
def Q_rm_put10 (Z : State) (a : Addr) (lo al : UInt64) (kw ct sz : Int32) (sd : Int64) (od hp : Int32) (s1 s2 s3 s4 : Addr) (ks1 ks2 ks3 ks4 : ClassId) (xa xb : Int32) (ja jb : Int64) (za zb : UInt64) (ra rb : Int32) (h0 : Heap) (n0 : Nat) (v : Option Value) (h : Heap) (L : List Loc) : Prop := v = none ∧ Fr n0 L ∧ Keep h0 h [s1, s2, s3, s4] ∧ Arv Z h s1 ks1 .int (16 : Int32) [(.int xa), (.int xa), (.int (0 : Int32)), (.int (0 : Int32)), (.int (0 : Int32)), (.int (0 : Int32)), (.int (0 : Int32)), (.int (0 : Int32)), (.int (0 : Int32)), (.int (0 : Int32)), (.int (0 : Int32)), (.int (0 : Int32)), (.int (0 : Int32)), (.int (0 : Int32)), (.int (0 : Int32)), (.int (0 : Int32))] (.int (0 : Int32)) ∧ Arv Z h s2 ks2 .long (16 : Int32) [(.long ja), (.long ja), (.long (0 : Int64)), (.long (0 : Int64)), (.long (0 : Int64)), (.long (0 : Int64)), (.long (0 : Int64)), (.long (0 : Int64)), (.long (0 : Int64)), (.long (0 : Int64)), (.long (0 : Int64)), (.long (0 : Int64)), (.long (0 : Int64)), (.long (0 : Int64)), (.long (0 : Int64)), (.long (0 : Int64))] (.long (0 : Int64)) ∧ Arv Z h s3 ks3 .double (16 : Int32) [(.double za), (.double za), (.double (0 : UInt64)), (.double (0 : UInt64)), (.double (0 : UInt64)), (.double (0 : UInt64)), (.double (0 : UInt64)), (.double (0 : UInt64)), (.double (0 : UInt64)), (.double (0 : UInt64)), (.double (0 : UInt64)), (.double (0 : UInt64)), (.double (0 : UInt64)), (.double (0 : UInt64)), (.double (0 : UInt64)), (.double (0 : UInt64))] (.double (0 : UInt64)) ∧ Arv Z h s4 ks4 .char (16 : Int32) [(.int ra), (.int (nar .char ra)), (.int (0 : Int32)), (.int (0 : Int32)), (.int (0 : Int32)), (.int (0 : Int32)), (.int (0 : Int32)), (.int (0 : Int32)), (.int (0 : Int32)), (.int (0 : Int32)), (.int (0 : Int32)), (.int (0 : Int32)), (.int (0 : Int32)), (.int (0 : Int32)), (.int (0 : Int32)), (.int (0 : Int32))] (.int (0 : Int32))
set_option maxRecDepth 65536 in
set_option maxHeartbeats 40000000 in
theorem rm_put10 (l : Launch) (Z : State) (a0 : Array Value) (hw : ∀ d ∈ tables_1, d.before a0 Z = true) (ws : List Jvm.Cond) (a : Addr) (lo al : UInt64) (kw ct sz : Int32) (sd : Int64) (od hp : Int32) (s1 s2 s3 s4 : Addr) (ks1 ks2 ks3 ks4 : ClassId) (xa xb : Int32) (ja jb : Int64) (za zb : UInt64) (ra rb : Int32) (h0 : Heap) (n0 : Nat) (O0 : Old Z n0 h0) (E_a : Exa Z h0 a "nearcast/engine/Best") (F_leftOut_a : Fld Z h0 a "nearcast/engine/Best" "leftOut" "D" (.double lo)) (F_slots_a : Fld Z h0 a "nearcast/engine/Best" "slots" "[I" (.ref s1)) (F_published_a : Fld Z h0 a "nearcast/engine/Best" "published" "[J" (.ref s2)) (F_scores_a : Fld Z h0 a "nearcast/engine/Best" "scores" "[D" (.ref s3)) (F_shares_a : Fld Z h0 a "nearcast/engine/Best" "shares" "[C" (.ref s4)) (F_alpha_a : Fld Z h0 a "nearcast/engine/Best" "alpha" "D" (.double al)) (F_keywords_a : Fld Z h0 a "nearcast/engine/Best" "keywords" "I" (.int kw)) (F_count_a : Fld Z h0 a "nearcast/engine/Best" "count" "I" (.int ct)) (F_size_a : Fld Z h0 a "nearcast/engine/Best" "size" "I" (.int sz)) (F_scored_a : Fld Z h0 a "nearcast/engine/Best" "scored" "J" (.long sd)) (F_ordered_a : Fld Z h0 a "nearcast/engine/Best" "ordered" "Z" (.int od)) (F_heap_a : Fld Z h0 a "nearcast/engine/Best" "heap" "Z" (.int hp)) (V_s1 : Arv Z h0 s1 ks1 .int (16 : Int32) [(.int xa), (.int xb), (.int (0 : Int32)), (.int (0 : Int32)), (.int (0 : Int32)), (.int (0 : Int32)), (.int (0 : Int32)), (.int (0 : Int32)), (.int (0 : Int32)), (.int (0 : Int32)), (.int (0 : Int32)), (.int (0 : Int32)), (.int (0 : Int32)), (.int (0 : Int32)), (.int (0 : Int32)), (.int (0 : Int32))] (.int (0 : Int32))) (V_s2 : Arv Z h0 s2 ks2 .long (16 : Int32) [(.long ja), (.long jb), (.long (0 : Int64)), (.long (0 : Int64)), (.long (0 : Int64)), (.long (0 : Int64)), (.long (0 : Int64)), (.long (0 : Int64)), (.long (0 : Int64)), (.long (0 : Int64)), (.long (0 : Int64)), (.long (0 : Int64)), (.long (0 : Int64)), (.long (0 : Int64)), (.long (0 : Int64)), (.long (0 : Int64))] (.long (0 : Int64))) (V_s3 : Arv Z h0 s3 ks3 .double (16 : Int32) [(.double za), (.double zb), (.double (0 : UInt64)), (.double (0 : UInt64)), (.double (0 : UInt64)), (.double (0 : UInt64)), (.double (0 : UInt64)), (.double (0 : UInt64)), (.double (0 : UInt64)), (.double (0 : UInt64)), (.double (0 : UInt64)), (.double (0 : UInt64)), (.double (0 : UInt64)), (.double (0 : UInt64)), (.double (0 : UInt64)), (.double (0 : UInt64))] (.double (0 : UInt64))) (V_s4 : Arv Z h0 s4 ks4 .char (16 : Int32) [(.int ra), (.int rb), (.int (0 : Int32)), (.int (0 : Int32)), (.int (0 : Int32)), (.int (0 : Int32)), (.int (0 : Int32)), (.int (0 : Int32)), (.int (0 : Int32)), (.int (0 : Int32)), (.int (0 : Int32)), (.int (0 : Int32)), (.int (0 : Int32)), (.int (0 : Int32)), (.int (0 : Int32)), (.int (0 : Int32))] (.int (0 : Int32))) (ne_s1_s2 : s1 ≠ s2) (ne_s1_s3 : s1 ≠ s3) (ne_s1_s4 : s1 ≠ s4) (ne_s2_s3 : s2 ≠ s3) (ne_s2_s4 : s2 ≠ s4) (ne_s3_s4 : s3 ≠ s4) (g_s1 : n0 ≤ s1) (g_s2 : n0 ≤ s2) (g_s3 : n0 ≤ s3) (g_s4 : n0 ≤ s4) (g_a : n0 ≤ a)  :
    Meets l (⟨"nearcast/engine/Best", "put", "(II)V"⟩ : MethodName) prog_15_method_22_code 3 none ws ({ frames := 0, cells := 0, slots := 0, locals := 0 } : Room) Z #[(.ref a), (.int (1 : Int32)), (.int (0 : Int32))] h0 (Q_rm_put10 Z a lo al kw ct sz sd od hp s1 s2 s3 s4 ks1 ks2 ks3 ks4 xa xb ja jb za zb ra rb h0 n0) 0 0 := by
  refine enter (Ls := #[.val (.ref a), .val (.int (1 : Int32)), .val (.int (0 : Int32))]) (plainFor_of_name pn_3) (fun m => by first | (simp [entryFrame, mkF, argsToLocals, Value.category]; done) | rfl) ?_
  intro p e s m below meth c T0 hx hby hml hown hnm hret hlk hZ X0 e0
  have N0 := Fr.nil n0
  replace hown : s.vm.findClass "nearcast/engine/Best" = some m.cls := hown
  show Run p e below _ (T0.setTop (mkF m 0 #[.val (.ref a), .val (.int (1 : Int32)), .val (.int (0 : Int32))] []))
  have K0 := Keep.refl h0 [s1, s2, s3, s4]
  refine go (fun _ => XS.aloadN X0.here hx rfl (hb hby d_p15_m22_0) rfl rfl) ?_
  show Run p e below _ (T0.setTop (mkF m 1 #[.val (.ref a), .val (.int (1 : Int32)), .val (.int (0 : Int32))] [(.ref a)]))
  obtain ⟨T47, X47, e47, st47⟩ := getF X0 hx hZ hown (host := "") (Or.inl (wd hw 13 rfl)) Via.refl e0 F_slots_a (g := (mkF m 1 #[.val (.ref a), .val (.int (1 : Int32)), .val (.int (0 : Int32))] [(.ref a)])) rfl rfl (hb hby d_p15_m22_1)
  refine go st47 ?_
  show Run p e below _ (T47.setTop (mkF m 4 #[.val (.ref a), .val (.int (1 : Int32)), .val (.int (0 : Int32))] [(.ref s1)]))
  refine go (fun _ => XS.iloadN X47.here hx rfl (hb hby d_p15_m22_4) rfl) ?_
  show Run p e below _ (T47.setTop (mkF m 5 #[.val (.ref a), .val (.int (1 : Int32)), .val (.int (0 : Int32))] [(.int (1 : Int32)), (.ref s1)]))
  refine go (fun _ => XS.aloadN X47.here hx rfl (hb hby d_p15_m22_5) rfl rfl) ?_
  show Run p e below _ (T47.setTop (mkF m 6 #[.val (.ref a), .val (.int (1 : Int32)), .val (.int (0 : Int32))] [(.ref a), (.int (1 : Int32)), (.ref s1)]))
  obtain ⟨T48, X48, e48, st48⟩ := getF X47 hx hZ hown (host := "") (Or.inl (wd hw 13 rfl)) Via.refl e47 F_slots_a (g := (mkF m 6 #[.val (.ref a), .val (.int (1 : Int32)), .val (.int (0 : Int32))] [(.ref a), (.int (1 : Int32)), (.ref s1)])) rfl rfl (hb hby d_p15_m22_6)
  refine go st48 ?_
  show Run p e below _ (T48.setTop (mkF m 9 #[.val (.ref a), .val (.int (1 : Int32)), .val (.int (0 : Int32))] [(.ref s1), (.int (1 : Int32)), (.ref s1)]))
  refine go (fun _ => XS.iloadN X48.here hx rfl (hb hby d_p15_m22_9) rfl) ?_
  show Run p e below _ (T48.setTop (mkF m 10 #[.val (.ref a), .val (.int (1 : Int32)), .val (.int (0 : Int32))] [(.int (0 : Int32)), (.ref s1), (.int (1 : Int32)), (.ref s1)]))
  obtain ⟨cl49, Ar49, ak49, as49, an49, ah49, ag49⟩ := id V_s1
  have hin49 := inb_of as49 (j := (0 : Int32)) ⟨by decide, by decide⟩
  have hat49 := ah49.at hin49 (v := (.int xa)) rfl
  refine go (fun _ => X48.iaload hx (j := (0 : Int32)) (v := (.int xa)) (by rw [e48]; exact Ar49.1) (State.isArrayOf_alike hZ.alike Ar49.2.1) Ar49.2.2 hin49 hat49 (g := (mkF m 10 #[.val (.ref a), .val (.int (1 : Int32)), .val (.int (0 : Int32))] [(.int (0 : Int32)), (.ref s1), (.int (1 : Int32)), (.ref s1)])) rfl rfl (hb hby d_p15_m22_10) _) ?_
  show Run p e below _ (T48.setTop (mkF m 11 #[.val (.ref a), .val (.int (1 : Int32)), .val (.int (0 : Int32))] [(.int xa), (.int (1 : Int32)), (.ref s1)]))
  obtain ⟨cl50, Ar50, ak50, as50, an50, ah50, ag50⟩ := id V_s1
  have hin50 := inb_of as50 (j := (1 : Int32)) ⟨by decide, by decide⟩
  obtain ⟨T50, h50, X50, e50, W50, st50⟩ := stI X48 hx hZ e48 Ar50 (j := (1 : Int32)) hin50 (g := (mkF m 11 #[.val (.ref a), .val (.int (1 : Int32)), .val (.int (0 : Int32))] [(.int xa), (.int (1 : Int32)), (.ref s1)])) rfl rfl (hb hby d_p15_m22_11)
  have ne_a_s1 : a ≠ s1 := Exa.neArv E_a V_s1 (wd hw 1 rfl)
  have O0 := O0.wr W50 g_s1
  have E_a := E_a.wr W50
  have F_leftOut_a := F_leftOut_a.other W50 (Or.inl ne_a_s1)
  have F_slots_a := F_slots_a.other W50 (Or.inl ne_a_s1)
  have F_published_a := F_published_a.other W50 (Or.inl ne_a_s1)
  have F_scores_a := F_scores_a.other W50 (Or.inl ne_a_s1)
  have F_shares_a := F_shares_a.other W50 (Or.inl ne_a_s1)
  have F_alpha_a := F_alpha_a.other W50 (Or.inl ne_a_s1)
  have F_keywords_a := F_keywords_a.other W50 (Or.inl ne_a_s1)
  have F_count_a := F_count_a.other W50 (Or.inl ne_a_s1)
  have F_size_a := F_size_a.other W50 (Or.inl ne_a_s1)
  have F_scored_a := F_scored_a.other W50 (Or.inl ne_a_s1)
  have F_ordered_a := F_ordered_a.other W50 (Or.inl ne_a_s1)
  have F_heap_a := F_heap_a.other W50 (Or.inl ne_a_s1)
  have V_s1 := (Arv.set Ar50 ak50 as50 an50 ah50 ag50 rfl W50 1 rfl (Nat.le_of_ble_eq_true rfl) : Arv Z h50 s1 ks1 .int (16 : Int32) [(.int xa), (.int xa), (.int (0 : Int32)), (.int (0 : Int32)), (.int (0 : Int32)), (.int (0 : Int32)), (.int (0 : Int32)), (.int (0 : Int32)), (.int (0 : Int32)), (.int (0 : Int32)), (.int (0 : Int32)), (.int (0 : Int32)), (.int (0 : Int32)), (.int (0 : Int32)), (.int (0 : Int32)), (.int (0 : Int32))] (.int (0 : Int32)))
  have V_s2 := V_s2.other W50 (Ne.symm ne_s1_s2)
  have V_s3 := V_s3.other W50 (Ne.symm ne_s1_s3)
  have V_s4 := V_s4.other W50 (Ne.symm ne_s1_s4)
  have K0 := K0.wr W50 (Or.inl (by simp))
  have N50 := Fr.snoc X50 N0 g_s1
  refine go st50 ?_
  show Run p e below _ (T50.setTop (mkF m 12 #[.val (.ref a), .val (.int (1 : Int32)), .val (.int (0 : Int32))] []))
  refine go (fun _ => XS.aloadN X50.here hx rfl (hb hby d_p15_m22_12) rfl rfl) ?_
  show Run p e below _ (T50.setTop (mkF m 13 #[.val (.ref a), .val (.int (1 : Int32)), .val (.int (0 : Int32))] [(.ref a)]))
  obtain ⟨T51, X51, e51, st51⟩ := getF X50 hx hZ hown (host := "") (Or.inl (wd hw 16 rfl)) Via.refl e50 F_published_a (g := (mkF m 13 #[.val (.ref a), .val (.int (1 : Int32)), .val (.int (0 : Int32))] [(.ref a)])) rfl rfl (hb hby d_p15_m22_13)
  refine go st51 ?_
  show Run p e below _ (T51.setTop (mkF m 16 #[.val (.ref a), .val (.int (1 : Int32)), .val (.int (0 : Int32))] [(.ref s2)]))
  refine go (fun _ => XS.iloadN X51.here hx rfl (hb hby d_p15_m22_16) rfl) ?_
  show Run p e below _ (T51.setTop (mkF m 17 #[.val (.ref a), .val (.int (1 : Int32)), .val (.int (0 : Int32))] [(.int (1 : Int32)), (.ref s2)]))
  refine go (fun _ => XS.aloadN X51.here hx rfl (hb hby d_p15_m22_17) rfl rfl) ?_
  show Run p e below _ (T51.setTop (mkF m 18 #[.val (.ref a), .val (.int (1 : Int32)), .val (.int (0 : Int32))] [(.ref a), (.int (1 : Int32)), (.ref s2)]))
  obtain ⟨T52, X52, e52, st52⟩ := getF X51 hx hZ hown (host := "") (Or.inl (wd hw 16 rfl)) Via.refl e51 F_published_a (g := (mkF m 18 #[.val (.ref a), .val (.int (1 : Int32)), .val (.int (0 : Int32))] [(.ref a), (.int (1 : Int32)), (.ref s2)])) rfl rfl (hb hby d_p15_m22_18)
  refine go st52 ?_
  show Run p e below _ (T52.setTop (mkF m 21 #[.val (.ref a), .val (.int (1 : Int32)), .val (.int (0 : Int32))] [(.ref s2), (.int (1 : Int32)), (.ref s2)]))
  refine go (fun _ => XS.iloadN X52.here hx rfl (hb hby d_p15_m22_21) rfl) ?_
  show Run p e below _ (T52.setTop (mkF m 22 #[.val (.ref a), .val (.int (1 : Int32)), .val (.int (0 : Int32))] [(.int (0 : Int32)), (.ref s2), (.int (1 : Int32)), (.ref s2)]))
  obtain ⟨cl53, Ar53, ak53, as53, an53, ah53, ag53⟩ := id V_s2
  have hin53 := inb_of as53 (j := (0 : Int32)) ⟨by decide, by decide⟩
  have hat53 := ah53.at hin53 (v := (.long ja)) rfl
  refine go (fun _ => X52.laload hx (j := (0 : Int32)) (v := (.long ja)) (by rw [e52]; exact Ar53.1) (State.isArrayOf_alike hZ.alike Ar53.2.1) Ar53.2.2 hin53 hat53 (g := (mkF m 22 #[.val (.ref a), .val (.int (1 : Int32)), .val (.int (0 : Int32))] [(.int (0 : Int32)), (.ref s2), (.int (1 : Int32)), (.ref s2)])) rfl rfl (hb hby d_p15_m22_22) _) ?_
  show Run p e below _ (T52.setTop (mkF m 23 #[.val (.ref a), .val (.int (1 : Int32)), .val (.int (0 : Int32))] [(.long ja), (.int (1 : Int32)), (.ref s2)]))
  obtain ⟨cl54, Ar54, ak54, as54, an54, ah54, ag54⟩ := id V_s2
  have hin54 := inb_of as54 (j := (1 : Int32)) ⟨by decide, by decide⟩
  obtain ⟨T54, h54, X54, e54, W54, st54⟩ := stJ X52 hx hZ e52 Ar54 (j := (1 : Int32)) hin54 (g := (mkF m 23 #[.val (.ref a), .val (.int (1 : Int32)), .val (.int (0 : Int32))] [(.long ja), (.int (1 : Int32)), (.ref s2)])) rfl rfl (hb hby d_p15_m22_23)
  have ne_a_s2 : a ≠ s2 := Exa.neArv E_a V_s2 (wd hw 1 rfl)
  have O0 := O0.wr W54 g_s2
  have E_a := E_a.wr W54
  have F_leftOut_a := F_leftOut_a.other W54 (Or.inl ne_a_s2)
  have F_slots_a := F_slots_a.other W54 (Or.inl ne_a_s2)
  have F_published_a := F_published_a.other W54 (Or.inl ne_a_s2)
  have F_scores_a := F_scores_a.other W54 (Or.inl ne_a_s2)
  have F_shares_a := F_shares_a.other W54 (Or.inl ne_a_s2)
  have F_alpha_a := F_alpha_a.other W54 (Or.inl ne_a_s2)
  have F_keywords_a := F_keywords_a.other W54 (Or.inl ne_a_s2)
  have F_count_a := F_count_a.other W54 (Or.inl ne_a_s2)
  have F_size_a := F_size_a.other W54 (Or.inl ne_a_s2)
  have F_scored_a := F_scored_a.other W54 (Or.inl ne_a_s2)
  have F_ordered_a := F_ordered_a.other W54 (Or.inl ne_a_s2)
  have F_heap_a := F_heap_a.other W54 (Or.inl ne_a_s2)
  have V_s1 := V_s1.other W54 ne_s1_s2
  have V_s2 := (Arv.set Ar54 ak54 as54 an54 ah54 ag54 rfl W54 1 rfl (Nat.le_of_ble_eq_true rfl) : Arv Z h54 s2 ks2 .long (16 : Int32) [(.long ja), (.long ja), (.long (0 : Int64)), (.long (0 : Int64)), (.long (0 : Int64)), (.long (0 : Int64)), (.long (0 : Int64)), (.long (0 : Int64)), (.long (0 : Int64)), (.long (0 : Int64)), (.long (0 : Int64)), (.long (0 : Int64)), (.long (0 : Int64)), (.long (0 : Int64)), (.long (0 : Int64)), (.long (0 : Int64))] (.long (0 : Int64)))
  have V_s3 := V_s3.other W54 (Ne.symm ne_s2_s3)
  have V_s4 := V_s4.other W54 (Ne.symm ne_s2_s4)
  have K0 := K0.wr W54 (Or.inl (by simp))
  have N54 := Fr.snoc X54 N50 g_s2
  refine go st54 ?_
  show Run p e below _ (T54.setTop (mkF m 24 #[.val (.ref a), .val (.int (1 : Int32)), .val (.int (0 : Int32))] []))
  refine go (fun _ => XS.aloadN X54.here hx rfl (hb hby d_p15_m22_24) rfl rfl) ?_
  show Run p e below _ (T54.setTop (mkF m 25 #[.val (.ref a), .val (.int (1 : Int32)), .val (.int (0 : Int32))] [(.ref a)]))
  obtain ⟨T55, X55, e55, st55⟩ := getF X54 hx hZ hown (host := "") (Or.inl (wd hw 19 rfl)) Via.refl e54 F_scores_a (g := (mkF m 25 #[.val (.ref a), .val (.int (1 : Int32)), .val (.int (0 : Int32))] [(.ref a)])) rfl rfl (hb hby d_p15_m22_25)
  refine go st55 ?_
  show Run p e below _ (T55.setTop (mkF m 28 #[.val (.ref a), .val (.int (1 : Int32)), .val (.int (0 : Int32))] [(.ref s3)]))
  refine go (fun _ => XS.iloadN X55.here hx rfl (hb hby d_p15_m22_28) rfl) ?_
  show Run p e below _ (T55.setTop (mkF m 29 #[.val (.ref a), .val (.int (1 : Int32)), .val (.int (0 : Int32))] [(.int (1 : Int32)), (.ref s3)]))
  refine go (fun _ => XS.aloadN X55.here hx rfl (hb hby d_p15_m22_29) rfl rfl) ?_
  show Run p e below _ (T55.setTop (mkF m 30 #[.val (.ref a), .val (.int (1 : Int32)), .val (.int (0 : Int32))] [(.ref a), (.int (1 : Int32)), (.ref s3)]))
  obtain ⟨T56, X56, e56, st56⟩ := getF X55 hx hZ hown (host := "") (Or.inl (wd hw 19 rfl)) Via.refl e55 F_scores_a (g := (mkF m 30 #[.val (.ref a), .val (.int (1 : Int32)), .val (.int (0 : Int32))] [(.ref a), (.int (1 : Int32)), (.ref s3)])) rfl rfl (hb hby d_p15_m22_30)
  refine go st56 ?_
  show Run p e below _ (T56.setTop (mkF m 33 #[.val (.ref a), .val (.int (1 : Int32)), .val (.int (0 : Int32))] [(.ref s3), (.int (1 : Int32)), (.ref s3)]))
  refine go (fun _ => XS.iloadN X56.here hx rfl (hb hby d_p15_m22_33) rfl) ?_
  show Run p e below _ (T56.setTop (mkF m 34 #[.val (.ref a), .val (.int (1 : Int32)), .val (.int (0 : Int32))] [(.int (0 : Int32)), (.ref s3), (.int (1 : Int32)), (.ref s3)]))
  obtain ⟨cl57, Ar57, ak57, as57, an57, ah57, ag57⟩ := id V_s3
  have hin57 := inb_of as57 (j := (0 : Int32)) ⟨by decide, by decide⟩
  have hat57 := ah57.at hin57 (v := (.double za)) rfl
  refine go (fun _ => X56.daload hx (j := (0 : Int32)) (v := (.double za)) (by rw [e56]; exact Ar57.1) (State.isArrayOf_alike hZ.alike Ar57.2.1) Ar57.2.2 hin57 hat57 (g := (mkF m 34 #[.val (.ref a), .val (.int (1 : Int32)), .val (.int (0 : Int32))] [(.int (0 : Int32)), (.ref s3), (.int (1 : Int32)), (.ref s3)])) rfl rfl (hb hby d_p15_m22_34) _) ?_
  show Run p e below _ (T56.setTop (mkF m 35 #[.val (.ref a), .val (.int (1 : Int32)), .val (.int (0 : Int32))] [(.double za), (.int (1 : Int32)), (.ref s3)]))
  obtain ⟨cl58, Ar58, ak58, as58, an58, ah58, ag58⟩ := id V_s3
  have hin58 := inb_of as58 (j := (1 : Int32)) ⟨by decide, by decide⟩
  obtain ⟨T58, h58, X58, e58, W58, st58⟩ := stD X56 hx hZ e56 Ar58 (j := (1 : Int32)) hin58 (g := (mkF m 35 #[.val (.ref a), .val (.int (1 : Int32)), .val (.int (0 : Int32))] [(.double za), (.int (1 : Int32)), (.ref s3)])) rfl rfl (hb hby d_p15_m22_35)
  have ne_a_s3 : a ≠ s3 := Exa.neArv E_a V_s3 (wd hw 1 rfl)
  have O0 := O0.wr W58 g_s3
  have E_a := E_a.wr W58
  have F_leftOut_a := F_leftOut_a.other W58 (Or.inl ne_a_s3)
  have F_slots_a := F_slots_a.other W58 (Or.inl ne_a_s3)
  have F_published_a := F_published_a.other W58 (Or.inl ne_a_s3)
  have F_scores_a := F_scores_a.other W58 (Or.inl ne_a_s3)
  have F_shares_a := F_shares_a.other W58 (Or.inl ne_a_s3)
  have F_alpha_a := F_alpha_a.other W58 (Or.inl ne_a_s3)
  have F_keywords_a := F_keywords_a.other W58 (Or.inl ne_a_s3)
  have F_count_a := F_count_a.other W58 (Or.inl ne_a_s3)
  have F_size_a := F_size_a.other W58 (Or.inl ne_a_s3)
  have F_scored_a := F_scored_a.other W58 (Or.inl ne_a_s3)
  have F_ordered_a := F_ordered_a.other W58 (Or.inl ne_a_s3)
  have F_heap_a := F_heap_a.other W58 (Or.inl ne_a_s3)
  have V_s1 := V_s1.other W58 ne_s1_s3
  have V_s2 := V_s2.other W58 ne_s2_s3
  have V_s3 := (Arv.set Ar58 ak58 as58 an58 ah58 ag58 rfl W58 1 rfl (Nat.le_of_ble_eq_true rfl) : Arv Z h58 s3 ks3 .double (16 : Int32) [(.double za), (.double za), (.double (0 : UInt64)), (.double (0 : UInt64)), (.double (0 : UInt64)), (.double (0 : UInt64)), (.double (0 : UInt64)), (.double (0 : UInt64)), (.double (0 : UInt64)), (.double (0 : UInt64)), (.double (0 : UInt64)), (.double (0 : UInt64)), (.double (0 : UInt64)), (.double (0 : UInt64)), (.double (0 : UInt64)), (.double (0 : UInt64))] (.double (0 : UInt64)))
  have V_s4 := V_s4.other W58 (Ne.symm ne_s3_s4)
  have K0 := K0.wr W58 (Or.inl (by simp))
  have N58 := Fr.snoc X58 N54 g_s3
  refine go st58 ?_
  show Run p e below _ (T58.setTop (mkF m 36 #[.val (.ref a), .val (.int (1 : Int32)), .val (.int (0 : Int32))] []))
  refine go (fun _ => XS.aloadN X58.here hx rfl (hb hby d_p15_m22_36) rfl rfl) ?_
  show Run p e below _ (T58.setTop (mkF m 37 #[.val (.ref a), .val (.int (1 : Int32)), .val (.int (0 : Int32))] [(.ref a)]))
  obtain ⟨T59, X59, e59, st59⟩ := getF X58 hx hZ hown (host := "") (Or.inl (wd hw 22 rfl)) Via.refl e58 F_shares_a (g := (mkF m 37 #[.val (.ref a), .val (.int (1 : Int32)), .val (.int (0 : Int32))] [(.ref a)])) rfl rfl (hb hby d_p15_m22_37)
  refine go st59 ?_
  show Run p e below _ (T59.setTop (mkF m 40 #[.val (.ref a), .val (.int (1 : Int32)), .val (.int (0 : Int32))] [(.ref s4)]))
  refine go (fun _ => XS.iloadN X59.here hx rfl (hb hby d_p15_m22_40) rfl) ?_
  show Run p e below _ (T59.setTop (mkF m 41 #[.val (.ref a), .val (.int (1 : Int32)), .val (.int (0 : Int32))] [(.int (1 : Int32)), (.ref s4)]))
  refine go (fun _ => XS.aloadN X59.here hx rfl (hb hby d_p15_m22_41) rfl rfl) ?_
  show Run p e below _ (T59.setTop (mkF m 42 #[.val (.ref a), .val (.int (1 : Int32)), .val (.int (0 : Int32))] [(.ref a), (.int (1 : Int32)), (.ref s4)]))
  obtain ⟨T60, X60, e60, st60⟩ := getF X59 hx hZ hown (host := "") (Or.inl (wd hw 22 rfl)) Via.refl e59 F_shares_a (g := (mkF m 42 #[.val (.ref a), .val (.int (1 : Int32)), .val (.int (0 : Int32))] [(.ref a), (.int (1 : Int32)), (.ref s4)])) rfl rfl (hb hby d_p15_m22_42)
  refine go st60 ?_
  show Run p e below _ (T60.setTop (mkF m 45 #[.val (.ref a), .val (.int (1 : Int32)), .val (.int (0 : Int32))] [(.ref s4), (.int (1 : Int32)), (.ref s4)]))
  refine go (fun _ => XS.iloadN X60.here hx rfl (hb hby d_p15_m22_45) rfl) ?_
  show Run p e below _ (T60.setTop (mkF m 46 #[.val (.ref a), .val (.int (1 : Int32)), .val (.int (0 : Int32))] [(.int (0 : Int32)), (.ref s4), (.int (1 : Int32)), (.ref s4)]))
  obtain ⟨cl61, Ar61, ak61, as61, an61, ah61, ag61⟩ := id V_s4
  have hin61 := inb_of as61 (j := (0 : Int32)) ⟨by decide, by decide⟩
  have hat61 := ah61.at hin61 (v := (.int ra)) rfl
  refine go (fun _ => X60.caload hx (j := (0 : Int32)) (v := (.int ra)) (by rw [e60]; exact Ar61.1) (State.isArrayOf_alike hZ.alike Ar61.2.1) Ar61.2.2 hin61 hat61 (g := (mkF m 46 #[.val (.ref a), .val (.int (1 : Int32)), .val (.int (0 : Int32))] [(.int (0 : Int32)), (.ref s4), (.int (1 : Int32)), (.ref s4)])) rfl rfl (hb hby d_p15_m22_46) _) ?_
  show Run p e below _ (T60.setTop (mkF m 47 #[.val (.ref a), .val (.int (1 : Int32)), .val (.int (0 : Int32))] [(.int ra), (.int (1 : Int32)), (.ref s4)]))
  obtain ⟨cl62, Ar62, ak62, as62, an62, ah62, ag62⟩ := id V_s4
  have hin62 := inb_of as62 (j := (1 : Int32)) ⟨by decide, by decide⟩
  obtain ⟨T62, h62, X62, e62, W62, st62⟩ := stC X60 hx hZ e60 Ar62 (j := (1 : Int32)) hin62 (g := (mkF m 47 #[.val (.ref a), .val (.int (1 : Int32)), .val (.int (0 : Int32))] [(.int ra), (.int (1 : Int32)), (.ref s4)])) rfl rfl (hb hby d_p15_m22_47)
  have ne_a_s4 : a ≠ s4 := Exa.neArv E_a V_s4 (wd hw 1 rfl)
  have O0 := O0.wr W62 g_s4
  have E_a := E_a.wr W62
  have F_leftOut_a := F_leftOut_a.other W62 (Or.inl ne_a_s4)
  have F_slots_a := F_slots_a.other W62 (Or.inl ne_a_s4)
  have F_published_a := F_published_a.other W62 (Or.inl ne_a_s4)
  have F_scores_a := F_scores_a.other W62 (Or.inl ne_a_s4)
  have F_shares_a := F_shares_a.other W62 (Or.inl ne_a_s4)
  have F_alpha_a := F_alpha_a.other W62 (Or.inl ne_a_s4)
  have F_keywords_a := F_keywords_a.other W62 (Or.inl ne_a_s4)
  have F_count_a := F_count_a.other W62 (Or.inl ne_a_s4)
  have F_size_a := F_size_a.other W62 (Or.inl ne_a_s4)
  have F_scored_a := F_scored_a.other W62 (Or.inl ne_a_s4)
  have F_ordered_a := F_ordered_a.other W62 (Or.inl ne_a_s4)
  have F_heap_a := F_heap_a.other W62 (Or.inl ne_a_s4)
  have V_s1 := V_s1.other W62 ne_s1_s4
  have V_s2 := V_s2.other W62 ne_s2_s4
  have V_s3 := V_s3.other W62 ne_s3_s4
  have V_s4 := (Arv.set Ar62 ak62 as62 an62 ah62 ag62 (fits_nar_char _) W62 1 rfl (Nat.le_of_ble_eq_true rfl) : Arv Z h62 s4 ks4 .char (16 : Int32) [(.int ra), (.int (nar .char ra)), (.int (0 : Int32)), (.int (0 : Int32)), (.int (0 : Int32)), (.int (0 : Int32)), (.int (0 : Int32)), (.int (0 : Int32)), (.int (0 : Int32)), (.int (0 : Int32)), (.int (0 : Int32)), (.int (0 : Int32)), (.int (0 : Int32)), (.int (0 : Int32)), (.int (0 : Int32)), (.int (0 : Int32))] (.int (0 : Int32)))
  have K0 := K0.wr W62 (Or.inl (by simp))
  have N62 := Fr.snoc X62 N58 g_s4
  refine go st62 ?_
  show Run p e below _ (T62.setTop (mkF m 48 #[.val (.ref a), .val (.int (1 : Int32)), .val (.int (0 : Int32))] []))
  exact endV X62 hx hlk hret (hb hby d_p15_m22_48) (by rw [e62]; exact ⟨rfl, N62, K0, V_s1, V_s2, V_s3, V_s4⟩) (by decide) (by decide)
theorem d_p15_m20_0 : decode prog_15_method_20_code 0 = .ok (.iload_n 1, 1) := by decide +kernel
theorem d_p15_m20_1 : decode prog_15_method_20_code 1 = .ok (.istore 9, 2) := by decide +kernel
theorem d_p15_m20_3 : decode prog_15_method_20_code 3 = .ok (.iconst 2, 1) := by decide +kernel
theorem d_p15_m20_4 : decode prog_15_method_20_code 4 = .ok (.iload 9, 2) := by decide +kernel
theorem d_p15_m20_6 : decode prog_15_method_20_code 6 = .ok (.imul, 1) := by decide +kernel
theorem d_p15_m20_7 : decode prog_15_method_20_code 7 = .ok (.iconst 1, 1) := by decide +kernel
theorem d_p15_m20_8 : decode prog_15_method_20_code 8 = .ok (.iadd, 1) := by decide +kernel
theorem d_p15_m20_9 : decode prog_15_method_20_code 9 = .ok (.iload_n 2, 1) := by decide +kernel
theorem d_p15_m20_10 : decode prog_15_method_20_code 10 = .ok (.if_icmp .ge 77, 3) := by decide +kernel
theorem d_p15_m20_13 : decode prog_15_method_20_code 13 = .ok (.iconst 2, 1) := by decide +kernel
theorem d_p15_m20_14 : decode prog_15_method_20_code 14 = .ok (.iload 9, 2) := by decide +kernel
theorem d_p15_m20_16 : decode prog_15_method_20_code 16 = .ok (.imul, 1) := by decide +kernel
theorem d_p15_m20_17 : decode prog_15_method_20_code 17 = .ok (.iconst 1, 1) := by decide +kernel
theorem d_p15_m20_18 : decode prog_15_method_20_code 18 = .ok (.iadd, 1) := by decide +kernel
theorem d_p15_m20_19 : decode prog_15_method_20_code 19 = .ok (.istore 10, 2) := by decide +kernel
theorem d_p15_m20_21 : decode prog_15_method_20_code 21 = .ok (.iload 10, 2) := by decide +kernel
theorem d_p15_m20_23 : decode prog_15_method_20_code 23 = .ok (.iconst 1, 1) := by decide +kernel
theorem d_p15_m20_24 : decode prog_15_method_20_code 24 = .ok (.iadd, 1) := by decide +kernel
theorem d_p15_m20_25 : decode prog_15_method_20_code 25 = .ok (.iload_n 2, 1) := by decide +kernel
theorem d_p15_m20_26 : decode prog_15_method_20_code 26 = .ok (.if_icmp .ge 19, 3) := by decide +kernel
theorem d_p15_m20_45 : decode prog_15_method_20_code 45 = .ok (.aload_n 0, 1) := by decide +kernel
theorem d_p15_m20_46 : decode prog_15_method_20_code 46 = .ok (.getfield 30, 3) := by decide +kernel
theorem d_p15_m20_49 : decode prog_15_method_20_code 49 = .ok (.iload 10, 2) := by decide +kernel
theorem d_p15_m20_51 : decode prog_15_method_20_code 51 = .ok (.daload, 1) := by decide +kernel
theorem d_p15_m20_52 : decode prog_15_method_20_code 52 = .ok (.aload_n 0, 1) := by decide +kernel
theorem d_p15_m20_53 : decode prog_15_method_20_code 53 = .ok (.getfield 26, 3) := by decide +kernel
theorem d_p15_m20_56 : decode prog_15_method_20_code 56 = .ok (.iload 10, 2) := by decide +kernel
theorem d_p15_m20_58 : decode prog_15_method_20_code 58 = .ok (.laload, 1) := by decide +kernel
theorem d_p15_m20_59 : decode prog_15_method_20_code 59 = .ok (.dload 6, 2) := by decide +kernel
theorem d_p15_m20_61 : decode prog_15_method_20_code 61 = .ok (.lload 4, 2) := by decide +kernel
theorem d_p15_m20_63 : decode prog_15_method_20_code 63 = .ok (.invokestatic 115, 3) := by decide +kernel
theorem pd_4 : parseMethodDescriptor "(DJDJ)I" = some ⟨[.double, .long, .double, .long], some .int⟩ := by decide +kernel
theorem d_p15_m20_66 : decode prog_15_method_20_code 66 = .ok (.ifCond .gt 6, 3) := by decide +kernel
theorem d_p15_m20_72 : decode prog_15_method_20_code 72 = .ok (.aload_n 0, 1) := by decide +kernel
theorem d_p15_m20_73 : decode prog_15_method_20_code 73 = .ok (.iload 9, 2) := by decide +kernel
theorem d_p15_m20_75 : decode prog_15_method_20_code 75 = .ok (.iload 10, 2) := by decide +kernel
theorem d_p15_m20_77 : decode prog_15_method_20_code 77 = .ok (.invokevirtual 131, 3) := by decide +kernel
theorem pd_5 : parseMethodDescriptor "(II)V" = some ⟨[.int, .int], none⟩ := by decide +kernel
theorem d_p15_m20_80 : decode prog_15_method_20_code 80 = .ok (.iload 10, 2) := by decide +kernel
theorem d_p15_m20_82 : decode prog_15_method_20_code 82 = .ok (.istore 9, 2) := by decide +kernel
theorem d_p15_m20_84 : decode prog_15_method_20_code 84 = .ok (.goto (-81), 3) := by decide +kernel
theorem d_p15_m20_87 : decode prog_15_method_20_code 87 = .ok (.aload_n 0, 1) := by decide +kernel
theorem d_p15_m20_88 : decode prog_15_method_20_code 88 = .ok (.iload 9, 2) := by decide +kernel
theorem d_p15_m20_90 : decode prog_15_method_20_code 90 = .ok (.iload_n 3, 1) := by decide +kernel
theorem d_p15_m20_91 : decode prog_15_method_20_code 91 = .ok (.lload 4, 2) := by decide +kernel
theorem d_p15_m20_93 : decode prog_15_method_20_code 93 = .ok (.dload 6, 2) := by decide +kernel
theorem d_p15_m20_95 : decode prog_15_method_20_code 95 = .ok (.iload 8, 2) := by decide +kernel
theorem d_p15_m20_97 : decode prog_15_method_20_code 97 = .ok (.invokevirtual 107, 3) := by decide +kernel
theorem pd_6 : parseMethodDescriptor "(IIJDC)V" = some ⟨[.int, .int, .long, .double, .char], none⟩ := by decide +kernel
theorem d_p15_m20_100 : decode prog_15_method_20_code 100 = .ok (.return_, 1) := by decide +kernel
def Q_rm_sd2 (Z : State) (a : Addr) (lo al : UInt64) (kw ct sz : Int32) (sd : Int64) (od hp : Int32) (s1 s2 s3 s4 : Addr) (ks1 ks2 ks3 ks4 : ClassId) (xa xb : Int32) (ja jb : Int64) (za zb : UInt64) (ra rb : Int32) (p2 : Int32) (l2 : Int64) (d2 : UInt64) (p3 : Int32) (h0 : Heap) (n0 : Nat) (v : Option Value) (h : Heap) (L : List Loc) : Prop := v = none ∧ Fr n0 L ∧ Keep h0 h [s1, s2, s3, s4] ∧ Arv Z h s1 ks1 .int (16 : Int32) [(.int xb), (.int p2), (.int (0 : Int32)), (.int (0 : Int32)), (.int (0 : Int32)), (.int (0 : Int32)), (.int (0 : Int32)), (.int (0 : Int32)), (.int (0 : Int32)), (.int (0 : Int32)), (.int (0 : Int32)), (.int (0 : Int32)), (.int (0 : Int32)), (.int (0 : Int32)), (.int (0 : Int32)), (.int (0 : Int32))] (.int (0 : Int32)) ∧ Arv Z h s2 ks2 .long (16 : Int32) [(.long jb), (.long l2), (.long (0 : Int64)), (.long (0 : Int64)), (.long (0 : Int64)), (.long (0 : Int64)), (.long (0 : Int64)), (.long (0 : Int64)), (.long (0 : Int64)), (.long (0 : Int64)), (.long (0 : Int64)), (.long (0 : Int64)), (.long (0 : Int64)), (.long (0 : Int64)), (.long (0 : Int64)), (.long (0 : Int64))] (.long (0 : Int64)) ∧ Arv Z h s3 ks3 .double (16 : Int32) [(.double zb), (.double d2), (.double (0 : UInt64)), (.double (0 : UInt64)), (.double (0 : UInt64)), (.double (0 : UInt64)), (.double (0 : UInt64)), (.double (0 : UInt64)), (.double (0 : UInt64)), (.double (0 : UInt64)), (.double (0 : UInt64)), (.double (0 : UInt64)), (.double (0 : UInt64)), (.double (0 : UInt64)), (.double (0 : UInt64)), (.double (0 : UInt64))] (.double (0 : UInt64)) ∧ Arv Z h s4 ks4 .char (16 : Int32) [(.int (nar .char rb)), (.int (nar .char p3)), (.int (0 : Int32)), (.int (0 : Int32)), (.int (0 : Int32)), (.int (0 : Int32)), (.int (0 : Int32)), (.int (0 : Int32)), (.int (0 : Int32)), (.int (0 : Int32)), (.int (0 : Int32)), (.int (0 : Int32)), (.int (0 : Int32)), (.int (0 : Int32)), (.int (0 : Int32)), (.int (0 : Int32))] (.int (0 : Int32))
set_option maxRecDepth 65536 in
set_option maxHeartbeats 40000000 in
theorem rm_sd2 (l : Launch) (Z : State) (a0 : Array Value) (hw : ∀ d ∈ tables_1, d.before a0 Z = true) (ws : List Jvm.Cond) (a : Addr) (lo al : UInt64) (kw ct sz : Int32) (sd : Int64) (od hp : Int32) (s1 s2 s3 s4 : Addr) (ks1 ks2 ks3 ks4 : ClassId) (xa xb : Int32) (ja jb : Int64) (za zb : UInt64) (ra rb : Int32) (p2 : Int32) (l2 : Int64) (d2 : UInt64) (p3 : Int32) (h0 : Heap) (n0 : Nat) (O0 : Old Z n0 h0) (E_a : Exa Z h0 a "nearcast/engine/Best") (F_leftOut_a : Fld Z h0 a "nearcast/engine/Best" "leftOut" "D" (.double lo)) (F_slots_a : Fld Z h0 a "nearcast/engine/Best" "slots" "[I" (.ref s1)) (F_published_a : Fld Z h0 a "nearcast/engine/Best" "published" "[J" (.ref s2)) (F_scores_a : Fld Z h0 a "nearcast/engine/Best" "scores" "[D" (.ref s3)) (F_shares_a : Fld Z h0 a "nearcast/engine/Best" "shares" "[C" (.ref s4)) (F_alpha_a : Fld Z h0 a "nearcast/engine/Best" "alpha" "D" (.double al)) (F_keywords_a : Fld Z h0 a "nearcast/engine/Best" "keywords" "I" (.int kw)) (F_count_a : Fld Z h0 a "nearcast/engine/Best" "count" "I" (.int ct)) (F_size_a : Fld Z h0 a "nearcast/engine/Best" "size" "I" (.int sz)) (F_scored_a : Fld Z h0 a "nearcast/engine/Best" "scored" "J" (.long sd)) (F_ordered_a : Fld Z h0 a "nearcast/engine/Best" "ordered" "Z" (.int od)) (F_heap_a : Fld Z h0 a "nearcast/engine/Best" "heap" "Z" (.int hp)) (V_s1 : Arv Z h0 s1 ks1 .int (16 : Int32) [(.int xa), (.int xb), (.int (0 : Int32)), (.int (0 : Int32)), (.int (0 : Int32)), (.int (0 : Int32)), (.int (0 : Int32)), (.int (0 : Int32)), (.int (0 : Int32)), (.int (0 : Int32)), (.int (0 : Int32)), (.int (0 : Int32)), (.int (0 : Int32)), (.int (0 : Int32)), (.int (0 : Int32)), (.int (0 : Int32))] (.int (0 : Int32))) (V_s2 : Arv Z h0 s2 ks2 .long (16 : Int32) [(.long ja), (.long jb), (.long (0 : Int64)), (.long (0 : Int64)), (.long (0 : Int64)), (.long (0 : Int64)), (.long (0 : Int64)), (.long (0 : Int64)), (.long (0 : Int64)), (.long (0 : Int64)), (.long (0 : Int64)), (.long (0 : Int64)), (.long (0 : Int64)), (.long (0 : Int64)), (.long (0 : Int64)), (.long (0 : Int64))] (.long (0 : Int64))) (V_s3 : Arv Z h0 s3 ks3 .double (16 : Int32) [(.double za), (.double zb), (.double (0 : UInt64)), (.double (0 : UInt64)), (.double (0 : UInt64)), (.double (0 : UInt64)), (.double (0 : UInt64)), (.double (0 : UInt64)), (.double (0 : UInt64)), (.double (0 : UInt64)), (.double (0 : UInt64)), (.double (0 : UInt64)), (.double (0 : UInt64)), (.double (0 : UInt64)), (.double (0 : UInt64)), (.double (0 : UInt64))] (.double (0 : UInt64))) (V_s4 : Arv Z h0 s4 ks4 .char (16 : Int32) [(.int ra), (.int rb), (.int (0 : Int32)), (.int (0 : Int32)), (.int (0 : Int32)), (.int (0 : Int32)), (.int (0 : Int32)), (.int (0 : Int32)), (.int (0 : Int32)), (.int (0 : Int32)), (.int (0 : Int32)), (.int (0 : Int32)), (.int (0 : Int32)), (.int (0 : Int32)), (.int (0 : Int32)), (.int (0 : Int32))] (.int (0 : Int32))) (ne_s1_s2 : s1 ≠ s2) (ne_s1_s3 : s1 ≠ s3) (ne_s1_s4 : s1 ≠ s4) (ne_s2_s3 : s2 ≠ s3) (ne_s2_s4 : s2 ≠ s4) (ne_s3_s4 : s3 ≠ s4) (g_s1 : n0 ≤ s1) (g_s2 : n0 ≤ s2) (g_s3 : n0 ≤ s3) (g_s4 : n0 ≤ s4) (g_a : n0 ≤ a) (hc : FP.dcmp d2 zb = some .gt) :
    Meets l (⟨"nearcast/engine/Best", "siftDown", "(IIIJDC)V"⟩ : MethodName) prog_15_method_20_code 11 none ws ({ frames := 2, cells := 0, slots := 0, locals := 39 } : Room) Z #[(.ref a), (.int (0 : Int32)), (.int (2 : Int32)), (.int p2), (.long l2), (.double d2), (.int p3)] h0 (Q_rm_sd2 Z a lo al kw ct sz sd od hp s1 s2 s3 s4 ks1 ks2 ks3 ks4 xa xb ja jb za zb ra rb p2 l2 d2 p3 h0 n0) 0 0 := by
  refine enter (Ls := #[.val (.ref a), .val (.int (0 : Int32)), .val (.int (2 : Int32)), .val (.int p2), .val (.long l2), .second, .val (.double d2), .second, .val (.int p3), .unset, .unset]) (plainFor_of_name pn_3) (fun m => by first | (simp [entryFrame, mkF, argsToLocals, Value.category]; done) | rfl) ?_
  intro p e s m below meth c T0 hx hby hml hown hnm hret hlk hZ X0 e0
  have N0 := Fr.nil n0
  replace hown : s.vm.findClass "nearcast/engine/Best" = some m.cls := hown
  show Run p e below _ (T0.setTop (mkF m 0 #[.val (.ref a), .val (.int (0 : Int32)), .val (.int (2 : Int32)), .val (.int p2), .val (.long l2), .second, .val (.double d2), .second, .val (.int p3), .unset, .unset] []))
  have K0 := Keep.refl h0 [s1, s2, s3, s4]
  refine go (fun _ => XS.iloadN X0.here hx rfl (hb hby d_p15_m20_0) rfl) ?_
  show Run p e below _ (T0.setTop (mkF m 1 #[.val (.ref a), .val (.int (0 : Int32)), .val (.int (2 : Int32)), .val (.int p2), .val (.long l2), .second, .val (.double d2), .second, .val (.int p3), .unset, .unset] [(.int (0 : Int32))]))
  refine go (fun _ => XS.istore X0.here hx rfl (hb hby d_p15_m20_1) rfl (l' := #[.val (.ref a), .val (.int (0 : Int32)), .val (.int (2 : Int32)), .val (.int p2), .val (.long l2), .second, .val (.double d2), .second, .val (.int p3), .val (.int (0 : Int32)), .unset]) rfl) ?_
  show Run p e below _ (T0.setTop (mkF m 3 #[.val (.ref a), .val (.int (0 : Int32)), .val (.int (2 : Int32)), .val (.int p2), .val (.long l2), .second, .val (.double d2), .second, .val (.int p3), .val (.int (0 : Int32)), .unset] []))
  refine go (fun _ => XS.iconst X0.here hx rfl (hb hby d_p15_m20_3)) ?_
  show Run p e below _ (T0.setTop (mkF m 4 #[.val (.ref a), .val (.int (0 : Int32)), .val (.int (2 : Int32)), .val (.int p2), .val (.long l2), .second, .val (.double d2), .second, .val (.int p3), .val (.int (0 : Int32)), .unset] [(.int (2 : Int32))]))
  refine go (fun _ => XS.iload X0.here hx rfl (hb hby d_p15_m20_4) rfl) ?_
  show Run p e below _ (T0.setTop (mkF m 6 #[.val (.ref a), .val (.int (0 : Int32)), .val (.int (2 : Int32)), .val (.int p2), .val (.long l2), .second, .val (.double d2), .second, .val (.int p3), .val (.int (0 : Int32)), .unset] [(.int (0 : Int32)), (.int (2 : Int32))]))
  refine go (fun _ => XS.imul X0.here hx rfl (hb hby d_p15_m20_6) rfl) ?_
  show Run p e below _ (T0.setTop (mkF m 7 #[.val (.ref a), .val (.int (0 : Int32)), .val (.int (2 : Int32)), .val (.int p2), .val (.long l2), .second, .val (.double d2), .second, .val (.int p3), .val (.int (0 : Int32)), .unset] [(.int (0 : Int32))]))
  refine go (fun _ => XS.iconst X0.here hx rfl (hb hby d_p15_m20_7)) ?_
  show Run p e below _ (T0.setTop (mkF m 8 #[.val (.ref a), .val (.int (0 : Int32)), .val (.int (2 : Int32)), .val (.int p2), .val (.long l2), .second, .val (.double d2), .second, .val (.int p3), .val (.int (0 : Int32)), .unset] [(.int (1 : Int32)), (.int (0 : Int32))]))
  refine go (fun _ => XS.iadd X0.here hx rfl (hb hby d_p15_m20_8) rfl) ?_
  show Run p e below _ (T0.setTop (mkF m 9 #[.val (.ref a), .val (.int (0 : Int32)), .val (.int (2 : Int32)), .val (.int p2), .val (.long l2), .second, .val (.double d2), .second, .val (.int p3), .val (.int (0 : Int32)), .unset] [(.int (1 : Int32))]))
  refine go (fun _ => XS.iloadN X0.here hx rfl (hb hby d_p15_m20_9) rfl) ?_
  show Run p e below _ (T0.setTop (mkF m 10 #[.val (.ref a), .val (.int (0 : Int32)), .val (.int (2 : Int32)), .val (.int p2), .val (.long l2), .second, .val (.double d2), .second, .val (.int p3), .val (.int (0 : Int32)), .unset] [(.int (2 : Int32)), (.int (1 : Int32))]))
  refine go (fun _ => XS.icmpNo X0.here hx rfl (hb hby d_p15_m20_10) rfl (tlt (by decide : (1 : Int32) < 2)).2.1) ?_
  show Run p e below _ (T0.setTop (mkF m 13 #[.val (.ref a), .val (.int (0 : Int32)), .val (.int (2 : Int32)), .val (.int p2), .val (.long l2), .second, .val (.double d2), .second, .val (.int p3), .val (.int (0 : Int32)), .unset] []))
  refine go (fun _ => XS.iconst X0.here hx rfl (hb hby d_p15_m20_13)) ?_
  show Run p e below _ (T0.setTop (mkF m 14 #[.val (.ref a), .val (.int (0 : Int32)), .val (.int (2 : Int32)), .val (.int p2), .val (.long l2), .second, .val (.double d2), .second, .val (.int p3), .val (.int (0 : Int32)), .unset] [(.int (2 : Int32))]))
  refine go (fun _ => XS.iload X0.here hx rfl (hb hby d_p15_m20_14) rfl) ?_
  show Run p e below _ (T0.setTop (mkF m 16 #[.val (.ref a), .val (.int (0 : Int32)), .val (.int (2 : Int32)), .val (.int p2), .val (.long l2), .second, .val (.double d2), .second, .val (.int p3), .val (.int (0 : Int32)), .unset] [(.int (0 : Int32)), (.int (2 : Int32))]))
  refine go (fun _ => XS.imul X0.here hx rfl (hb hby d_p15_m20_16) rfl) ?_
  show Run p e below _ (T0.setTop (mkF m 17 #[.val (.ref a), .val (.int (0 : Int32)), .val (.int (2 : Int32)), .val (.int p2), .val (.long l2), .second, .val (.double d2), .second, .val (.int p3), .val (.int (0 : Int32)), .unset] [(.int (0 : Int32))]))
  refine go (fun _ => XS.iconst X0.here hx rfl (hb hby d_p15_m20_17)) ?_
  show Run p e below _ (T0.setTop (mkF m 18 #[.val (.ref a), .val (.int (0 : Int32)), .val (.int (2 : Int32)), .val (.int p2), .val (.long l2), .second, .val (.double d2), .second, .val (.int p3), .val (.int (0 : Int32)), .unset] [(.int (1 : Int32)), (.int (0 : Int32))]))
  refine go (fun _ => XS.iadd X0.here hx rfl (hb hby d_p15_m20_18) rfl) ?_
  show Run p e below _ (T0.setTop (mkF m 19 #[.val (.ref a), .val (.int (0 : Int32)), .val (.int (2 : Int32)), .val (.int p2), .val (.long l2), .second, .val (.double d2), .second, .val (.int p3), .val (.int (0 : Int32)), .unset] [(.int (1 : Int32))]))
  refine go (fun _ => XS.istore X0.here hx rfl (hb hby d_p15_m20_19) rfl (l' := #[.val (.ref a), .val (.int (0 : Int32)), .val (.int (2 : Int32)), .val (.int p2), .val (.long l2), .second, .val (.double d2), .second, .val (.int p3), .val (.int (0 : Int32)), .val (.int (1 : Int32))]) rfl) ?_
  show Run p e below _ (T0.setTop (mkF m 21 #[.val (.ref a), .val (.int (0 : Int32)), .val (.int (2 : Int32)), .val (.int p2), .val (.long l2), .second, .val (.double d2), .second, .val (.int p3), .val (.int (0 : Int32)), .val (.int (1 : Int32))] []))
  refine go (fun _ => XS.iload X0.here hx rfl (hb hby d_p15_m20_21) rfl) ?_
  show Run p e below _ (T0.setTop (mkF m 23 #[.val (.ref a), .val (.int (0 : Int32)), .val (.int (2 : Int32)), .val (.int p2), .val (.long l2), .second, .val (.double d2), .second, .val (.int p3), .val (.int (0 : Int32)), .val (.int (1 : Int32))] [(.int (1 : Int32))]))
  refine go (fun _ => XS.iconst X0.here hx rfl (hb hby d_p15_m20_23)) ?_
  show Run p e below _ (T0.setTop (mkF m 24 #[.val (.ref a), .val (.int (0 : Int32)), .val (.int (2 : Int32)), .val (.int p2), .val (.long l2), .second, .val (.double d2), .second, .val (.int p3), .val (.int (0 : Int32)), .val (.int (1 : Int32))] [(.int (1 : Int32)), (.int (1 : Int32))]))
  refine go (fun _ => XS.iadd X0.here hx rfl (hb hby d_p15_m20_24) rfl) ?_
  show Run p e below _ (T0.setTop (mkF m 25 #[.val (.ref a), .val (.int (0 : Int32)), .val (.int (2 : Int32)), .val (.int p2), .val (.long l2), .second, .val (.double d2), .second, .val (.int p3), .val (.int (0 : Int32)), .val (.int (1 : Int32))] [(.int (2 : Int32))]))
  refine go (fun _ => XS.iloadN X0.here hx rfl (hb hby d_p15_m20_25) rfl) ?_
  show Run p e below _ (T0.setTop (mkF m 26 #[.val (.ref a), .val (.int (0 : Int32)), .val (.int (2 : Int32)), .val (.int p2), .val (.long l2), .second, .val (.double d2), .second, .val (.int p3), .val (.int (0 : Int32)), .val (.int (1 : Int32))] [(.int (2 : Int32)), (.int (2 : Int32))]))
  refine go (fun _ => XS.icmpYes X0.here hx rfl (pc0 := 26) (pc' := 45) rfl (hb hby d_p15_m20_26) rfl (flt (by decide : ¬ ((2 : Int32) < 2))).2.1 (by decide) (by decide)) ?_
  show Run p e below _ (T0.setTop (mkF m 45 #[.val (.ref a), .val (.int (0 : Int32)), .val (.int (2 : Int32)), .val (.int p2), .val (.long l2), .second, .val (.double d2), .second, .val (.int p3), .val (.int (0 : Int32)), .val (.int (1 : Int32))] []))
  refine go (fun _ => XS.aloadN X0.here hx rfl (hb hby d_p15_m20_45) rfl rfl) ?_
  show Run p e below _ (T0.setTop (mkF m 46 #[.val (.ref a), .val (.int (0 : Int32)), .val (.int (2 : Int32)), .val (.int p2), .val (.long l2), .second, .val (.double d2), .second, .val (.int p3), .val (.int (0 : Int32)), .val (.int (1 : Int32))] [(.ref a)]))
  obtain ⟨T63, X63, e63, st63⟩ := getF X0 hx hZ hown (host := "") (Or.inl (wd hw 19 rfl)) Via.refl e0 F_scores_a (g := (mkF m 46 #[.val (.ref a), .val (.int (0 : Int32)), .val (.int (2 : Int32)), .val (.int p2), .val (.long l2), .second, .val (.double d2), .second, .val (.int p3), .val (.int (0 : Int32)), .val (.int (1 : Int32))] [(.ref a)])) rfl rfl (hb hby d_p15_m20_46)
  refine go st63 ?_
  show Run p e below _ (T63.setTop (mkF m 49 #[.val (.ref a), .val (.int (0 : Int32)), .val (.int (2 : Int32)), .val (.int p2), .val (.long l2), .second, .val (.double d2), .second, .val (.int p3), .val (.int (0 : Int32)), .val (.int (1 : Int32))] [(.ref s3)]))
  refine go (fun _ => XS.iload X63.here hx rfl (hb hby d_p15_m20_49) rfl) ?_
  show Run p e below _ (T63.setTop (mkF m 51 #[.val (.ref a), .val (.int (0 : Int32)), .val (.int (2 : Int32)), .val (.int p2), .val (.long l2), .second, .val (.double d2), .second, .val (.int p3), .val (.int (0 : Int32)), .val (.int (1 : Int32))] [(.int (1 : Int32)), (.ref s3)]))
  obtain ⟨cl64, Ar64, ak64, as64, an64, ah64, ag64⟩ := id V_s3
  have hin64 := inb_of as64 (j := (1 : Int32)) ⟨by decide, by decide⟩
  have hat64 := ah64.at hin64 (v := (.double zb)) rfl
  refine go (fun _ => X63.daload hx (j := (1 : Int32)) (v := (.double zb)) (by rw [e63]; exact Ar64.1) (State.isArrayOf_alike hZ.alike Ar64.2.1) Ar64.2.2 hin64 hat64 (g := (mkF m 51 #[.val (.ref a), .val (.int (0 : Int32)), .val (.int (2 : Int32)), .val (.int p2), .val (.long l2), .second, .val (.double d2), .second, .val (.int p3), .val (.int (0 : Int32)), .val (.int (1 : Int32))] [(.int (1 : Int32)), (.ref s3)])) rfl rfl (hb hby d_p15_m20_51) _) ?_
  show Run p e below _ (T63.setTop (mkF m 52 #[.val (.ref a), .val (.int (0 : Int32)), .val (.int (2 : Int32)), .val (.int p2), .val (.long l2), .second, .val (.double d2), .second, .val (.int p3), .val (.int (0 : Int32)), .val (.int (1 : Int32))] [(.double zb)]))
  refine go (fun _ => XS.aloadN X63.here hx rfl (hb hby d_p15_m20_52) rfl rfl) ?_
  show Run p e below _ (T63.setTop (mkF m 53 #[.val (.ref a), .val (.int (0 : Int32)), .val (.int (2 : Int32)), .val (.int p2), .val (.long l2), .second, .val (.double d2), .second, .val (.int p3), .val (.int (0 : Int32)), .val (.int (1 : Int32))] [(.ref a), (.double zb)]))
  obtain ⟨T65, X65, e65, st65⟩ := getF X63 hx hZ hown (host := "") (Or.inl (wd hw 16 rfl)) Via.refl e63 F_published_a (g := (mkF m 53 #[.val (.ref a), .val (.int (0 : Int32)), .val (.int (2 : Int32)), .val (.int p2), .val (.long l2), .second, .val (.double d2), .second, .val (.int p3), .val (.int (0 : Int32)), .val (.int (1 : Int32))] [(.ref a), (.double zb)])) rfl rfl (hb hby d_p15_m20_53)
  refine go st65 ?_
  show Run p e below _ (T65.setTop (mkF m 56 #[.val (.ref a), .val (.int (0 : Int32)), .val (.int (2 : Int32)), .val (.int p2), .val (.long l2), .second, .val (.double d2), .second, .val (.int p3), .val (.int (0 : Int32)), .val (.int (1 : Int32))] [(.ref s2), (.double zb)]))
  refine go (fun _ => XS.iload X65.here hx rfl (hb hby d_p15_m20_56) rfl) ?_
  show Run p e below _ (T65.setTop (mkF m 58 #[.val (.ref a), .val (.int (0 : Int32)), .val (.int (2 : Int32)), .val (.int p2), .val (.long l2), .second, .val (.double d2), .second, .val (.int p3), .val (.int (0 : Int32)), .val (.int (1 : Int32))] [(.int (1 : Int32)), (.ref s2), (.double zb)]))
  obtain ⟨cl66, Ar66, ak66, as66, an66, ah66, ag66⟩ := id V_s2
  have hin66 := inb_of as66 (j := (1 : Int32)) ⟨by decide, by decide⟩
  have hat66 := ah66.at hin66 (v := (.long jb)) rfl
  refine go (fun _ => X65.laload hx (j := (1 : Int32)) (v := (.long jb)) (by rw [e65]; exact Ar66.1) (State.isArrayOf_alike hZ.alike Ar66.2.1) Ar66.2.2 hin66 hat66 (g := (mkF m 58 #[.val (.ref a), .val (.int (0 : Int32)), .val (.int (2 : Int32)), .val (.int p2), .val (.long l2), .second, .val (.double d2), .second, .val (.int p3), .val (.int (0 : Int32)), .val (.int (1 : Int32))] [(.int (1 : Int32)), (.ref s2), (.double zb)])) rfl rfl (hb hby d_p15_m20_58) _) ?_
  show Run p e below _ (T65.setTop (mkF m 59 #[.val (.ref a), .val (.int (0 : Int32)), .val (.int (2 : Int32)), .val (.int p2), .val (.long l2), .second, .val (.double d2), .second, .val (.int p3), .val (.int (0 : Int32)), .val (.int (1 : Int32))] [(.long jb), (.double zb)]))
  refine go (fun _ => XS.dload X65.here hx rfl (hb hby d_p15_m20_59) rfl) ?_
  show Run p e below _ (T65.setTop (mkF m 61 #[.val (.ref a), .val (.int (0 : Int32)), .val (.int (2 : Int32)), .val (.int p2), .val (.long l2), .second, .val (.double d2), .second, .val (.int p3), .val (.int (0 : Int32)), .val (.int (1 : Int32))] [(.double d2), (.long jb), (.double zb)]))
  refine go (fun _ => XS.lload X65.here hx rfl (hb hby d_p15_m20_61) rfl) ?_
  show Run p e below _ (T65.setTop (mkF m 63 #[.val (.ref a), .val (.int (0 : Int32)), .val (.int (2 : Int32)), .val (.int p2), .val (.long l2), .second, .val (.double d2), .second, .val (.int p3), .val (.int (0 : Int32)), .val (.int (1 : Int32))] [(.long l2), (.double d2), (.long jb), (.double zb)]))
  refine callSt X65 hx hZ hown (wd hw 73 rfl) (wd hw 74 rfl) (wd hw 52 rfl) (wd hw 75 rfl) (by decide) e65 (argsL := [(.double zb), (.long jb), (.double d2), (.long l2)]) (rest := []) (rm_bf l Z a0 hw [] d2 zb jb l2 (1 : Int32) h0 n0 O0 (Or.inr ⟨hc, rfl⟩)) (W := 0) (by decide) (by decide) (by decide) (by decide) (by rw [hml]; rfl) (lenOf pd_4 rfl) rfl (Nat.le_of_eq rfl) (hb hby d_p15_m20_63) ?_
  intro v67 T67 L67 h67 X67 e67 q67
  obtain ⟨rv, n67, k67⟩ := q67
  replace rv : v67 = some (.int (1 : Int32)) := rv
  subst rv
  have e67 := e67.trans k67
  have N67 := Fr.app N0 n67
  show Run p e below _ (T67.setTop (mkF m 66 #[.val (.ref a), .val (.int (0 : Int32)), .val (.int (2 : Int32)), .val (.int p2), .val (.long l2), .second, .val (.double d2), .second, .val (.int p3), .val (.int (0 : Int32)), .val (.int (1 : Int32))] [(.int (1 : Int32))]))
  refine go (fun _ => XS.ifYes X67.here hx rfl (pc0 := 66) (pc' := 72) rfl (hb hby d_p15_m20_66) rfl ((if0 _ _).trans (tlt (by decide : (0 : Int32) < 1)).2.2.1) (by decide) (by decide)) ?_
  show Run p e below _ (T67.setTop (mkF m 72 #[.val (.ref a), .val (.int (0 : Int32)), .val (.int (2 : Int32)), .val (.int p2), .val (.long l2), .second, .val (.double d2), .second, .val (.int p3), .val (.int (0 : Int32)), .val (.int (1 : Int32))] []))
  refine go (fun _ => XS.aloadN X67.here hx rfl (hb hby d_p15_m20_72) rfl rfl) ?_
  show Run p e below _ (T67.setTop (mkF m 73 #[.val (.ref a), .val (.int (0 : Int32)), .val (.int (2 : Int32)), .val (.int p2), .val (.long l2), .second, .val (.double d2), .second, .val (.int p3), .val (.int (0 : Int32)), .val (.int (1 : Int32))] [(.ref a)]))
  refine go (fun _ => XS.iload X67.here hx rfl (hb hby d_p15_m20_73) rfl) ?_
  show Run p e below _ (T67.setTop (mkF m 75 #[.val (.ref a), .val (.int (0 : Int32)), .val (.int (2 : Int32)), .val (.int p2), .val (.long l2), .second, .val (.double d2), .second, .val (.int p3), .val (.int (0 : Int32)), .val (.int (1 : Int32))] [(.int (0 : Int32)), (.ref a)]))
  refine go (fun _ => XS.iload X67.here hx rfl (hb hby d_p15_m20_75) rfl) ?_
  show Run p e below _ (T67.setTop (mkF m 77 #[.val (.ref a), .val (.int (0 : Int32)), .val (.int (2 : Int32)), .val (.int p2), .val (.long l2), .second, .val (.double d2), .second, .val (.int p3), .val (.int (0 : Int32)), .val (.int (1 : Int32))] [(.int (1 : Int32)), (.int (0 : Int32)), (.ref a)]))
  refine callPr X67 hx hZ hown (wd hw 104 rfl) (wd hw 106 rfl) (sel_priv (wd hw 1 rfl) (wd hw 106 rfl) (wd hw 105 rfl) (by decide)) (wd hw 105 rfl) (wd hw 107 rfl) (wd hw 2 rfl) (by decide) e67 E_a (argsL := [(.int (0 : Int32)), (.int (1 : Int32))]) (rest := []) (rm_put01 l Z a0 hw [] a lo al kw ct sz sd od hp s1 s2 s3 s4 ks1 ks2 ks3 ks4 xa xb ja jb za zb ra rb h0 n0 O0 E_a F_leftOut_a F_slots_a F_published_a F_scores_a F_shares_a F_alpha_a F_keywords_a F_count_a F_size_a F_scored_a F_ordered_a F_heap_a V_s1 V_s2 V_s3 V_s4 ne_s1_s2 ne_s1_s3 ne_s1_s4 ne_s2_s3 ne_s2_s4 ne_s3_s4 g_s1 g_s2 g_s3 g_s4 g_a ) (W := 0) (by decide) (by decide) (by decide) (by decide) (by rw [hml]; rfl) (lenOf pd_5 rfl) rfl (Nat.le_of_eq rfl) (hb hby d_p15_m20_77) ?_
  intro v68 T68 L68 h68 X68 e68 q68
  have ne_a_s1 : a ≠ s1 := Exa.neArv E_a V_s1 (wd hw 1 rfl)
  have ne_a_s2 : a ≠ s2 := Exa.neArv E_a V_s2 (wd hw 1 rfl)
  have ne_a_s3 : a ≠ s3 := Exa.neArv E_a V_s3 (wd hw 1 rfl)
  have ne_a_s4 : a ≠ s4 := Exa.neArv E_a V_s4 (wd hw 1 rfl)
  obtain ⟨rv, n68, K68, V_s1, V_s2, V_s3, V_s4⟩ := q68
  subst rv
  have O0 := O0.keep K68 (allS g_s1 (allS g_s2 (allS g_s3 (allS g_s4 all0))))
  have E_a := E_a.keep K68
  have F_leftOut_a := F_leftOut_a.keep K68 (ninS ne_a_s1 (ninS ne_a_s2 (ninS ne_a_s3 (ninS ne_a_s4 nin0))))
  have F_slots_a := F_slots_a.keep K68 (ninS ne_a_s1 (ninS ne_a_s2 (ninS ne_a_s3 (ninS ne_a_s4 nin0))))
  have F_published_a := F_published_a.keep K68 (ninS ne_a_s1 (ninS ne_a_s2 (ninS ne_a_s3 (ninS ne_a_s4 nin0))))
  have F_scores_a := F_scores_a.keep K68 (ninS ne_a_s1 (ninS ne_a_s2 (ninS ne_a_s3 (ninS ne_a_s4 nin0))))
  have F_shares_a := F_shares_a.keep K68 (ninS ne_a_s1 (ninS ne_a_s2 (ninS ne_a_s3 (ninS ne_a_s4 nin0))))
  have F_alpha_a := F_alpha_a.keep K68 (ninS ne_a_s1 (ninS ne_a_s2 (ninS ne_a_s3 (ninS ne_a_s4 nin0))))
  have F_keywords_a := F_keywords_a.keep K68 (ninS ne_a_s1 (ninS ne_a_s2 (ninS ne_a_s3 (ninS ne_a_s4 nin0))))
  have F_count_a := F_count_a.keep K68 (ninS ne_a_s1 (ninS ne_a_s2 (ninS ne_a_s3 (ninS ne_a_s4 nin0))))
  have F_size_a := F_size_a.keep K68 (ninS ne_a_s1 (ninS ne_a_s2 (ninS ne_a_s3 (ninS ne_a_s4 nin0))))
  have F_scored_a := F_scored_a.keep K68 (ninS ne_a_s1 (ninS ne_a_s2 (ninS ne_a_s3 (ninS ne_a_s4 nin0))))
  have F_ordered_a := F_ordered_a.keep K68 (ninS ne_a_s1 (ninS ne_a_s2 (ninS ne_a_s3 (ninS ne_a_s4 nin0))))
  have F_heap_a := F_heap_a.keep K68 (ninS ne_a_s1 (ninS ne_a_s2 (ninS ne_a_s3 (ninS ne_a_s4 nin0))))
  have K0 := K0.trans K68 (allS (Or.inl (by simp)) (allS (Or.inl (by simp)) (allS (Or.inl (by simp)) (allS (Or.inl (by simp)) all0))))
  have N68 := Fr.app N67 n68
  show Run p e below _ (T68.setTop (mkF m 80 #[.val (.ref a), .val (.int (0 : Int32)), .val (.int (2 : Int32)), .val (.int p2), .val (.long l2), .second, .val (.double d2), .second, .val (.int p3), .val (.int (0 : Int32)), .val (.int (1 : Int32))] []))
  refine go (fun _ => XS.iload X68.here hx rfl (hb hby d_p15_m20_80) rfl) ?_
  show Run p e below _ (T68.setTop (mkF m 82 #[.val (.ref a), .val (.int (0 : Int32)), .val (.int (2 : Int32)), .val (.int p2), .val (.long l2), .second, .val (.double d2), .second, .val (.int p3), .val (.int (0 : Int32)), .val (.int (1 : Int32))] [(.int (1 : Int32))]))
  refine go (fun _ => XS.istore X68.here hx rfl (hb hby d_p15_m20_82) rfl (l' := #[.val (.ref a), .val (.int (0 : Int32)), .val (.int (2 : Int32)), .val (.int p2), .val (.long l2), .second, .val (.double d2), .second, .val (.int p3), .val (.int (1 : Int32)), .val (.int (1 : Int32))]) rfl) ?_
  show Run p e below _ (T68.setTop (mkF m 84 #[.val (.ref a), .val (.int (0 : Int32)), .val (.int (2 : Int32)), .val (.int p2), .val (.long l2), .second, .val (.double d2), .second, .val (.int p3), .val (.int (1 : Int32)), .val (.int (1 : Int32))] []))
  refine go (fun _ => XS.goto X68.here hx rfl (pc0 := 84) (pc' := 3) rfl (hb hby d_p15_m20_84) (by decide) (by decide)) ?_
  show Run p e below _ (T68.setTop (mkF m 3 #[.val (.ref a), .val (.int (0 : Int32)), .val (.int (2 : Int32)), .val (.int p2), .val (.long l2), .second, .val (.double d2), .second, .val (.int p3), .val (.int (1 : Int32)), .val (.int (1 : Int32))] []))
  refine go (fun _ => XS.iconst X68.here hx rfl (hb hby d_p15_m20_3)) ?_
  show Run p e below _ (T68.setTop (mkF m 4 #[.val (.ref a), .val (.int (0 : Int32)), .val (.int (2 : Int32)), .val (.int p2), .val (.long l2), .second, .val (.double d2), .second, .val (.int p3), .val (.int (1 : Int32)), .val (.int (1 : Int32))] [(.int (2 : Int32))]))
  refine go (fun _ => XS.iload X68.here hx rfl (hb hby d_p15_m20_4) rfl) ?_
  show Run p e below _ (T68.setTop (mkF m 6 #[.val (.ref a), .val (.int (0 : Int32)), .val (.int (2 : Int32)), .val (.int p2), .val (.long l2), .second, .val (.double d2), .second, .val (.int p3), .val (.int (1 : Int32)), .val (.int (1 : Int32))] [(.int (1 : Int32)), (.int (2 : Int32))]))
  refine go (fun _ => XS.imul X68.here hx rfl (hb hby d_p15_m20_6) rfl) ?_
  show Run p e below _ (T68.setTop (mkF m 7 #[.val (.ref a), .val (.int (0 : Int32)), .val (.int (2 : Int32)), .val (.int p2), .val (.long l2), .second, .val (.double d2), .second, .val (.int p3), .val (.int (1 : Int32)), .val (.int (1 : Int32))] [(.int (2 : Int32))]))
  refine go (fun _ => XS.iconst X68.here hx rfl (hb hby d_p15_m20_7)) ?_
  show Run p e below _ (T68.setTop (mkF m 8 #[.val (.ref a), .val (.int (0 : Int32)), .val (.int (2 : Int32)), .val (.int p2), .val (.long l2), .second, .val (.double d2), .second, .val (.int p3), .val (.int (1 : Int32)), .val (.int (1 : Int32))] [(.int (1 : Int32)), (.int (2 : Int32))]))
  refine go (fun _ => XS.iadd X68.here hx rfl (hb hby d_p15_m20_8) rfl) ?_
  show Run p e below _ (T68.setTop (mkF m 9 #[.val (.ref a), .val (.int (0 : Int32)), .val (.int (2 : Int32)), .val (.int p2), .val (.long l2), .second, .val (.double d2), .second, .val (.int p3), .val (.int (1 : Int32)), .val (.int (1 : Int32))] [(.int (3 : Int32))]))
  refine go (fun _ => XS.iloadN X68.here hx rfl (hb hby d_p15_m20_9) rfl) ?_
  show Run p e below _ (T68.setTop (mkF m 10 #[.val (.ref a), .val (.int (0 : Int32)), .val (.int (2 : Int32)), .val (.int p2), .val (.long l2), .second, .val (.double d2), .second, .val (.int p3), .val (.int (1 : Int32)), .val (.int (1 : Int32))] [(.int (2 : Int32)), (.int (3 : Int32))]))
  refine go (fun _ => XS.icmpYes X68.here hx rfl (pc0 := 10) (pc' := 87) rfl (hb hby d_p15_m20_10) rfl (flt (by decide : ¬ ((3 : Int32) < 2))).2.1 (by decide) (by decide)) ?_
  show Run p e below _ (T68.setTop (mkF m 87 #[.val (.ref a), .val (.int (0 : Int32)), .val (.int (2 : Int32)), .val (.int p2), .val (.long l2), .second, .val (.double d2), .second, .val (.int p3), .val (.int (1 : Int32)), .val (.int (1 : Int32))] []))
  refine go (fun _ => XS.aloadN X68.here hx rfl (hb hby d_p15_m20_87) rfl rfl) ?_
  show Run p e below _ (T68.setTop (mkF m 88 #[.val (.ref a), .val (.int (0 : Int32)), .val (.int (2 : Int32)), .val (.int p2), .val (.long l2), .second, .val (.double d2), .second, .val (.int p3), .val (.int (1 : Int32)), .val (.int (1 : Int32))] [(.ref a)]))
  refine go (fun _ => XS.iload X68.here hx rfl (hb hby d_p15_m20_88) rfl) ?_
  show Run p e below _ (T68.setTop (mkF m 90 #[.val (.ref a), .val (.int (0 : Int32)), .val (.int (2 : Int32)), .val (.int p2), .val (.long l2), .second, .val (.double d2), .second, .val (.int p3), .val (.int (1 : Int32)), .val (.int (1 : Int32))] [(.int (1 : Int32)), (.ref a)]))
  refine go (fun _ => XS.iloadN X68.here hx rfl (hb hby d_p15_m20_90) rfl) ?_
  show Run p e below _ (T68.setTop (mkF m 91 #[.val (.ref a), .val (.int (0 : Int32)), .val (.int (2 : Int32)), .val (.int p2), .val (.long l2), .second, .val (.double d2), .second, .val (.int p3), .val (.int (1 : Int32)), .val (.int (1 : Int32))] [(.int p2), (.int (1 : Int32)), (.ref a)]))
  refine go (fun _ => XS.lload X68.here hx rfl (hb hby d_p15_m20_91) rfl) ?_
  show Run p e below _ (T68.setTop (mkF m 93 #[.val (.ref a), .val (.int (0 : Int32)), .val (.int (2 : Int32)), .val (.int p2), .val (.long l2), .second, .val (.double d2), .second, .val (.int p3), .val (.int (1 : Int32)), .val (.int (1 : Int32))] [(.long l2), (.int p2), (.int (1 : Int32)), (.ref a)]))
  refine go (fun _ => XS.dload X68.here hx rfl (hb hby d_p15_m20_93) rfl) ?_
  show Run p e below _ (T68.setTop (mkF m 95 #[.val (.ref a), .val (.int (0 : Int32)), .val (.int (2 : Int32)), .val (.int p2), .val (.long l2), .second, .val (.double d2), .second, .val (.int p3), .val (.int (1 : Int32)), .val (.int (1 : Int32))] [(.double d2), (.long l2), (.int p2), (.int (1 : Int32)), (.ref a)]))
  refine go (fun _ => XS.iload X68.here hx rfl (hb hby d_p15_m20_95) rfl) ?_
  show Run p e below _ (T68.setTop (mkF m 97 #[.val (.ref a), .val (.int (0 : Int32)), .val (.int (2 : Int32)), .val (.int p2), .val (.long l2), .second, .val (.double d2), .second, .val (.int p3), .val (.int (1 : Int32)), .val (.int (1 : Int32))] [(.int p3), (.double d2), (.long l2), (.int p2), (.int (1 : Int32)), (.ref a)]))
  refine callPr X68 hx hZ hown (wd hw 64 rfl) (wd hw 66 rfl) (sel_priv (wd hw 1 rfl) (wd hw 66 rfl) (wd hw 65 rfl) (by decide)) (wd hw 65 rfl) (wd hw 67 rfl) (wd hw 2 rfl) (by decide) e68 E_a (argsL := [(.int (1 : Int32)), (.int p2), (.long l2), (.double d2), (.int p3)]) (rest := []) (rm_set1 l Z a0 hw [] a lo al kw ct sz sd od hp s1 s2 s3 s4 ks1 ks2 ks3 ks4 xb xb jb jb zb zb (nar .char rb) rb p2 l2 d2 p3 h68 n0 O0 E_a F_leftOut_a F_slots_a F_published_a F_scores_a F_shares_a F_alpha_a F_keywords_a F_count_a F_size_a F_scored_a F_ordered_a F_heap_a V_s1 V_s2 V_s3 V_s4 ne_s1_s2 ne_s1_s3 ne_s1_s4 ne_s2_s3 ne_s2_s4 ne_s3_s4 g_s1 g_s2 g_s3 g_s4 g_a ) (W := 0) (by decide) (by decide) (by decide) (by decide) (by rw [hml]; rfl) (lenOf pd_6 rfl) rfl (Nat.le_of_eq rfl) (hb hby d_p15_m20_97) ?_
  intro v69 T69 L69 h69 X69 e69 q69
  obtain ⟨rv, n69, K69, V_s1, V_s2, V_s3, V_s4⟩ := q69
  subst rv
  have O0 := O0.keep K69 (allS g_s1 (allS g_s2 (allS g_s3 (allS g_s4 all0))))
  have E_a := E_a.keep K69
  have F_leftOut_a := F_leftOut_a.keep K69 (ninS ne_a_s1 (ninS ne_a_s2 (ninS ne_a_s3 (ninS ne_a_s4 nin0))))
  have F_slots_a := F_slots_a.keep K69 (ninS ne_a_s1 (ninS ne_a_s2 (ninS ne_a_s3 (ninS ne_a_s4 nin0))))
  have F_published_a := F_published_a.keep K69 (ninS ne_a_s1 (ninS ne_a_s2 (ninS ne_a_s3 (ninS ne_a_s4 nin0))))
  have F_scores_a := F_scores_a.keep K69 (ninS ne_a_s1 (ninS ne_a_s2 (ninS ne_a_s3 (ninS ne_a_s4 nin0))))
  have F_shares_a := F_shares_a.keep K69 (ninS ne_a_s1 (ninS ne_a_s2 (ninS ne_a_s3 (ninS ne_a_s4 nin0))))
  have F_alpha_a := F_alpha_a.keep K69 (ninS ne_a_s1 (ninS ne_a_s2 (ninS ne_a_s3 (ninS ne_a_s4 nin0))))
  have F_keywords_a := F_keywords_a.keep K69 (ninS ne_a_s1 (ninS ne_a_s2 (ninS ne_a_s3 (ninS ne_a_s4 nin0))))
  have F_count_a := F_count_a.keep K69 (ninS ne_a_s1 (ninS ne_a_s2 (ninS ne_a_s3 (ninS ne_a_s4 nin0))))
  have F_size_a := F_size_a.keep K69 (ninS ne_a_s1 (ninS ne_a_s2 (ninS ne_a_s3 (ninS ne_a_s4 nin0))))
  have F_scored_a := F_scored_a.keep K69 (ninS ne_a_s1 (ninS ne_a_s2 (ninS ne_a_s3 (ninS ne_a_s4 nin0))))
  have F_ordered_a := F_ordered_a.keep K69 (ninS ne_a_s1 (ninS ne_a_s2 (ninS ne_a_s3 (ninS ne_a_s4 nin0))))
  have F_heap_a := F_heap_a.keep K69 (ninS ne_a_s1 (ninS ne_a_s2 (ninS ne_a_s3 (ninS ne_a_s4 nin0))))
  have K0 := K0.trans K69 (allS (Or.inl (by simp)) (allS (Or.inl (by simp)) (allS (Or.inl (by simp)) (allS (Or.inl (by simp)) all0))))
  have N69 := Fr.app N68 n69
  show Run p e below _ (T69.setTop (mkF m 100 #[.val (.ref a), .val (.int (0 : Int32)), .val (.int (2 : Int32)), .val (.int p2), .val (.long l2), .second, .val (.double d2), .second, .val (.int p3), .val (.int (1 : Int32)), .val (.int (1 : Int32))] []))
  exact endV X69 hx hlk hret (hb hby d_p15_m20_100) (by rw [e69]; exact ⟨rfl, N69, K0, V_s1, V_s2, V_s3, V_s4⟩) (by decide) (by decide)
def Q_rm_sd1 (Z : State) (a : Addr) (lo al : UInt64) (kw ct sz : Int32) (sd : Int64) (od hp : Int32) (s1 s2 s3 s4 : Addr) (ks1 ks2 ks3 ks4 : ClassId) (xa xb : Int32) (ja jb : Int64) (za zb : UInt64) (ra rb : Int32) (p2 : Int32) (l2 : Int64) (d2 : UInt64) (p3 : Int32) (h0 : Heap) (n0 : Nat) (v : Option Value) (h : Heap) (L : List Loc) : Prop := v = none ∧ Fr n0 L ∧ Keep h0 h [s1, s2, s3, s4] ∧ Arv Z h s1 ks1 .int (16 : Int32) [(.int p2), (.int xb), (.int (0 : Int32)), (.int (0 : Int32)), (.int (0 : Int32)), (.int (0 : Int32)), (.int (0 : Int32)), (.int (0 : Int32)), (.int (0 : Int32)), (.int (0 : Int32)), (.int (0 : Int32)), (.int (0 : Int32)), (.int (0 : Int32)), (.int (0 : Int32)), (.int (0 : Int32)), (.int (0 : Int32))] (.int (0 : Int32)) ∧ Arv Z h s2 ks2 .long (16 : Int32) [(.long l2), (.long jb), (.long (0 : Int64)), (.long (0 : Int64)), (.long (0 : Int64)), (.long (0 : Int64)), (.long (0 : Int64)), (.long (0 : Int64)), (.long (0 : Int64)), (.long (0 : Int64)), (.long (0 : Int64)), (.long (0 : Int64)), (.long (0 : Int64)), (.long (0 : Int64)), (.long (0 : Int64)), (.long (0 : Int64))] (.long (0 : Int64)) ∧ Arv Z h s3 ks3 .double (16 : Int32) [(.double d2), (.double zb), (.double (0 : UInt64)), (.double (0 : UInt64)), (.double (0 : UInt64)), (.double (0 : UInt64)), (.double (0 : UInt64)), (.double (0 : UInt64)), (.double (0 : UInt64)), (.double (0 : UInt64)), (.double (0 : UInt64)), (.double (0 : UInt64)), (.double (0 : UInt64)), (.double (0 : UInt64)), (.double (0 : UInt64)), (.double (0 : UInt64))] (.double (0 : UInt64)) ∧ Arv Z h s4 ks4 .char (16 : Int32) [(.int (nar .char p3)), (.int rb), (.int (0 : Int32)), (.int (0 : Int32)), (.int (0 : Int32)), (.int (0 : Int32)), (.int (0 : Int32)), (.int (0 : Int32)), (.int (0 : Int32)), (.int (0 : Int32)), (.int (0 : Int32)), (.int (0 : Int32)), (.int (0 : Int32)), (.int (0 : Int32)), (.int (0 : Int32)), (.int (0 : Int32))] (.int (0 : Int32))
set_option maxRecDepth 65536 in
set_option maxHeartbeats 40000000 in
theorem rm_sd1 (l : Launch) (Z : State) (a0 : Array Value) (hw : ∀ d ∈ tables_1, d.before a0 Z = true) (ws : List Jvm.Cond) (a : Addr) (lo al : UInt64) (kw ct sz : Int32) (sd : Int64) (od hp : Int32) (s1 s2 s3 s4 : Addr) (ks1 ks2 ks3 ks4 : ClassId) (xa xb : Int32) (ja jb : Int64) (za zb : UInt64) (ra rb : Int32) (p2 : Int32) (l2 : Int64) (d2 : UInt64) (p3 : Int32) (h0 : Heap) (n0 : Nat) (O0 : Old Z n0 h0) (E_a : Exa Z h0 a "nearcast/engine/Best") (F_leftOut_a : Fld Z h0 a "nearcast/engine/Best" "leftOut" "D" (.double lo)) (F_slots_a : Fld Z h0 a "nearcast/engine/Best" "slots" "[I" (.ref s1)) (F_published_a : Fld Z h0 a "nearcast/engine/Best" "published" "[J" (.ref s2)) (F_scores_a : Fld Z h0 a "nearcast/engine/Best" "scores" "[D" (.ref s3)) (F_shares_a : Fld Z h0 a "nearcast/engine/Best" "shares" "[C" (.ref s4)) (F_alpha_a : Fld Z h0 a "nearcast/engine/Best" "alpha" "D" (.double al)) (F_keywords_a : Fld Z h0 a "nearcast/engine/Best" "keywords" "I" (.int kw)) (F_count_a : Fld Z h0 a "nearcast/engine/Best" "count" "I" (.int ct)) (F_size_a : Fld Z h0 a "nearcast/engine/Best" "size" "I" (.int sz)) (F_scored_a : Fld Z h0 a "nearcast/engine/Best" "scored" "J" (.long sd)) (F_ordered_a : Fld Z h0 a "nearcast/engine/Best" "ordered" "Z" (.int od)) (F_heap_a : Fld Z h0 a "nearcast/engine/Best" "heap" "Z" (.int hp)) (V_s1 : Arv Z h0 s1 ks1 .int (16 : Int32) [(.int xa), (.int xb), (.int (0 : Int32)), (.int (0 : Int32)), (.int (0 : Int32)), (.int (0 : Int32)), (.int (0 : Int32)), (.int (0 : Int32)), (.int (0 : Int32)), (.int (0 : Int32)), (.int (0 : Int32)), (.int (0 : Int32)), (.int (0 : Int32)), (.int (0 : Int32)), (.int (0 : Int32)), (.int (0 : Int32))] (.int (0 : Int32))) (V_s2 : Arv Z h0 s2 ks2 .long (16 : Int32) [(.long ja), (.long jb), (.long (0 : Int64)), (.long (0 : Int64)), (.long (0 : Int64)), (.long (0 : Int64)), (.long (0 : Int64)), (.long (0 : Int64)), (.long (0 : Int64)), (.long (0 : Int64)), (.long (0 : Int64)), (.long (0 : Int64)), (.long (0 : Int64)), (.long (0 : Int64)), (.long (0 : Int64)), (.long (0 : Int64))] (.long (0 : Int64))) (V_s3 : Arv Z h0 s3 ks3 .double (16 : Int32) [(.double za), (.double zb), (.double (0 : UInt64)), (.double (0 : UInt64)), (.double (0 : UInt64)), (.double (0 : UInt64)), (.double (0 : UInt64)), (.double (0 : UInt64)), (.double (0 : UInt64)), (.double (0 : UInt64)), (.double (0 : UInt64)), (.double (0 : UInt64)), (.double (0 : UInt64)), (.double (0 : UInt64)), (.double (0 : UInt64)), (.double (0 : UInt64))] (.double (0 : UInt64))) (V_s4 : Arv Z h0 s4 ks4 .char (16 : Int32) [(.int ra), (.int rb), (.int (0 : Int32)), (.int (0 : Int32)), (.int (0 : Int32)), (.int (0 : Int32)), (.int (0 : Int32)), (.int (0 : Int32)), (.int (0 : Int32)), (.int (0 : Int32)), (.int (0 : Int32)), (.int (0 : Int32)), (.int (0 : Int32)), (.int (0 : Int32)), (.int (0 : Int32)), (.int (0 : Int32))] (.int (0 : Int32))) (ne_s1_s2 : s1 ≠ s2) (ne_s1_s3 : s1 ≠ s3) (ne_s1_s4 : s1 ≠ s4) (ne_s2_s3 : s2 ≠ s3) (ne_s2_s4 : s2 ≠ s4) (ne_s3_s4 : s3 ≠ s4) (g_s1 : n0 ≤ s1) (g_s2 : n0 ≤ s2) (g_s3 : n0 ≤ s3) (g_s4 : n0 ≤ s4) (g_a : n0 ≤ a)  :
    Meets l (⟨"nearcast/engine/Best", "siftDown", "(IIIJDC)V"⟩ : MethodName) prog_15_method_20_code 11 none ws ({ frames := 1, cells := 0, slots := 0, locals := 19 } : Room) Z #[(.ref a), (.int (0 : Int32)), (.int (1 : Int32)), (.int p2), (.long l2), (.double d2), (.int p3)] h0 (Q_rm_sd1 Z a lo al kw ct sz sd od hp s1 s2 s3 s4 ks1 ks2 ks3 ks4 xa xb ja jb za zb ra rb p2 l2 d2 p3 h0 n0) 0 0 := by
  refine enter (Ls := #[.val (.ref a), .val (.int (0 : Int32)), .val (.int (1 : Int32)), .val (.int p2), .val (.long l2), .second, .val (.double d2), .second, .val (.int p3), .unset, .unset]) (plainFor_of_name pn_3) (fun m => by first | (simp [entryFrame, mkF, argsToLocals, Value.category]; done) | rfl) ?_
  intro p e s m below meth c T0 hx hby hml hown hnm hret hlk hZ X0 e0
  have N0 := Fr.nil n0
  replace hown : s.vm.findClass "nearcast/engine/Best" = some m.cls := hown
  show Run p e below _ (T0.setTop (mkF m 0 #[.val (.ref a), .val (.int (0 : Int32)), .val (.int (1 : Int32)), .val (.int p2), .val (.long l2), .second, .val (.double d2), .second, .val (.int p3), .unset, .unset] []))
  have K0 := Keep.refl h0 [s1, s2, s3, s4]
  refine go (fun _ => XS.iloadN X0.here hx rfl (hb hby d_p15_m20_0) rfl) ?_
  show Run p e below _ (T0.setTop (mkF m 1 #[.val (.ref a), .val (.int (0 : Int32)), .val (.int (1 : Int32)), .val (.int p2), .val (.long l2), .second, .val (.double d2), .second, .val (.int p3), .unset, .unset] [(.int (0 : Int32))]))
  refine go (fun _ => XS.istore X0.here hx rfl (hb hby d_p15_m20_1) rfl (l' := #[.val (.ref a), .val (.int (0 : Int32)), .val (.int (1 : Int32)), .val (.int p2), .val (.long l2), .second, .val (.double d2), .second, .val (.int p3), .val (.int (0 : Int32)), .unset]) rfl) ?_
  show Run p e below _ (T0.setTop (mkF m 3 #[.val (.ref a), .val (.int (0 : Int32)), .val (.int (1 : Int32)), .val (.int p2), .val (.long l2), .second, .val (.double d2), .second, .val (.int p3), .val (.int (0 : Int32)), .unset] []))
  refine go (fun _ => XS.iconst X0.here hx rfl (hb hby d_p15_m20_3)) ?_
  show Run p e below _ (T0.setTop (mkF m 4 #[.val (.ref a), .val (.int (0 : Int32)), .val (.int (1 : Int32)), .val (.int p2), .val (.long l2), .second, .val (.double d2), .second, .val (.int p3), .val (.int (0 : Int32)), .unset] [(.int (2 : Int32))]))
  refine go (fun _ => XS.iload X0.here hx rfl (hb hby d_p15_m20_4) rfl) ?_
  show Run p e below _ (T0.setTop (mkF m 6 #[.val (.ref a), .val (.int (0 : Int32)), .val (.int (1 : Int32)), .val (.int p2), .val (.long l2), .second, .val (.double d2), .second, .val (.int p3), .val (.int (0 : Int32)), .unset] [(.int (0 : Int32)), (.int (2 : Int32))]))
  refine go (fun _ => XS.imul X0.here hx rfl (hb hby d_p15_m20_6) rfl) ?_
  show Run p e below _ (T0.setTop (mkF m 7 #[.val (.ref a), .val (.int (0 : Int32)), .val (.int (1 : Int32)), .val (.int p2), .val (.long l2), .second, .val (.double d2), .second, .val (.int p3), .val (.int (0 : Int32)), .unset] [(.int (0 : Int32))]))
  refine go (fun _ => XS.iconst X0.here hx rfl (hb hby d_p15_m20_7)) ?_
  show Run p e below _ (T0.setTop (mkF m 8 #[.val (.ref a), .val (.int (0 : Int32)), .val (.int (1 : Int32)), .val (.int p2), .val (.long l2), .second, .val (.double d2), .second, .val (.int p3), .val (.int (0 : Int32)), .unset] [(.int (1 : Int32)), (.int (0 : Int32))]))
  refine go (fun _ => XS.iadd X0.here hx rfl (hb hby d_p15_m20_8) rfl) ?_
  show Run p e below _ (T0.setTop (mkF m 9 #[.val (.ref a), .val (.int (0 : Int32)), .val (.int (1 : Int32)), .val (.int p2), .val (.long l2), .second, .val (.double d2), .second, .val (.int p3), .val (.int (0 : Int32)), .unset] [(.int (1 : Int32))]))
  refine go (fun _ => XS.iloadN X0.here hx rfl (hb hby d_p15_m20_9) rfl) ?_
  show Run p e below _ (T0.setTop (mkF m 10 #[.val (.ref a), .val (.int (0 : Int32)), .val (.int (1 : Int32)), .val (.int p2), .val (.long l2), .second, .val (.double d2), .second, .val (.int p3), .val (.int (0 : Int32)), .unset] [(.int (1 : Int32)), (.int (1 : Int32))]))
  refine go (fun _ => XS.icmpYes X0.here hx rfl (pc0 := 10) (pc' := 87) rfl (hb hby d_p15_m20_10) rfl (flt (by decide : ¬ ((1 : Int32) < 1))).2.1 (by decide) (by decide)) ?_
  show Run p e below _ (T0.setTop (mkF m 87 #[.val (.ref a), .val (.int (0 : Int32)), .val (.int (1 : Int32)), .val (.int p2), .val (.long l2), .second, .val (.double d2), .second, .val (.int p3), .val (.int (0 : Int32)), .unset] []))
  refine go (fun _ => XS.aloadN X0.here hx rfl (hb hby d_p15_m20_87) rfl rfl) ?_
  show Run p e below _ (T0.setTop (mkF m 88 #[.val (.ref a), .val (.int (0 : Int32)), .val (.int (1 : Int32)), .val (.int p2), .val (.long l2), .second, .val (.double d2), .second, .val (.int p3), .val (.int (0 : Int32)), .unset] [(.ref a)]))
  refine go (fun _ => XS.iload X0.here hx rfl (hb hby d_p15_m20_88) rfl) ?_
  show Run p e below _ (T0.setTop (mkF m 90 #[.val (.ref a), .val (.int (0 : Int32)), .val (.int (1 : Int32)), .val (.int p2), .val (.long l2), .second, .val (.double d2), .second, .val (.int p3), .val (.int (0 : Int32)), .unset] [(.int (0 : Int32)), (.ref a)]))
  refine go (fun _ => XS.iloadN X0.here hx rfl (hb hby d_p15_m20_90) rfl) ?_
  show Run p e below _ (T0.setTop (mkF m 91 #[.val (.ref a), .val (.int (0 : Int32)), .val (.int (1 : Int32)), .val (.int p2), .val (.long l2), .second, .val (.double d2), .second, .val (.int p3), .val (.int (0 : Int32)), .unset] [(.int p2), (.int (0 : Int32)), (.ref a)]))
  refine go (fun _ => XS.lload X0.here hx rfl (hb hby d_p15_m20_91) rfl) ?_
  show Run p e below _ (T0.setTop (mkF m 93 #[.val (.ref a), .val (.int (0 : Int32)), .val (.int (1 : Int32)), .val (.int p2), .val (.long l2), .second, .val (.double d2), .second, .val (.int p3), .val (.int (0 : Int32)), .unset] [(.long l2), (.int p2), (.int (0 : Int32)), (.ref a)]))
  refine go (fun _ => XS.dload X0.here hx rfl (hb hby d_p15_m20_93) rfl) ?_
  show Run p e below _ (T0.setTop (mkF m 95 #[.val (.ref a), .val (.int (0 : Int32)), .val (.int (1 : Int32)), .val (.int p2), .val (.long l2), .second, .val (.double d2), .second, .val (.int p3), .val (.int (0 : Int32)), .unset] [(.double d2), (.long l2), (.int p2), (.int (0 : Int32)), (.ref a)]))
  refine go (fun _ => XS.iload X0.here hx rfl (hb hby d_p15_m20_95) rfl) ?_
  show Run p e below _ (T0.setTop (mkF m 97 #[.val (.ref a), .val (.int (0 : Int32)), .val (.int (1 : Int32)), .val (.int p2), .val (.long l2), .second, .val (.double d2), .second, .val (.int p3), .val (.int (0 : Int32)), .unset] [(.int p3), (.double d2), (.long l2), (.int p2), (.int (0 : Int32)), (.ref a)]))
  refine callPr X0 hx hZ hown (wd hw 64 rfl) (wd hw 66 rfl) (sel_priv (wd hw 1 rfl) (wd hw 66 rfl) (wd hw 65 rfl) (by decide)) (wd hw 65 rfl) (wd hw 67 rfl) (wd hw 2 rfl) (by decide) e0 E_a (argsL := [(.int (0 : Int32)), (.int p2), (.long l2), (.double d2), (.int p3)]) (rest := []) (rm_set0 l Z a0 hw [] a lo al kw ct sz sd od hp s1 s2 s3 s4 ks1 ks2 ks3 ks4 xa xb ja jb za zb ra rb p2 l2 d2 p3 h0 n0 O0 E_a F_leftOut_a F_slots_a F_published_a F_scores_a F_shares_a F_alpha_a F_keywords_a F_count_a F_size_a F_scored_a F_ordered_a F_heap_a V_s1 V_s2 V_s3 V_s4 ne_s1_s2 ne_s1_s3 ne_s1_s4 ne_s2_s3 ne_s2_s4 ne_s3_s4 g_s1 g_s2 g_s3 g_s4 g_a ) (W := 0) (by decide) (by decide) (by decide) (by decide) (by rw [hml]; rfl) (lenOf pd_6 rfl) rfl (Nat.le_of_eq rfl) (hb hby d_p15_m20_97) ?_
  intro v70 T70 L70 h70 X70 e70 q70
  have ne_a_s1 : a ≠ s1 := Exa.neArv E_a V_s1 (wd hw 1 rfl)
  have ne_a_s2 : a ≠ s2 := Exa.neArv E_a V_s2 (wd hw 1 rfl)
  have ne_a_s3 : a ≠ s3 := Exa.neArv E_a V_s3 (wd hw 1 rfl)
  have ne_a_s4 : a ≠ s4 := Exa.neArv E_a V_s4 (wd hw 1 rfl)
  obtain ⟨rv, n70, K70, V_s1, V_s2, V_s3, V_s4⟩ := q70
  subst rv
  have O0 := O0.keep K70 (allS g_s1 (allS g_s2 (allS g_s3 (allS g_s4 all0))))
  have E_a := E_a.keep K70
  have F_leftOut_a := F_leftOut_a.keep K70 (ninS ne_a_s1 (ninS ne_a_s2 (ninS ne_a_s3 (ninS ne_a_s4 nin0))))
  have F_slots_a := F_slots_a.keep K70 (ninS ne_a_s1 (ninS ne_a_s2 (ninS ne_a_s3 (ninS ne_a_s4 nin0))))
  have F_published_a := F_published_a.keep K70 (ninS ne_a_s1 (ninS ne_a_s2 (ninS ne_a_s3 (ninS ne_a_s4 nin0))))
  have F_scores_a := F_scores_a.keep K70 (ninS ne_a_s1 (ninS ne_a_s2 (ninS ne_a_s3 (ninS ne_a_s4 nin0))))
  have F_shares_a := F_shares_a.keep K70 (ninS ne_a_s1 (ninS ne_a_s2 (ninS ne_a_s3 (ninS ne_a_s4 nin0))))
  have F_alpha_a := F_alpha_a.keep K70 (ninS ne_a_s1 (ninS ne_a_s2 (ninS ne_a_s3 (ninS ne_a_s4 nin0))))
  have F_keywords_a := F_keywords_a.keep K70 (ninS ne_a_s1 (ninS ne_a_s2 (ninS ne_a_s3 (ninS ne_a_s4 nin0))))
  have F_count_a := F_count_a.keep K70 (ninS ne_a_s1 (ninS ne_a_s2 (ninS ne_a_s3 (ninS ne_a_s4 nin0))))
  have F_size_a := F_size_a.keep K70 (ninS ne_a_s1 (ninS ne_a_s2 (ninS ne_a_s3 (ninS ne_a_s4 nin0))))
  have F_scored_a := F_scored_a.keep K70 (ninS ne_a_s1 (ninS ne_a_s2 (ninS ne_a_s3 (ninS ne_a_s4 nin0))))
  have F_ordered_a := F_ordered_a.keep K70 (ninS ne_a_s1 (ninS ne_a_s2 (ninS ne_a_s3 (ninS ne_a_s4 nin0))))
  have F_heap_a := F_heap_a.keep K70 (ninS ne_a_s1 (ninS ne_a_s2 (ninS ne_a_s3 (ninS ne_a_s4 nin0))))
  have K0 := K0.trans K70 (allS (Or.inl (by simp)) (allS (Or.inl (by simp)) (allS (Or.inl (by simp)) (allS (Or.inl (by simp)) all0))))
  have N70 := Fr.app N0 n70
  show Run p e below _ (T70.setTop (mkF m 100 #[.val (.ref a), .val (.int (0 : Int32)), .val (.int (1 : Int32)), .val (.int p2), .val (.long l2), .second, .val (.double d2), .second, .val (.int p3), .val (.int (0 : Int32)), .unset] []))
  exact endV X70 hx hlk hret (hb hby d_p15_m20_100) (by rw [e70]; exact ⟨rfl, N70, K0, V_s1, V_s2, V_s3, V_s4⟩) (by decide) (by decide)
theorem d_p15_m19_0 : decode prog_15_method_19_code 0 = .ok (.aload_n 0, 1) := by decide +kernel
theorem d_p15_m19_1 : decode prog_15_method_19_code 1 = .ok (.getfield 59, 3) := by decide +kernel
theorem d_p15_m19_4 : decode prog_15_method_19_code 4 = .ok (.ifCond .ne 60, 3) := by decide +kernel
theorem d_p15_m19_7 : decode prog_15_method_19_code 7 = .ok (.aload_n 0, 1) := by decide +kernel
theorem d_p15_m19_8 : decode prog_15_method_19_code 8 = .ok (.getfield 48, 3) := by decide +kernel
theorem d_p15_m19_11 : decode prog_15_method_19_code 11 = .ok (.iconst 2, 1) := by decide +kernel
theorem d_p15_m19_12 : decode prog_15_method_19_code 12 = .ok (.idiv, 1) := by decide +kernel
theorem d_p15_m19_13 : decode prog_15_method_19_code 13 = .ok (.iconst 1, 1) := by decide +kernel
theorem d_p15_m19_14 : decode prog_15_method_19_code 14 = .ok (.isub, 1) := by decide +kernel
theorem d_p15_m19_15 : decode prog_15_method_19_code 15 = .ok (.istore_n 1, 1) := by decide +kernel
theorem d_p15_m19_16 : decode prog_15_method_19_code 16 = .ok (.iload_n 1, 1) := by decide +kernel
theorem d_p15_m19_17 : decode prog_15_method_19_code 17 = .ok (.ifCond .lt 42, 3) := by decide +kernel
theorem d_p15_m19_59 : decode prog_15_method_19_code 59 = .ok (.aload_n 0, 1) := by decide +kernel
theorem d_p15_m19_60 : decode prog_15_method_19_code 60 = .ok (.iconst 1, 1) := by decide +kernel
theorem d_p15_m19_61 : decode prog_15_method_19_code 61 = .ok (.putfield 59, 3) := by decide +kernel
theorem d_p15_m19_64 : decode prog_15_method_19_code 64 = .ok (.aload_n 0, 1) := by decide +kernel
theorem d_p15_m19_65 : decode prog_15_method_19_code 65 = .ok (.getfield 30, 3) := by decide +kernel
theorem d_p15_m19_68 : decode prog_15_method_19_code 68 = .ok (.iconst 0, 1) := by decide +kernel
theorem d_p15_m19_69 : decode prog_15_method_19_code 69 = .ok (.daload, 1) := by decide +kernel
theorem d_p15_m19_70 : decode prog_15_method_19_code 70 = .ok (.dreturn, 1) := by decide +kernel
def Q_rm_w1 (Z : State) (a : Addr) (lo al : UInt64) (kw ct : Int32) (sd : Int64) (od : Int32) (s1 s2 s3 s4 : Addr) (ks1 ks2 ks3 ks4 : ClassId) (xa xb : Int32) (ja jb : Int64) (za zb : UInt64) (ra rb : Int32) (h0 : Heap) (n0 : Nat) (v : Option Value) (h : Heap) (L : List Loc) : Prop := v = some (.double za) ∧ Fr n0 L ∧ Keep h0 h [a] ∧ Exa Z h a "nearcast/engine/Best" ∧ Fld Z h a "nearcast/engine/Best" "leftOut" "D" (.double lo) ∧ Fld Z h a "nearcast/engine/Best" "slots" "[I" (.ref s1) ∧ Fld Z h a "nearcast/engine/Best" "published" "[J" (.ref s2) ∧ Fld Z h a "nearcast/engine/Best" "scores" "[D" (.ref s3) ∧ Fld Z h a "nearcast/engine/Best" "shares" "[C" (.ref s4) ∧ Fld Z h a "nearcast/engine/Best" "alpha" "D" (.double al) ∧ Fld Z h a "nearcast/engine/Best" "keywords" "I" (.int kw) ∧ Fld Z h a "nearcast/engine/Best" "count" "I" (.int ct) ∧ Fld Z h a "nearcast/engine/Best" "size" "I" (.int (1 : Int32)) ∧ Fld Z h a "nearcast/engine/Best" "scored" "J" (.long sd) ∧ Fld Z h a "nearcast/engine/Best" "ordered" "Z" (.int od) ∧ Fld Z h a "nearcast/engine/Best" "heap" "Z" (.int (1 : Int32))
set_option maxRecDepth 65536 in
set_option maxHeartbeats 40000000 in
theorem rm_w1 (l : Launch) (Z : State) (a0 : Array Value) (hw : ∀ d ∈ tables_1, d.before a0 Z = true) (ws : List Jvm.Cond) (a : Addr) (lo al : UInt64) (kw ct : Int32) (sd : Int64) (od : Int32) (s1 s2 s3 s4 : Addr) (ks1 ks2 ks3 ks4 : ClassId) (xa xb : Int32) (ja jb : Int64) (za zb : UInt64) (ra rb : Int32) (h0 : Heap) (n0 : Nat) (O0 : Old Z n0 h0) (E_a : Exa Z h0 a "nearcast/engine/Best") (F_leftOut_a : Fld Z h0 a "nearcast/engine/Best" "leftOut" "D" (.double lo)) (F_slots_a : Fld Z h0 a "nearcast/engine/Best" "slots" "[I" (.ref s1)) (F_published_a : Fld Z h0 a "nearcast/engine/Best" "published" "[J" (.ref s2)) (F_scores_a : Fld Z h0 a "nearcast/engine/Best" "scores" "[D" (.ref s3)) (F_shares_a : Fld Z h0 a "nearcast/engine/Best" "shares" "[C" (.ref s4)) (F_alpha_a : Fld Z h0 a "nearcast/engine/Best" "alpha" "D" (.double al)) (F_keywords_a : Fld Z h0 a "nearcast/engine/Best" "keywords" "I" (.int kw)) (F_count_a : Fld Z h0 a "nearcast/engine/Best" "count" "I" (.int ct)) (F_size_a : Fld Z h0 a "nearcast/engine/Best" "size" "I" (.int (1 : Int32))) (F_scored_a : Fld Z h0 a "nearcast/engine/Best" "scored" "J" (.long sd)) (F_ordered_a : Fld Z h0 a "nearcast/engine/Best" "ordered" "Z" (.int od)) (F_heap_a : Fld Z h0 a "nearcast/engine/Best" "heap" "Z" (.int (0 : Int32))) (V_s1 : Arv Z h0 s1 ks1 .int (16 : Int32) [(.int xa), (.int xb), (.int (0 : Int32)), (.int (0 : Int32)), (.int (0 : Int32)), (.int (0 : Int32)), (.int (0 : Int32)), (.int (0 : Int32)), (.int (0 : Int32)), (.int (0 : Int32)), (.int (0 : Int32)), (.int (0 : Int32)), (.int (0 : Int32)), (.int (0 : Int32)), (.int (0 : Int32)), (.int (0 : Int32))] (.int (0 : Int32))) (V_s2 : Arv Z h0 s2 ks2 .long (16 : Int32) [(.long ja), (.long jb), (.long (0 : Int64)), (.long (0 : Int64)), (.long (0 : Int64)), (.long (0 : Int64)), (.long (0 : Int64)), (.long (0 : Int64)), (.long (0 : Int64)), (.long (0 : Int64)), (.long (0 : Int64)), (.long (0 : Int64)), (.long (0 : Int64)), (.long (0 : Int64)), (.long (0 : Int64)), (.long (0 : Int64))] (.long (0 : Int64))) (V_s3 : Arv Z h0 s3 ks3 .double (16 : Int32) [(.double za), (.double zb), (.double (0 : UInt64)), (.double (0 : UInt64)), (.double (0 : UInt64)), (.double (0 : UInt64)), (.double (0 : UInt64)), (.double (0 : UInt64)), (.double (0 : UInt64)), (.double (0 : UInt64)), (.double (0 : UInt64)), (.double (0 : UInt64)), (.double (0 : UInt64)), (.double (0 : UInt64)), (.double (0 : UInt64)), (.double (0 : UInt64))] (.double (0 : UInt64))) (V_s4 : Arv Z h0 s4 ks4 .char (16 : Int32) [(.int ra), (.int rb), (.int (0 : Int32)), (.int (0 : Int32)), (.int (0 : Int32)), (.int (0 : Int32)), (.int (0 : Int32)), (.int (0 : Int32)), (.int (0 : Int32)), (.int (0 : Int32)), (.int (0 : Int32)), (.int (0 : Int32)), (.int (0 : Int32)), (.int (0 : Int32)), (.int (0 : Int32)), (.int (0 : Int32))] (.int (0 : Int32))) (ne_s1_s2 : s1 ≠ s2) (ne_s1_s3 : s1 ≠ s3) (ne_s1_s4 : s1 ≠ s4) (ne_s2_s3 : s2 ≠ s3) (ne_s2_s4 : s2 ≠ s4) (ne_s3_s4 : s3 ≠ s4) (g_s1 : n0 ≤ s1) (g_s2 : n0 ≤ s2) (g_s3 : n0 ≤ s3) (g_s4 : n0 ≤ s4) (g_a : n0 ≤ a)  :
    Meets l (⟨"nearcast/engine/Best", "worstScore", "()D"⟩ : MethodName) prog_15_method_19_code 2 (some .double) ws ({ frames := 0, cells := 0, slots := 0, locals := 0 } : Room) Z #[(.ref a)] h0 (Q_rm_w1 Z a lo al kw ct sd od s1 s2 s3 s4 ks1 ks2 ks3 ks4 xa xb ja jb za zb ra rb h0 n0) 0 0 := by
  refine enter (Ls := #[.val (.ref a), .unset]) (plainFor_of_name pn_3) (fun m => by first | (simp [entryFrame, mkF, argsToLocals, Value.category]; done) | rfl) ?_
  intro p e s m below meth c T0 hx hby hml hown hnm hret hlk hZ X0 e0
  have N0 := Fr.nil n0
  replace hown : s.vm.findClass "nearcast/engine/Best" = some m.cls := hown
  show Run p e below _ (T0.setTop (mkF m 0 #[.val (.ref a), .unset] []))
  have K0 := Keep.refl h0 [a]
  refine go (fun _ => XS.aloadN X0.here hx rfl (hb hby d_p15_m19_0) rfl rfl) ?_
  show Run p e below _ (T0.setTop (mkF m 1 #[.val (.ref a), .unset] [(.ref a)]))
  obtain ⟨T71, X71, e71, st71⟩ := getF X0 hx hZ hown (host := "") (Or.inl (wd hw 42 rfl)) Via.refl e0 F_heap_a (g := (mkF m 1 #[.val (.ref a), .unset] [(.ref a)])) rfl rfl (hb hby d_p15_m19_1)
  refine go st71 ?_
  show Run p e below _ (T71.setTop (mkF m 4 #[.val (.ref a), .unset] [(.int (0 : Int32))]))
  refine go (fun _ => XS.ifNo X71.here hx rfl (hb hby d_p15_m19_4) rfl ((if0 _ _).trans (teq (by decide : (0 : Int32) = 0)).2)) ?_
  show Run p e below _ (T71.setTop (mkF m 7 #[.val (.ref a), .unset] []))
  refine go (fun _ => XS.aloadN X71.here hx rfl (hb hby d_p15_m19_7) rfl rfl) ?_
  show Run p e below _ (T71.setTop (mkF m 8 #[.val (.ref a), .unset] [(.ref a)]))
  obtain ⟨T72, X72, e72, st72⟩ := getF X71 hx hZ hown (host := "") (Or.inl (wd hw 36 rfl)) Via.refl e71 F_size_a (g := (mkF m 8 #[.val (.ref a), .unset] [(.ref a)])) rfl rfl (hb hby d_p15_m19_8)
  refine go st72 ?_
  show Run p e below _ (T72.setTop (mkF m 11 #[.val (.ref a), .unset] [(.int (1 : Int32))]))
  refine go (fun _ => XS.iconst X72.here hx rfl (hb hby d_p15_m19_11)) ?_
  show Run p e below _ (T72.setTop (mkF m 12 #[.val (.ref a), .unset] [(.int (2 : Int32)), (.int (1 : Int32))]))
  refine go (fun _ => XS.idiv X72.here hx rfl (hb hby d_p15_m19_12) rfl (by decide)) ?_
  show Run p e below _ (T72.setTop (mkF m 13 #[.val (.ref a), .unset] [(.int (0 : Int32))]))
  refine go (fun _ => XS.iconst X72.here hx rfl (hb hby d_p15_m19_13)) ?_
  show Run p e below _ (T72.setTop (mkF m 14 #[.val (.ref a), .unset] [(.int (1 : Int32)), (.int (0 : Int32))]))
  refine go (fun _ => XS.isub X72.here hx rfl (hb hby d_p15_m19_14) rfl) ?_
  show Run p e below _ (T72.setTop (mkF m 15 #[.val (.ref a), .unset] [(.int (-1 : Int32))]))
  refine go (fun _ => XS.istoreN X72.here hx rfl (hb hby d_p15_m19_15) rfl (l' := #[.val (.ref a), .val (.int (-1 : Int32))]) rfl) ?_
  show Run p e below _ (T72.setTop (mkF m 16 #[.val (.ref a), .val (.int (-1 : Int32))] []))
  refine go (fun _ => XS.iloadN X72.here hx rfl (hb hby d_p15_m19_16) rfl) ?_
  show Run p e below _ (T72.setTop (mkF m 17 #[.val (.ref a), .val (.int (-1 : Int32))] [(.int (-1 : Int32))]))
  refine go (fun _ => XS.ifYes X72.here hx rfl (pc0 := 17) (pc' := 59) rfl (hb hby d_p15_m19_17) rfl ((if0 _ _).trans (tlt (by decide : (-1 : Int32) < 0)).1) (by decide) (by decide)) ?_
  show Run p e below _ (T72.setTop (mkF m 59 #[.val (.ref a), .val (.int (-1 : Int32))] []))
  refine go (fun _ => XS.aloadN X72.here hx rfl (hb hby d_p15_m19_59) rfl rfl) ?_
  show Run p e below _ (T72.setTop (mkF m 60 #[.val (.ref a), .val (.int (-1 : Int32))] [(.ref a)]))
  refine go (fun _ => XS.iconst X72.here hx rfl (hb hby d_p15_m19_60)) ?_
  show Run p e below _ (T72.setTop (mkF m 61 #[.val (.ref a), .val (.int (-1 : Int32))] [(.int (1 : Int32)), (.ref a)]))
  obtain ⟨T73, h73, X73, e73, W73, st73⟩ := putFN X72 hx hZ hown (wd hw 42 rfl) Via.refl e72 F_heap_a E_a (Or.inl (wd hw 43 rfl)) (wd hw 1 rfl) (ty := .boolean) (v' := (.int (nar .boolean (1 : Int32)))) (by decide) rfl (fits_nar_bool _) (g := (mkF m 61 #[.val (.ref a), .val (.int (-1 : Int32))] [(.int (1 : Int32)), (.ref a)])) rfl rfl (hb hby d_p15_m19_61)
  have ne_s1_a : s1 ≠ a := Ne.symm (Exa.neArv E_a V_s1 (wd hw 1 rfl))
  have ne_s2_a : s2 ≠ a := Ne.symm (Exa.neArv E_a V_s2 (wd hw 1 rfl))
  have ne_s3_a : s3 ≠ a := Ne.symm (Exa.neArv E_a V_s3 (wd hw 1 rfl))
  have ne_s4_a : s4 ≠ a := Ne.symm (Exa.neArv E_a V_s4 (wd hw 1 rfl))
  have O0 := O0.wr W73 g_a
  have E_a := E_a.wr W73
  have F_leftOut_a := F_leftOut_a.other W73 (Or.inr (slot_ne (Or.inl (wd hw 11 rfl)) (Or.inl (wd hw 43 rfl)) (by decide) (t := .double) (t' := .boolean) (by decide) (by decide)))
  have F_slots_a := F_slots_a.other W73 (Or.inr (slot_ne (Or.inl (wd hw 14 rfl)) (Or.inl (wd hw 43 rfl)) (by decide) (t := (.array .int)) (t' := .boolean) (by decide) (by decide)))
  have F_published_a := F_published_a.other W73 (Or.inr (slot_ne (Or.inl (wd hw 17 rfl)) (Or.inl (wd hw 43 rfl)) (by decide) (t := (.array .long)) (t' := .boolean) (by decide) (by decide)))
  have F_scores_a := F_scores_a.other W73 (Or.inr (slot_ne (Or.inl (wd hw 20 rfl)) (Or.inl (wd hw 43 rfl)) (by decide) (t := (.array .double)) (t' := .boolean) (by decide) (by decide)))
  have F_shares_a := F_shares_a.other W73 (Or.inr (slot_ne (Or.inl (wd hw 23 rfl)) (Or.inl (wd hw 43 rfl)) (by decide) (t := (.array .char)) (t' := .boolean) (by decide) (by decide)))
  have F_alpha_a := F_alpha_a.other W73 (Or.inr (slot_ne (Or.inl (wd hw 31 rfl)) (Or.inl (wd hw 43 rfl)) (by decide) (t := .double) (t' := .boolean) (by decide) (by decide)))
  have F_keywords_a := F_keywords_a.other W73 (Or.inr (slot_ne (Or.inl (wd hw 33 rfl)) (Or.inl (wd hw 43 rfl)) (by decide) (t := .int) (t' := .boolean) (by decide) (by decide)))
  have F_count_a := F_count_a.other W73 (Or.inr (slot_ne (Or.inl (wd hw 35 rfl)) (Or.inl (wd hw 43 rfl)) (by decide) (t := .int) (t' := .boolean) (by decide) (by decide)))
  have F_size_a := F_size_a.other W73 (Or.inr (slot_ne (Or.inl (wd hw 37 rfl)) (Or.inl (wd hw 43 rfl)) (by decide) (t := .int) (t' := .boolean) (by decide) (by decide)))
  have F_scored_a := F_scored_a.other W73 (Or.inr (slot_ne (Or.inl (wd hw 39 rfl)) (Or.inl (wd hw 43 rfl)) (by decide) (t := .long) (t' := .boolean) (by decide) (by decide)))
  have F_ordered_a := F_ordered_a.other W73 (Or.inr (slot_ne (Or.inl (wd hw 41 rfl)) (Or.inl (wd hw 43 rfl)) (by decide) (t := .boolean) (t' := .boolean) (by decide) (by decide)))
  have F_heap_a := F_heap_a.same W73
  have V_s1 := V_s1.other W73 ne_s1_a
  have V_s2 := V_s2.other W73 ne_s2_a
  have V_s3 := V_s3.other W73 ne_s3_a
  have V_s4 := V_s4.other W73 ne_s4_a
  have K0 := K0.wr W73 (Or.inl (by simp))
  rw [nb1] at F_heap_a
  have N73 := Fr.snoc X73 N0 g_a
  refine go st73 ?_
  show Run p e below _ (T73.setTop (mkF m 64 #[.val (.ref a), .val (.int (-1 : Int32))] []))
  refine go (fun _ => XS.aloadN X73.here hx rfl (hb hby d_p15_m19_64) rfl rfl) ?_
  show Run p e below _ (T73.setTop (mkF m 65 #[.val (.ref a), .val (.int (-1 : Int32))] [(.ref a)]))
  obtain ⟨T74, X74, e74, st74⟩ := getF X73 hx hZ hown (host := "") (Or.inl (wd hw 19 rfl)) Via.refl e73 F_scores_a (g := (mkF m 65 #[.val (.ref a), .val (.int (-1 : Int32))] [(.ref a)])) rfl rfl (hb hby d_p15_m19_65)
  refine go st74 ?_
  show Run p e below _ (T74.setTop (mkF m 68 #[.val (.ref a), .val (.int (-1 : Int32))] [(.ref s3)]))
  refine go (fun _ => XS.iconst X74.here hx rfl (hb hby d_p15_m19_68)) ?_
  show Run p e below _ (T74.setTop (mkF m 69 #[.val (.ref a), .val (.int (-1 : Int32))] [(.int (0 : Int32)), (.ref s3)]))
  obtain ⟨cl75, Ar75, ak75, as75, an75, ah75, ag75⟩ := id V_s3
  have hin75 := inb_of as75 (j := (0 : Int32)) ⟨by decide, by decide⟩
  have hat75 := ah75.at hin75 (v := (.double za)) rfl
  refine go (fun _ => X74.daload hx (j := (0 : Int32)) (v := (.double za)) (by rw [e74]; exact Ar75.1) (State.isArrayOf_alike hZ.alike Ar75.2.1) Ar75.2.2 hin75 hat75 (g := (mkF m 69 #[.val (.ref a), .val (.int (-1 : Int32))] [(.int (0 : Int32)), (.ref s3)])) rfl rfl (hb hby d_p15_m19_69) _) ?_
  show Run p e below _ (T74.setTop (mkF m 70 #[.val (.ref a), .val (.int (-1 : Int32))] [(.double za)]))
  exact endD X74 hx hlk hret (hb hby d_p15_m19_70) (by rw [e74]; exact ⟨rfl, N73, K0, E_a, F_leftOut_a, F_slots_a, F_published_a, F_scores_a, F_shares_a, F_alpha_a, F_keywords_a, F_count_a, F_size_a, F_scored_a, F_ordered_a, F_heap_a⟩) (by decide) (by decide)
def Q_rm_w1h (a : Addr) (lo al : UInt64) (kw ct sz : Int32) (sd : Int64) (od : Int32) (s1 s2 s3 s4 : Addr) (ks1 ks2 ks3 ks4 : ClassId) (xa xb : Int32) (ja jb : Int64) (za zb : UInt64) (ra rb : Int32) (h0 : Heap) (n0 : Nat) (v : Option Value) (h : Heap) (L : List Loc) : Prop := v = some (.double za) ∧ Fr n0 L ∧ h = h0
set_option maxRecDepth 65536 in
set_option maxHeartbeats 40000000 in
theorem rm_w1h (l : Launch) (Z : State) (a0 : Array Value) (hw : ∀ d ∈ tables_1, d.before a0 Z = true) (ws : List Jvm.Cond) (a : Addr) (lo al : UInt64) (kw ct sz : Int32) (sd : Int64) (od : Int32) (s1 s2 s3 s4 : Addr) (ks1 ks2 ks3 ks4 : ClassId) (xa xb : Int32) (ja jb : Int64) (za zb : UInt64) (ra rb : Int32) (h0 : Heap) (n0 : Nat) (O0 : Old Z n0 h0) (E_a : Exa Z h0 a "nearcast/engine/Best") (F_leftOut_a : Fld Z h0 a "nearcast/engine/Best" "leftOut" "D" (.double lo)) (F_slots_a : Fld Z h0 a "nearcast/engine/Best" "slots" "[I" (.ref s1)) (F_published_a : Fld Z h0 a "nearcast/engine/Best" "published" "[J" (.ref s2)) (F_scores_a : Fld Z h0 a "nearcast/engine/Best" "scores" "[D" (.ref s3)) (F_shares_a : Fld Z h0 a "nearcast/engine/Best" "shares" "[C" (.ref s4)) (F_alpha_a : Fld Z h0 a "nearcast/engine/Best" "alpha" "D" (.double al)) (F_keywords_a : Fld Z h0 a "nearcast/engine/Best" "keywords" "I" (.int kw)) (F_count_a : Fld Z h0 a "nearcast/engine/Best" "count" "I" (.int ct)) (F_size_a : Fld Z h0 a "nearcast/engine/Best" "size" "I" (.int sz)) (F_scored_a : Fld Z h0 a "nearcast/engine/Best" "scored" "J" (.long sd)) (F_ordered_a : Fld Z h0 a "nearcast/engine/Best" "ordered" "Z" (.int od)) (F_heap_a : Fld Z h0 a "nearcast/engine/Best" "heap" "Z" (.int (1 : Int32))) (V_s1 : Arv Z h0 s1 ks1 .int (16 : Int32) [(.int xa), (.int xb), (.int (0 : Int32)), (.int (0 : Int32)), (.int (0 : Int32)), (.int (0 : Int32)), (.int (0 : Int32)), (.int (0 : Int32)), (.int (0 : Int32)), (.int (0 : Int32)), (.int (0 : Int32)), (.int (0 : Int32)), (.int (0 : Int32)), (.int (0 : Int32)), (.int (0 : Int32)), (.int (0 : Int32))] (.int (0 : Int32))) (V_s2 : Arv Z h0 s2 ks2 .long (16 : Int32) [(.long ja), (.long jb), (.long (0 : Int64)), (.long (0 : Int64)), (.long (0 : Int64)), (.long (0 : Int64)), (.long (0 : Int64)), (.long (0 : Int64)), (.long (0 : Int64)), (.long (0 : Int64)), (.long (0 : Int64)), (.long (0 : Int64)), (.long (0 : Int64)), (.long (0 : Int64)), (.long (0 : Int64)), (.long (0 : Int64))] (.long (0 : Int64))) (V_s3 : Arv Z h0 s3 ks3 .double (16 : Int32) [(.double za), (.double zb), (.double (0 : UInt64)), (.double (0 : UInt64)), (.double (0 : UInt64)), (.double (0 : UInt64)), (.double (0 : UInt64)), (.double (0 : UInt64)), (.double (0 : UInt64)), (.double (0 : UInt64)), (.double (0 : UInt64)), (.double (0 : UInt64)), (.double (0 : UInt64)), (.double (0 : UInt64)), (.double (0 : UInt64)), (.double (0 : UInt64))] (.double (0 : UInt64))) (V_s4 : Arv Z h0 s4 ks4 .char (16 : Int32) [(.int ra), (.int rb), (.int (0 : Int32)), (.int (0 : Int32)), (.int (0 : Int32)), (.int (0 : Int32)), (.int (0 : Int32)), (.int (0 : Int32)), (.int (0 : Int32)), (.int (0 : Int32)), (.int (0 : Int32)), (.int (0 : Int32)), (.int (0 : Int32)), (.int (0 : Int32)), (.int (0 : Int32)), (.int (0 : Int32))] (.int (0 : Int32))) (ne_s1_s2 : s1 ≠ s2) (ne_s1_s3 : s1 ≠ s3) (ne_s1_s4 : s1 ≠ s4) (ne_s2_s3 : s2 ≠ s3) (ne_s2_s4 : s2 ≠ s4) (ne_s3_s4 : s3 ≠ s4) (g_s1 : n0 ≤ s1) (g_s2 : n0 ≤ s2) (g_s3 : n0 ≤ s3) (g_s4 : n0 ≤ s4) (g_a : n0 ≤ a)  :
    Meets l (⟨"nearcast/engine/Best", "worstScore", "()D"⟩ : MethodName) prog_15_method_19_code 2 (some .double) ws ({ frames := 0, cells := 0, slots := 0, locals := 0 } : Room) Z #[(.ref a)] h0 (Q_rm_w1h a lo al kw ct sz sd od s1 s2 s3 s4 ks1 ks2 ks3 ks4 xa xb ja jb za zb ra rb h0 n0) 0 0 := by
  refine enter (Ls := #[.val (.ref a), .unset]) (plainFor_of_name pn_3) (fun m => by first | (simp [entryFrame, mkF, argsToLocals, Value.category]; done) | rfl) ?_
  intro p e s m below meth c T0 hx hby hml hown hnm hret hlk hZ X0 e0
  have N0 := Fr.nil n0
  replace hown : s.vm.findClass "nearcast/engine/Best" = some m.cls := hown
  show Run p e below _ (T0.setTop (mkF m 0 #[.val (.ref a), .unset] []))
  refine go (fun _ => XS.aloadN X0.here hx rfl (hb hby d_p15_m19_0) rfl rfl) ?_
  show Run p e below _ (T0.setTop (mkF m 1 #[.val (.ref a), .unset] [(.ref a)]))
  obtain ⟨T76, X76, e76, st76⟩ := getF X0 hx hZ hown (host := "") (Or.inl (wd hw 42 rfl)) Via.refl e0 F_heap_a (g := (mkF m 1 #[.val (.ref a), .unset] [(.ref a)])) rfl rfl (hb hby d_p15_m19_1)
  refine go st76 ?_
  show Run p e below _ (T76.setTop (mkF m 4 #[.val (.ref a), .unset] [(.int (1 : Int32))]))
  refine go (fun _ => XS.ifYes X76.here hx rfl (pc0 := 4) (pc' := 64) rfl (hb hby d_p15_m19_4) rfl ((if0 _ _).trans (feq (by decide : ¬ ((1 : Int32) = 0))).2) (by decide) (by decide)) ?_
  show Run p e below _ (T76.setTop (mkF m 64 #[.val (.ref a), .unset] []))
  refine go (fun _ => XS.aloadN X76.here hx rfl (hb hby d_p15_m19_64) rfl rfl) ?_
  show Run p e below _ (T76.setTop (mkF m 65 #[.val (.ref a), .unset] [(.ref a)]))
  obtain ⟨T77, X77, e77, st77⟩ := getF X76 hx hZ hown (host := "") (Or.inl (wd hw 19 rfl)) Via.refl e76 F_scores_a (g := (mkF m 65 #[.val (.ref a), .unset] [(.ref a)])) rfl rfl (hb hby d_p15_m19_65)
  refine go st77 ?_
  show Run p e below _ (T77.setTop (mkF m 68 #[.val (.ref a), .unset] [(.ref s3)]))
  refine go (fun _ => XS.iconst X77.here hx rfl (hb hby d_p15_m19_68)) ?_
  show Run p e below _ (T77.setTop (mkF m 69 #[.val (.ref a), .unset] [(.int (0 : Int32)), (.ref s3)]))
  obtain ⟨cl78, Ar78, ak78, as78, an78, ah78, ag78⟩ := id V_s3
  have hin78 := inb_of as78 (j := (0 : Int32)) ⟨by decide, by decide⟩
  have hat78 := ah78.at hin78 (v := (.double za)) rfl
  refine go (fun _ => X77.daload hx (j := (0 : Int32)) (v := (.double za)) (by rw [e77]; exact Ar78.1) (State.isArrayOf_alike hZ.alike Ar78.2.1) Ar78.2.2 hin78 hat78 (g := (mkF m 69 #[.val (.ref a), .unset] [(.int (0 : Int32)), (.ref s3)])) rfl rfl (hb hby d_p15_m19_69) _) ?_
  show Run p e below _ (T77.setTop (mkF m 70 #[.val (.ref a), .unset] [(.double za)]))
  exact endD X77 hx hlk hret (hb hby d_p15_m19_70) (⟨rfl, N0, e77⟩) (by decide) (by decide)
theorem d_p15_m19_20 : decode prog_15_method_19_code 20 = .ok (.aload_n 0, 1) := by decide +kernel
theorem d_p15_m19_21 : decode prog_15_method_19_code 21 = .ok (.iload_n 1, 1) := by decide +kernel
theorem d_p15_m19_22 : decode prog_15_method_19_code 22 = .ok (.aload_n 0, 1) := by decide +kernel
theorem d_p15_m19_23 : decode prog_15_method_19_code 23 = .ok (.getfield 48, 3) := by decide +kernel
theorem d_p15_m19_26 : decode prog_15_method_19_code 26 = .ok (.aload_n 0, 1) := by decide +kernel
theorem d_p15_m19_27 : decode prog_15_method_19_code 27 = .ok (.getfield 22, 3) := by decide +kernel
theorem d_p15_m19_30 : decode prog_15_method_19_code 30 = .ok (.iload_n 1, 1) := by decide +kernel
theorem d_p15_m19_31 : decode prog_15_method_19_code 31 = .ok (.iaload, 1) := by decide +kernel
theorem d_p15_m19_32 : decode prog_15_method_19_code 32 = .ok (.aload_n 0, 1) := by decide +kernel
theorem d_p15_m19_33 : decode prog_15_method_19_code 33 = .ok (.getfield 26, 3) := by decide +kernel
theorem d_p15_m19_36 : decode prog_15_method_19_code 36 = .ok (.iload_n 1, 1) := by decide +kernel
theorem d_p15_m19_37 : decode prog_15_method_19_code 37 = .ok (.laload, 1) := by decide +kernel
theorem d_p15_m19_38 : decode prog_15_method_19_code 38 = .ok (.aload_n 0, 1) := by decide +kernel
theorem d_p15_m19_39 : decode prog_15_method_19_code 39 = .ok (.getfield 30, 3) := by decide +kernel
theorem d_p15_m19_42 : decode prog_15_method_19_code 42 = .ok (.iload_n 1, 1) := by decide +kernel
theorem d_p15_m19_43 : decode prog_15_method_19_code 43 = .ok (.daload, 1) := by decide +kernel
theorem d_p15_m19_44 : decode prog_15_method_19_code 44 = .ok (.aload_n 0, 1) := by decide +kernel
theorem d_p15_m19_45 : decode prog_15_method_19_code 45 = .ok (.getfield 34, 3) := by decide +kernel
theorem d_p15_m19_48 : decode prog_15_method_19_code 48 = .ok (.iload_n 1, 1) := by decide +kernel
theorem d_p15_m19_49 : decode prog_15_method_19_code 49 = .ok (.caload, 1) := by decide +kernel
theorem d_p15_m19_50 : decode prog_15_method_19_code 50 = .ok (.invokevirtual 123, 3) := by decide +kernel
theorem pd_7 : parseMethodDescriptor "(IIIJDC)V" = some ⟨[.int, .int, .int, .long, .double, .char], none⟩ := by decide +kernel
theorem d_p15_m19_53 : decode prog_15_method_19_code 53 = .ok (.iinc 1 (-1), 3) := by decide +kernel
theorem d_p15_m19_56 : decode prog_15_method_19_code 56 = .ok (.goto (-40), 3) := by decide +kernel
def Q_rm_w2 (Z : State) (a : Addr) (lo al : UInt64) (kw ct : Int32) (sd : Int64) (od : Int32) (s1 s2 s3 s4 : Addr) (ks1 ks2 ks3 ks4 : ClassId) (xa xb : Int32) (ja jb : Int64) (za zb : UInt64) (ra rb : Int32) (h0 : Heap) (n0 : Nat) (v : Option Value) (h : Heap) (L : List Loc) : Prop := v = some (.double zb) ∧ Fr n0 L ∧ Keep h0 h [a, s1, s2, s3, s4] ∧ Exa Z h a "nearcast/engine/Best" ∧ Fld Z h a "nearcast/engine/Best" "leftOut" "D" (.double lo) ∧ Fld Z h a "nearcast/engine/Best" "slots" "[I" (.ref s1) ∧ Fld Z h a "nearcast/engine/Best" "published" "[J" (.ref s2) ∧ Fld Z h a "nearcast/engine/Best" "scores" "[D" (.ref s3) ∧ Fld Z h a "nearcast/engine/Best" "shares" "[C" (.ref s4) ∧ Fld Z h a "nearcast/engine/Best" "alpha" "D" (.double al) ∧ Fld Z h a "nearcast/engine/Best" "keywords" "I" (.int kw) ∧ Fld Z h a "nearcast/engine/Best" "count" "I" (.int ct) ∧ Fld Z h a "nearcast/engine/Best" "size" "I" (.int (2 : Int32)) ∧ Fld Z h a "nearcast/engine/Best" "scored" "J" (.long sd) ∧ Fld Z h a "nearcast/engine/Best" "ordered" "Z" (.int od) ∧ Fld Z h a "nearcast/engine/Best" "heap" "Z" (.int (1 : Int32)) ∧ Arv Z h s1 ks1 .int (16 : Int32) [(.int xb), (.int xa), (.int (0 : Int32)), (.int (0 : Int32)), (.int (0 : Int32)), (.int (0 : Int32)), (.int (0 : Int32)), (.int (0 : Int32)), (.int (0 : Int32)), (.int (0 : Int32)), (.int (0 : Int32)), (.int (0 : Int32)), (.int (0 : Int32)), (.int (0 : Int32)), (.int (0 : Int32)), (.int (0 : Int32))] (.int (0 : Int32)) ∧ Arv Z h s2 ks2 .long (16 : Int32) [(.long jb), (.long ja), (.long (0 : Int64)), (.long (0 : Int64)), (.long (0 : Int64)), (.long (0 : Int64)), (.long (0 : Int64)), (.long (0 : Int64)), (.long (0 : Int64)), (.long (0 : Int64)), (.long (0 : Int64)), (.long (0 : Int64)), (.long (0 : Int64)), (.long (0 : Int64)), (.long (0 : Int64)), (.long (0 : Int64))] (.long (0 : Int64)) ∧ Arv Z h s3 ks3 .double (16 : Int32) [(.double zb), (.double za), (.double (0 : UInt64)), (.double (0 : UInt64)), (.double (0 : UInt64)), (.double (0 : UInt64)), (.double (0 : UInt64)), (.double (0 : UInt64)), (.double (0 : UInt64)), (.double (0 : UInt64)), (.double (0 : UInt64)), (.double (0 : UInt64)), (.double (0 : UInt64)), (.double (0 : UInt64)), (.double (0 : UInt64)), (.double (0 : UInt64))] (.double (0 : UInt64)) ∧ Arv Z h s4 ks4 .char (16 : Int32) [(.int (nar .char rb)), (.int (nar .char ra)), (.int (0 : Int32)), (.int (0 : Int32)), (.int (0 : Int32)), (.int (0 : Int32)), (.int (0 : Int32)), (.int (0 : Int32)), (.int (0 : Int32)), (.int (0 : Int32)), (.int (0 : Int32)), (.int (0 : Int32)), (.int (0 : Int32)), (.int (0 : Int32)), (.int (0 : Int32)), (.int (0 : Int32))] (.int (0 : Int32))
set_option maxRecDepth 65536 in
set_option maxHeartbeats 40000000 in
theorem rm_w2 (l : Launch) (Z : State) (a0 : Array Value) (hw : ∀ d ∈ tables_1, d.before a0 Z = true) (ws : List Jvm.Cond) (a : Addr) (lo al : UInt64) (kw ct : Int32) (sd : Int64) (od : Int32) (s1 s2 s3 s4 : Addr) (ks1 ks2 ks3 ks4 : ClassId) (xa xb : Int32) (ja jb : Int64) (za zb : UInt64) (ra rb : Int32) (h0 : Heap) (n0 : Nat) (O0 : Old Z n0 h0) (E_a : Exa Z h0 a "nearcast/engine/Best") (F_leftOut_a : Fld Z h0 a "nearcast/engine/Best" "leftOut" "D" (.double lo)) (F_slots_a : Fld Z h0 a "nearcast/engine/Best" "slots" "[I" (.ref s1)) (F_published_a : Fld Z h0 a "nearcast/engine/Best" "published" "[J" (.ref s2)) (F_scores_a : Fld Z h0 a "nearcast/engine/Best" "scores" "[D" (.ref s3)) (F_shares_a : Fld Z h0 a "nearcast/engine/Best" "shares" "[C" (.ref s4)) (F_alpha_a : Fld Z h0 a "nearcast/engine/Best" "alpha" "D" (.double al)) (F_keywords_a : Fld Z h0 a "nearcast/engine/Best" "keywords" "I" (.int kw)) (F_count_a : Fld Z h0 a "nearcast/engine/Best" "count" "I" (.int ct)) (F_size_a : Fld Z h0 a "nearcast/engine/Best" "size" "I" (.int (2 : Int32))) (F_scored_a : Fld Z h0 a "nearcast/engine/Best" "scored" "J" (.long sd)) (F_ordered_a : Fld Z h0 a "nearcast/engine/Best" "ordered" "Z" (.int od)) (F_heap_a : Fld Z h0 a "nearcast/engine/Best" "heap" "Z" (.int (0 : Int32))) (V_s1 : Arv Z h0 s1 ks1 .int (16 : Int32) [(.int xa), (.int xb), (.int (0 : Int32)), (.int (0 : Int32)), (.int (0 : Int32)), (.int (0 : Int32)), (.int (0 : Int32)), (.int (0 : Int32)), (.int (0 : Int32)), (.int (0 : Int32)), (.int (0 : Int32)), (.int (0 : Int32)), (.int (0 : Int32)), (.int (0 : Int32)), (.int (0 : Int32)), (.int (0 : Int32))] (.int (0 : Int32))) (V_s2 : Arv Z h0 s2 ks2 .long (16 : Int32) [(.long ja), (.long jb), (.long (0 : Int64)), (.long (0 : Int64)), (.long (0 : Int64)), (.long (0 : Int64)), (.long (0 : Int64)), (.long (0 : Int64)), (.long (0 : Int64)), (.long (0 : Int64)), (.long (0 : Int64)), (.long (0 : Int64)), (.long (0 : Int64)), (.long (0 : Int64)), (.long (0 : Int64)), (.long (0 : Int64))] (.long (0 : Int64))) (V_s3 : Arv Z h0 s3 ks3 .double (16 : Int32) [(.double za), (.double zb), (.double (0 : UInt64)), (.double (0 : UInt64)), (.double (0 : UInt64)), (.double (0 : UInt64)), (.double (0 : UInt64)), (.double (0 : UInt64)), (.double (0 : UInt64)), (.double (0 : UInt64)), (.double (0 : UInt64)), (.double (0 : UInt64)), (.double (0 : UInt64)), (.double (0 : UInt64)), (.double (0 : UInt64)), (.double (0 : UInt64))] (.double (0 : UInt64))) (V_s4 : Arv Z h0 s4 ks4 .char (16 : Int32) [(.int ra), (.int rb), (.int (0 : Int32)), (.int (0 : Int32)), (.int (0 : Int32)), (.int (0 : Int32)), (.int (0 : Int32)), (.int (0 : Int32)), (.int (0 : Int32)), (.int (0 : Int32)), (.int (0 : Int32)), (.int (0 : Int32)), (.int (0 : Int32)), (.int (0 : Int32)), (.int (0 : Int32)), (.int (0 : Int32))] (.int (0 : Int32))) (ne_s1_s2 : s1 ≠ s2) (ne_s1_s3 : s1 ≠ s3) (ne_s1_s4 : s1 ≠ s4) (ne_s2_s3 : s2 ≠ s3) (ne_s2_s4 : s2 ≠ s4) (ne_s3_s4 : s3 ≠ s4) (g_s1 : n0 ≤ s1) (g_s2 : n0 ≤ s2) (g_s3 : n0 ≤ s3) (g_s4 : n0 ≤ s4) (g_a : n0 ≤ a) (hc : FP.dcmp za zb = some .gt) :
    Meets l (⟨"nearcast/engine/Best", "worstScore", "()D"⟩ : MethodName) prog_15_method_19_code 2 (some .double) ws ({ frames := 3, cells := 0, slots := 0, locals := 61 } : Room) Z #[(.ref a)] h0 (Q_rm_w2 Z a lo al kw ct sd od s1 s2 s3 s4 ks1 ks2 ks3 ks4 xa xb ja jb za zb ra rb h0 n0) 0 0 := by
  refine enter (Ls := #[.val (.ref a), .unset]) (plainFor_of_name pn_3) (fun m => by first | (simp [entryFrame, mkF, argsToLocals, Value.category]; done) | rfl) ?_
  intro p e s m below meth c T0 hx hby hml hown hnm hret hlk hZ X0 e0
  have N0 := Fr.nil n0
  replace hown : s.vm.findClass "nearcast/engine/Best" = some m.cls := hown
  show Run p e below _ (T0.setTop (mkF m 0 #[.val (.ref a), .unset] []))
  have K0 := Keep.refl h0 [a, s1, s2, s3, s4]
  refine go (fun _ => XS.aloadN X0.here hx rfl (hb hby d_p15_m19_0) rfl rfl) ?_
  show Run p e below _ (T0.setTop (mkF m 1 #[.val (.ref a), .unset] [(.ref a)]))
  obtain ⟨T79, X79, e79, st79⟩ := getF X0 hx hZ hown (host := "") (Or.inl (wd hw 42 rfl)) Via.refl e0 F_heap_a (g := (mkF m 1 #[.val (.ref a), .unset] [(.ref a)])) rfl rfl (hb hby d_p15_m19_1)
  refine go st79 ?_
  show Run p e below _ (T79.setTop (mkF m 4 #[.val (.ref a), .unset] [(.int (0 : Int32))]))
  refine go (fun _ => XS.ifNo X79.here hx rfl (hb hby d_p15_m19_4) rfl ((if0 _ _).trans (teq (by decide : (0 : Int32) = 0)).2)) ?_
  show Run p e below _ (T79.setTop (mkF m 7 #[.val (.ref a), .unset] []))
  refine go (fun _ => XS.aloadN X79.here hx rfl (hb hby d_p15_m19_7) rfl rfl) ?_
  show Run p e below _ (T79.setTop (mkF m 8 #[.val (.ref a), .unset] [(.ref a)]))
  obtain ⟨T80, X80, e80, st80⟩ := getF X79 hx hZ hown (host := "") (Or.inl (wd hw 36 rfl)) Via.refl e79 F_size_a (g := (mkF m 8 #[.val (.ref a), .unset] [(.ref a)])) rfl rfl (hb hby d_p15_m19_8)
  refine go st80 ?_
  show Run p e below _ (T80.setTop (mkF m 11 #[.val (.ref a), .unset] [(.int (2 : Int32))]))
  refine go (fun _ => XS.iconst X80.here hx rfl (hb hby d_p15_m19_11)) ?_
  show Run p e below _ (T80.setTop (mkF m 12 #[.val (.ref a), .unset] [(.int (2 : Int32)), (.int (2 : Int32))]))
  refine go (fun _ => XS.idiv X80.here hx rfl (hb hby d_p15_m19_12) rfl (by decide)) ?_
  show Run p e below _ (T80.setTop (mkF m 13 #[.val (.ref a), .unset] [(.int (1 : Int32))]))
  refine go (fun _ => XS.iconst X80.here hx rfl (hb hby d_p15_m19_13)) ?_
  show Run p e below _ (T80.setTop (mkF m 14 #[.val (.ref a), .unset] [(.int (1 : Int32)), (.int (1 : Int32))]))
  refine go (fun _ => XS.isub X80.here hx rfl (hb hby d_p15_m19_14) rfl) ?_
  show Run p e below _ (T80.setTop (mkF m 15 #[.val (.ref a), .unset] [(.int (0 : Int32))]))
  refine go (fun _ => XS.istoreN X80.here hx rfl (hb hby d_p15_m19_15) rfl (l' := #[.val (.ref a), .val (.int (0 : Int32))]) rfl) ?_
  show Run p e below _ (T80.setTop (mkF m 16 #[.val (.ref a), .val (.int (0 : Int32))] []))
  refine go (fun _ => XS.iloadN X80.here hx rfl (hb hby d_p15_m19_16) rfl) ?_
  show Run p e below _ (T80.setTop (mkF m 17 #[.val (.ref a), .val (.int (0 : Int32))] [(.int (0 : Int32))]))
  refine go (fun _ => XS.ifNo X80.here hx rfl (hb hby d_p15_m19_17) rfl ((if0 _ _).trans (flt (by decide : ¬ ((0 : Int32) < 0))).1)) ?_
  show Run p e below _ (T80.setTop (mkF m 20 #[.val (.ref a), .val (.int (0 : Int32))] []))
  refine go (fun _ => XS.aloadN X80.here hx rfl (hb hby d_p15_m19_20) rfl rfl) ?_
  show Run p e below _ (T80.setTop (mkF m 21 #[.val (.ref a), .val (.int (0 : Int32))] [(.ref a)]))
  refine go (fun _ => XS.iloadN X80.here hx rfl (hb hby d_p15_m19_21) rfl) ?_
  show Run p e below _ (T80.setTop (mkF m 22 #[.val (.ref a), .val (.int (0 : Int32))] [(.int (0 : Int32)), (.ref a)]))
  refine go (fun _ => XS.aloadN X80.here hx rfl (hb hby d_p15_m19_22) rfl rfl) ?_
  show Run p e below _ (T80.setTop (mkF m 23 #[.val (.ref a), .val (.int (0 : Int32))] [(.ref a), (.int (0 : Int32)), (.ref a)]))
  obtain ⟨T81, X81, e81, st81⟩ := getF X80 hx hZ hown (host := "") (Or.inl (wd hw 36 rfl)) Via.refl e80 F_size_a (g := (mkF m 23 #[.val (.ref a), .val (.int (0 : Int32))] [(.ref a), (.int (0 : Int32)), (.ref a)])) rfl rfl (hb hby d_p15_m19_23)
  refine go st81 ?_
  show Run p e below _ (T81.setTop (mkF m 26 #[.val (.ref a), .val (.int (0 : Int32))] [(.int (2 : Int32)), (.int (0 : Int32)), (.ref a)]))
  refine go (fun _ => XS.aloadN X81.here hx rfl (hb hby d_p15_m19_26) rfl rfl) ?_
  show Run p e below _ (T81.setTop (mkF m 27 #[.val (.ref a), .val (.int (0 : Int32))] [(.ref a), (.int (2 : Int32)), (.int (0 : Int32)), (.ref a)]))
  obtain ⟨T82, X82, e82, st82⟩ := getF X81 hx hZ hown (host := "") (Or.inl (wd hw 13 rfl)) Via.refl e81 F_slots_a (g := (mkF m 27 #[.val (.ref a), .val (.int (0 : Int32))] [(.ref a), (.int (2 : Int32)), (.int (0 : Int32)), (.ref a)])) rfl rfl (hb hby d_p15_m19_27)
  refine go st82 ?_
  show Run p e below _ (T82.setTop (mkF m 30 #[.val (.ref a), .val (.int (0 : Int32))] [(.ref s1), (.int (2 : Int32)), (.int (0 : Int32)), (.ref a)]))
  refine go (fun _ => XS.iloadN X82.here hx rfl (hb hby d_p15_m19_30) rfl) ?_
  show Run p e below _ (T82.setTop (mkF m 31 #[.val (.ref a), .val (.int (0 : Int32))] [(.int (0 : Int32)), (.ref s1), (.int (2 : Int32)), (.int (0 : Int32)), (.ref a)]))
  obtain ⟨cl83, Ar83, ak83, as83, an83, ah83, ag83⟩ := id V_s1
  have hin83 := inb_of as83 (j := (0 : Int32)) ⟨by decide, by decide⟩
  have hat83 := ah83.at hin83 (v := (.int xa)) rfl
  refine go (fun _ => X82.iaload hx (j := (0 : Int32)) (v := (.int xa)) (by rw [e82]; exact Ar83.1) (State.isArrayOf_alike hZ.alike Ar83.2.1) Ar83.2.2 hin83 hat83 (g := (mkF m 31 #[.val (.ref a), .val (.int (0 : Int32))] [(.int (0 : Int32)), (.ref s1), (.int (2 : Int32)), (.int (0 : Int32)), (.ref a)])) rfl rfl (hb hby d_p15_m19_31) _) ?_
  show Run p e below _ (T82.setTop (mkF m 32 #[.val (.ref a), .val (.int (0 : Int32))] [(.int xa), (.int (2 : Int32)), (.int (0 : Int32)), (.ref a)]))
  refine go (fun _ => XS.aloadN X82.here hx rfl (hb hby d_p15_m19_32) rfl rfl) ?_
  show Run p e below _ (T82.setTop (mkF m 33 #[.val (.ref a), .val (.int (0 : Int32))] [(.ref a), (.int xa), (.int (2 : Int32)), (.int (0 : Int32)), (.ref a)]))
  obtain ⟨T84, X84, e84, st84⟩ := getF X82 hx hZ hown (host := "") (Or.inl (wd hw 16 rfl)) Via.refl e82 F_published_a (g := (mkF m 33 #[.val (.ref a), .val (.int (0 : Int32))] [(.ref a), (.int xa), (.int (2 : Int32)), (.int (0 : Int32)), (.ref a)])) rfl rfl (hb hby d_p15_m19_33)
  refine go st84 ?_
  show Run p e below _ (T84.setTop (mkF m 36 #[.val (.ref a), .val (.int (0 : Int32))] [(.ref s2), (.int xa), (.int (2 : Int32)), (.int (0 : Int32)), (.ref a)]))
  refine go (fun _ => XS.iloadN X84.here hx rfl (hb hby d_p15_m19_36) rfl) ?_
  show Run p e below _ (T84.setTop (mkF m 37 #[.val (.ref a), .val (.int (0 : Int32))] [(.int (0 : Int32)), (.ref s2), (.int xa), (.int (2 : Int32)), (.int (0 : Int32)), (.ref a)]))
  obtain ⟨cl85, Ar85, ak85, as85, an85, ah85, ag85⟩ := id V_s2
  have hin85 := inb_of as85 (j := (0 : Int32)) ⟨by decide, by decide⟩
  have hat85 := ah85.at hin85 (v := (.long ja)) rfl
  refine go (fun _ => X84.laload hx (j := (0 : Int32)) (v := (.long ja)) (by rw [e84]; exact Ar85.1) (State.isArrayOf_alike hZ.alike Ar85.2.1) Ar85.2.2 hin85 hat85 (g := (mkF m 37 #[.val (.ref a), .val (.int (0 : Int32))] [(.int (0 : Int32)), (.ref s2), (.int xa), (.int (2 : Int32)), (.int (0 : Int32)), (.ref a)])) rfl rfl (hb hby d_p15_m19_37) _) ?_
  show Run p e below _ (T84.setTop (mkF m 38 #[.val (.ref a), .val (.int (0 : Int32))] [(.long ja), (.int xa), (.int (2 : Int32)), (.int (0 : Int32)), (.ref a)]))
  refine go (fun _ => XS.aloadN X84.here hx rfl (hb hby d_p15_m19_38) rfl rfl) ?_
  show Run p e below _ (T84.setTop (mkF m 39 #[.val (.ref a), .val (.int (0 : Int32))] [(.ref a), (.long ja), (.int xa), (.int (2 : Int32)), (.int (0 : Int32)), (.ref a)]))
  obtain ⟨T86, X86, e86, st86⟩ := getF X84 hx hZ hown (host := "") (Or.inl (wd hw 19 rfl)) Via.refl e84 F_scores_a (g := (mkF m 39 #[.val (.ref a), .val (.int (0 : Int32))] [(.ref a), (.long ja), (.int xa), (.int (2 : Int32)), (.int (0 : Int32)), (.ref a)])) rfl rfl (hb hby d_p15_m19_39)
  refine go st86 ?_
  show Run p e below _ (T86.setTop (mkF m 42 #[.val (.ref a), .val (.int (0 : Int32))] [(.ref s3), (.long ja), (.int xa), (.int (2 : Int32)), (.int (0 : Int32)), (.ref a)]))
  refine go (fun _ => XS.iloadN X86.here hx rfl (hb hby d_p15_m19_42) rfl) ?_
  show Run p e below _ (T86.setTop (mkF m 43 #[.val (.ref a), .val (.int (0 : Int32))] [(.int (0 : Int32)), (.ref s3), (.long ja), (.int xa), (.int (2 : Int32)), (.int (0 : Int32)), (.ref a)]))
  obtain ⟨cl87, Ar87, ak87, as87, an87, ah87, ag87⟩ := id V_s3
  have hin87 := inb_of as87 (j := (0 : Int32)) ⟨by decide, by decide⟩
  have hat87 := ah87.at hin87 (v := (.double za)) rfl
  refine go (fun _ => X86.daload hx (j := (0 : Int32)) (v := (.double za)) (by rw [e86]; exact Ar87.1) (State.isArrayOf_alike hZ.alike Ar87.2.1) Ar87.2.2 hin87 hat87 (g := (mkF m 43 #[.val (.ref a), .val (.int (0 : Int32))] [(.int (0 : Int32)), (.ref s3), (.long ja), (.int xa), (.int (2 : Int32)), (.int (0 : Int32)), (.ref a)])) rfl rfl (hb hby d_p15_m19_43) _) ?_
  show Run p e below _ (T86.setTop (mkF m 44 #[.val (.ref a), .val (.int (0 : Int32))] [(.double za), (.long ja), (.int xa), (.int (2 : Int32)), (.int (0 : Int32)), (.ref a)]))
  refine go (fun _ => XS.aloadN X86.here hx rfl (hb hby d_p15_m19_44) rfl rfl) ?_
  show Run p e below _ (T86.setTop (mkF m 45 #[.val (.ref a), .val (.int (0 : Int32))] [(.ref a), (.double za), (.long ja), (.int xa), (.int (2 : Int32)), (.int (0 : Int32)), (.ref a)]))
  obtain ⟨T88, X88, e88, st88⟩ := getF X86 hx hZ hown (host := "") (Or.inl (wd hw 22 rfl)) Via.refl e86 F_shares_a (g := (mkF m 45 #[.val (.ref a), .val (.int (0 : Int32))] [(.ref a), (.double za), (.long ja), (.int xa), (.int (2 : Int32)), (.int (0 : Int32)), (.ref a)])) rfl rfl (hb hby d_p15_m19_45)
  refine go st88 ?_
  show Run p e below _ (T88.setTop (mkF m 48 #[.val (.ref a), .val (.int (0 : Int32))] [(.ref s4), (.double za), (.long ja), (.int xa), (.int (2 : Int32)), (.int (0 : Int32)), (.ref a)]))
  refine go (fun _ => XS.iloadN X88.here hx rfl (hb hby d_p15_m19_48) rfl) ?_
  show Run p e below _ (T88.setTop (mkF m 49 #[.val (.ref a), .val (.int (0 : Int32))] [(.int (0 : Int32)), (.ref s4), (.double za), (.long ja), (.int xa), (.int (2 : Int32)), (.int (0 : Int32)), (.ref a)]))
  obtain ⟨cl89, Ar89, ak89, as89, an89, ah89, ag89⟩ := id V_s4
  have hin89 := inb_of as89 (j := (0 : Int32)) ⟨by decide, by decide⟩
  have hat89 := ah89.at hin89 (v := (.int ra)) rfl
  refine go (fun _ => X88.caload hx (j := (0 : Int32)) (v := (.int ra)) (by rw [e88]; exact Ar89.1) (State.isArrayOf_alike hZ.alike Ar89.2.1) Ar89.2.2 hin89 hat89 (g := (mkF m 49 #[.val (.ref a), .val (.int (0 : Int32))] [(.int (0 : Int32)), (.ref s4), (.double za), (.long ja), (.int xa), (.int (2 : Int32)), (.int (0 : Int32)), (.ref a)])) rfl rfl (hb hby d_p15_m19_49) _) ?_
  show Run p e below _ (T88.setTop (mkF m 50 #[.val (.ref a), .val (.int (0 : Int32))] [(.int ra), (.double za), (.long ja), (.int xa), (.int (2 : Int32)), (.int (0 : Int32)), (.ref a)]))
  refine callPr X88 hx hZ hown (wd hw 100 rfl) (wd hw 102 rfl) (sel_priv (wd hw 1 rfl) (wd hw 102 rfl) (wd hw 101 rfl) (by decide)) (wd hw 101 rfl) (wd hw 103 rfl) (wd hw 2 rfl) (by decide) e88 E_a (argsL := [(.int (0 : Int32)), (.int (2 : Int32)), (.int xa), (.long ja), (.double za), (.int ra)]) (rest := []) (rm_sd2 l Z a0 hw [] a lo al kw ct (2 : Int32) sd od (0 : Int32) s1 s2 s3 s4 ks1 ks2 ks3 ks4 xa xb ja jb za zb ra rb xa ja za ra h0 n0 O0 E_a F_leftOut_a F_slots_a F_published_a F_scores_a F_shares_a F_alpha_a F_keywords_a F_count_a F_size_a F_scored_a F_ordered_a F_heap_a V_s1 V_s2 V_s3 V_s4 ne_s1_s2 ne_s1_s3 ne_s1_s4 ne_s2_s3 ne_s2_s4 ne_s3_s4 g_s1 g_s2 g_s3 g_s4 g_a hc) (W := 0) (by decide) (by decide) (by decide) (by decide) (by rw [hml]; rfl) (lenOf pd_7 rfl) rfl (Nat.le_of_eq rfl) (hb hby d_p15_m19_50) ?_
  intro v90 T90 L90 h90 X90 e90 q90
  have ne_a_s1 : a ≠ s1 := Exa.neArv E_a V_s1 (wd hw 1 rfl)
  have ne_a_s2 : a ≠ s2 := Exa.neArv E_a V_s2 (wd hw 1 rfl)
  have ne_a_s3 : a ≠ s3 := Exa.neArv E_a V_s3 (wd hw 1 rfl)
  have ne_a_s4 : a ≠ s4 := Exa.neArv E_a V_s4 (wd hw 1 rfl)
  obtain ⟨rv, n90, K90, V_s1, V_s2, V_s3, V_s4⟩ := q90
  subst rv
  have O0 := O0.keep K90 (allS g_s1 (allS g_s2 (allS g_s3 (allS g_s4 all0))))
  have E_a := E_a.keep K90
  have F_leftOut_a := F_leftOut_a.keep K90 (ninS ne_a_s1 (ninS ne_a_s2 (ninS ne_a_s3 (ninS ne_a_s4 nin0))))
  have F_slots_a := F_slots_a.keep K90 (ninS ne_a_s1 (ninS ne_a_s2 (ninS ne_a_s3 (ninS ne_a_s4 nin0))))
  have F_published_a := F_published_a.keep K90 (ninS ne_a_s1 (ninS ne_a_s2 (ninS ne_a_s3 (ninS ne_a_s4 nin0))))
  have F_scores_a := F_scores_a.keep K90 (ninS ne_a_s1 (ninS ne_a_s2 (ninS ne_a_s3 (ninS ne_a_s4 nin0))))
  have F_shares_a := F_shares_a.keep K90 (ninS ne_a_s1 (ninS ne_a_s2 (ninS ne_a_s3 (ninS ne_a_s4 nin0))))
  have F_alpha_a := F_alpha_a.keep K90 (ninS ne_a_s1 (ninS ne_a_s2 (ninS ne_a_s3 (ninS ne_a_s4 nin0))))
  have F_keywords_a := F_keywords_a.keep K90 (ninS ne_a_s1 (ninS ne_a_s2 (ninS ne_a_s3 (ninS ne_a_s4 nin0))))
  have F_count_a := F_count_a.keep K90 (ninS ne_a_s1 (ninS ne_a_s2 (ninS ne_a_s3 (ninS ne_a_s4 nin0))))
  have F_size_a := F_size_a.keep K90 (ninS ne_a_s1 (ninS ne_a_s2 (ninS ne_a_s3 (ninS ne_a_s4 nin0))))
  have F_scored_a := F_scored_a.keep K90 (ninS ne_a_s1 (ninS ne_a_s2 (ninS ne_a_s3 (ninS ne_a_s4 nin0))))
  have F_ordered_a := F_ordered_a.keep K90 (ninS ne_a_s1 (ninS ne_a_s2 (ninS ne_a_s3 (ninS ne_a_s4 nin0))))
  have F_heap_a := F_heap_a.keep K90 (ninS ne_a_s1 (ninS ne_a_s2 (ninS ne_a_s3 (ninS ne_a_s4 nin0))))
  have K0 := K0.trans K90 (allS (Or.inl (by simp)) (allS (Or.inl (by simp)) (allS (Or.inl (by simp)) (allS (Or.inl (by simp)) all0))))
  have N90 := Fr.app N0 n90
  show Run p e below _ (T90.setTop (mkF m 53 #[.val (.ref a), .val (.int (0 : Int32))] []))
  refine go (fun _ => XS.iinc X90.here hx rfl (hb hby d_p15_m19_53) rfl (l' := #[.val (.ref a), .val (.int (-1 : Int32))]) rfl) ?_
  show Run p e below _ (T90.setTop (mkF m 56 #[.val (.ref a), .val (.int (-1 : Int32))] []))
  refine go (fun _ => XS.goto X90.here hx rfl (pc0 := 56) (pc' := 16) rfl (hb hby d_p15_m19_56) (by decide) (by decide)) ?_
  show Run p e below _ (T90.setTop (mkF m 16 #[.val (.ref a), .val (.int (-1 : Int32))] []))
  refine go (fun _ => XS.iloadN X90.here hx rfl (hb hby d_p15_m19_16) rfl) ?_
  show Run p e below _ (T90.setTop (mkF m 17 #[.val (.ref a), .val (.int (-1 : Int32))] [(.int (-1 : Int32))]))
  refine go (fun _ => XS.ifYes X90.here hx rfl (pc0 := 17) (pc' := 59) rfl (hb hby d_p15_m19_17) rfl ((if0 _ _).trans (tlt (by decide : (-1 : Int32) < 0)).1) (by decide) (by decide)) ?_
  show Run p e below _ (T90.setTop (mkF m 59 #[.val (.ref a), .val (.int (-1 : Int32))] []))
  refine go (fun _ => XS.aloadN X90.here hx rfl (hb hby d_p15_m19_59) rfl rfl) ?_
  show Run p e below _ (T90.setTop (mkF m 60 #[.val (.ref a), .val (.int (-1 : Int32))] [(.ref a)]))
  refine go (fun _ => XS.iconst X90.here hx rfl (hb hby d_p15_m19_60)) ?_
  show Run p e below _ (T90.setTop (mkF m 61 #[.val (.ref a), .val (.int (-1 : Int32))] [(.int (1 : Int32)), (.ref a)]))
  obtain ⟨T91, h91, X91, e91, W91, st91⟩ := putFN X90 hx hZ hown (wd hw 42 rfl) Via.refl e90 F_heap_a E_a (Or.inl (wd hw 43 rfl)) (wd hw 1 rfl) (ty := .boolean) (v' := (.int (nar .boolean (1 : Int32)))) (by decide) rfl (fits_nar_bool _) (g := (mkF m 61 #[.val (.ref a), .val (.int (-1 : Int32))] [(.int (1 : Int32)), (.ref a)])) rfl rfl (hb hby d_p15_m19_61)
  have O0 := O0.wr W91 g_a
  have E_a := E_a.wr W91
  have F_leftOut_a := F_leftOut_a.other W91 (Or.inr (slot_ne (Or.inl (wd hw 11 rfl)) (Or.inl (wd hw 43 rfl)) (by decide) (t := .double) (t' := .boolean) (by decide) (by decide)))
  have F_slots_a := F_slots_a.other W91 (Or.inr (slot_ne (Or.inl (wd hw 14 rfl)) (Or.inl (wd hw 43 rfl)) (by decide) (t := (.array .int)) (t' := .boolean) (by decide) (by decide)))
  have F_published_a := F_published_a.other W91 (Or.inr (slot_ne (Or.inl (wd hw 17 rfl)) (Or.inl (wd hw 43 rfl)) (by decide) (t := (.array .long)) (t' := .boolean) (by decide) (by decide)))
  have F_scores_a := F_scores_a.other W91 (Or.inr (slot_ne (Or.inl (wd hw 20 rfl)) (Or.inl (wd hw 43 rfl)) (by decide) (t := (.array .double)) (t' := .boolean) (by decide) (by decide)))
  have F_shares_a := F_shares_a.other W91 (Or.inr (slot_ne (Or.inl (wd hw 23 rfl)) (Or.inl (wd hw 43 rfl)) (by decide) (t := (.array .char)) (t' := .boolean) (by decide) (by decide)))
  have F_alpha_a := F_alpha_a.other W91 (Or.inr (slot_ne (Or.inl (wd hw 31 rfl)) (Or.inl (wd hw 43 rfl)) (by decide) (t := .double) (t' := .boolean) (by decide) (by decide)))
  have F_keywords_a := F_keywords_a.other W91 (Or.inr (slot_ne (Or.inl (wd hw 33 rfl)) (Or.inl (wd hw 43 rfl)) (by decide) (t := .int) (t' := .boolean) (by decide) (by decide)))
  have F_count_a := F_count_a.other W91 (Or.inr (slot_ne (Or.inl (wd hw 35 rfl)) (Or.inl (wd hw 43 rfl)) (by decide) (t := .int) (t' := .boolean) (by decide) (by decide)))
  have F_size_a := F_size_a.other W91 (Or.inr (slot_ne (Or.inl (wd hw 37 rfl)) (Or.inl (wd hw 43 rfl)) (by decide) (t := .int) (t' := .boolean) (by decide) (by decide)))
  have F_scored_a := F_scored_a.other W91 (Or.inr (slot_ne (Or.inl (wd hw 39 rfl)) (Or.inl (wd hw 43 rfl)) (by decide) (t := .long) (t' := .boolean) (by decide) (by decide)))
  have F_ordered_a := F_ordered_a.other W91 (Or.inr (slot_ne (Or.inl (wd hw 41 rfl)) (Or.inl (wd hw 43 rfl)) (by decide) (t := .boolean) (t' := .boolean) (by decide) (by decide)))
  have F_heap_a := F_heap_a.same W91
  have K0 := K0.wr W91 (Or.inl (by simp))
  have V_s1 := V_s1.other W91 (Ne.symm ne_a_s1)
  have V_s2 := V_s2.other W91 (Ne.symm ne_a_s2)
  have V_s3 := V_s3.other W91 (Ne.symm ne_a_s3)
  have V_s4 := V_s4.other W91 (Ne.symm ne_a_s4)
  rw [nb1] at F_heap_a
  have N91 := Fr.snoc X91 N90 g_a
  refine go st91 ?_
  show Run p e below _ (T91.setTop (mkF m 64 #[.val (.ref a), .val (.int (-1 : Int32))] []))
  refine go (fun _ => XS.aloadN X91.here hx rfl (hb hby d_p15_m19_64) rfl rfl) ?_
  show Run p e below _ (T91.setTop (mkF m 65 #[.val (.ref a), .val (.int (-1 : Int32))] [(.ref a)]))
  obtain ⟨T92, X92, e92, st92⟩ := getF X91 hx hZ hown (host := "") (Or.inl (wd hw 19 rfl)) Via.refl e91 F_scores_a (g := (mkF m 65 #[.val (.ref a), .val (.int (-1 : Int32))] [(.ref a)])) rfl rfl (hb hby d_p15_m19_65)
  refine go st92 ?_
  show Run p e below _ (T92.setTop (mkF m 68 #[.val (.ref a), .val (.int (-1 : Int32))] [(.ref s3)]))
  refine go (fun _ => XS.iconst X92.here hx rfl (hb hby d_p15_m19_68)) ?_
  show Run p e below _ (T92.setTop (mkF m 69 #[.val (.ref a), .val (.int (-1 : Int32))] [(.int (0 : Int32)), (.ref s3)]))
  obtain ⟨cl93, Ar93, ak93, as93, an93, ah93, ag93⟩ := id V_s3
  have hin93 := inb_of as93 (j := (0 : Int32)) ⟨by decide, by decide⟩
  have hat93 := ah93.at hin93 (v := (.double zb)) rfl
  refine go (fun _ => X92.daload hx (j := (0 : Int32)) (v := (.double zb)) (by rw [e92]; exact Ar93.1) (State.isArrayOf_alike hZ.alike Ar93.2.1) Ar93.2.2 hin93 hat93 (g := (mkF m 69 #[.val (.ref a), .val (.int (-1 : Int32))] [(.int (0 : Int32)), (.ref s3)])) rfl rfl (hb hby d_p15_m19_69) _) ?_
  show Run p e below _ (T92.setTop (mkF m 70 #[.val (.ref a), .val (.int (-1 : Int32))] [(.double zb)]))
  exact endD X92 hx hlk hret (hb hby d_p15_m19_70) (by rw [e92]; exact ⟨rfl, N91, K0, E_a, F_leftOut_a, F_slots_a, F_published_a, F_scores_a, F_shares_a, F_alpha_a, F_keywords_a, F_count_a, F_size_a, F_scored_a, F_ordered_a, F_heap_a, V_s1, V_s2, V_s3, V_s4⟩) (by decide) (by decide)
theorem d_p15_m10_0 : decode prog_15_method_10_code 0 = .ok (.aload_n 0, 1) := by decide +kernel
theorem d_p15_m10_1 : decode prog_15_method_10_code 1 = .ok (.getfield 55, 3) := by decide +kernel
theorem d_p15_m10_4 : decode prog_15_method_10_code 4 = .ok (.ifCond .eq 4, 3) := by decide +kernel
theorem d_p15_m10_8 : decode prog_15_method_10_code 8 = .ok (.aload_n 0, 1) := by decide +kernel
theorem d_p15_m10_9 : decode prog_15_method_10_code 9 = .ok (.getfield 59, 3) := by decide +kernel
theorem d_p15_m10_12 : decode prog_15_method_10_code 12 = .ok (.ifCond .eq 71, 3) := by decide +kernel
theorem d_p15_m10_15 : decode prog_15_method_10_code 15 = .ok (.aload_n 0, 1) := by decide +kernel
theorem d_p15_m10_16 : decode prog_15_method_10_code 16 = .ok (.getfield 48, 3) := by decide +kernel
theorem d_p15_m10_19 : decode prog_15_method_10_code 19 = .ok (.iconst 1, 1) := by decide +kernel
theorem d_p15_m10_20 : decode prog_15_method_10_code 20 = .ok (.isub, 1) := by decide +kernel
theorem d_p15_m10_21 : decode prog_15_method_10_code 21 = .ok (.istore_n 1, 1) := by decide +kernel
theorem d_p15_m10_22 : decode prog_15_method_10_code 22 = .ok (.iload_n 1, 1) := by decide +kernel
theorem d_p15_m10_23 : decode prog_15_method_10_code 23 = .ok (.ifCond .le 57, 3) := by decide +kernel
theorem d_p15_m10_80 : decode prog_15_method_10_code 80 = .ok (.goto 7, 3) := by decide +kernel
theorem d_p15_m10_87 : decode prog_15_method_10_code 87 = .ok (.aload_n 0, 1) := by decide +kernel
theorem d_p15_m10_88 : decode prog_15_method_10_code 88 = .ok (.iconst 1, 1) := by decide +kernel
theorem d_p15_m10_89 : decode prog_15_method_10_code 89 = .ok (.putfield 55, 3) := by decide +kernel
theorem d_p15_m10_92 : decode prog_15_method_10_code 92 = .ok (.return_, 1) := by decide +kernel
def Q_rm_o1 (Z : State) (a : Addr) (lo al : UInt64) (kw ct : Int32) (sd : Int64) (s1 s2 s3 s4 : Addr) (h0 : Heap) (n0 : Nat) (v : Option Value) (h : Heap) (L : List Loc) : Prop := v = none ∧ Fr n0 L ∧ Keep h0 h [a] ∧ Exa Z h a "nearcast/engine/Best" ∧ Fld Z h a "nearcast/engine/Best" "leftOut" "D" (.double lo) ∧ Fld Z h a "nearcast/engine/Best" "slots" "[I" (.ref s1) ∧ Fld Z h a "nearcast/engine/Best" "published" "[J" (.ref s2) ∧ Fld Z h a "nearcast/engine/Best" "scores" "[D" (.ref s3) ∧ Fld Z h a "nearcast/engine/Best" "shares" "[C" (.ref s4) ∧ Fld Z h a "nearcast/engine/Best" "alpha" "D" (.double al) ∧ Fld Z h a "nearcast/engine/Best" "keywords" "I" (.int kw) ∧ Fld Z h a "nearcast/engine/Best" "count" "I" (.int ct) ∧ Fld Z h a "nearcast/engine/Best" "size" "I" (.int (1 : Int32)) ∧ Fld Z h a "nearcast/engine/Best" "scored" "J" (.long sd) ∧ Fld Z h a "nearcast/engine/Best" "ordered" "Z" (.int (1 : Int32)) ∧ Fld Z h a "nearcast/engine/Best" "heap" "Z" (.int (1 : Int32))
set_option maxRecDepth 65536 in
set_option maxHeartbeats 40000000 in
theorem rm_o1 (l : Launch) (Z : State) (a0 : Array Value) (hw : ∀ d ∈ tables_1, d.before a0 Z = true) (ws : List Jvm.Cond) (a : Addr) (lo al : UInt64) (kw ct : Int32) (sd : Int64) (s1 s2 s3 s4 : Addr) (h0 : Heap) (n0 : Nat) (O0 : Old Z n0 h0) (E_a : Exa Z h0 a "nearcast/engine/Best") (F_leftOut_a : Fld Z h0 a "nearcast/engine/Best" "leftOut" "D" (.double lo)) (F_slots_a : Fld Z h0 a "nearcast/engine/Best" "slots" "[I" (.ref s1)) (F_published_a : Fld Z h0 a "nearcast/engine/Best" "published" "[J" (.ref s2)) (F_scores_a : Fld Z h0 a "nearcast/engine/Best" "scores" "[D" (.ref s3)) (F_shares_a : Fld Z h0 a "nearcast/engine/Best" "shares" "[C" (.ref s4)) (F_alpha_a : Fld Z h0 a "nearcast/engine/Best" "alpha" "D" (.double al)) (F_keywords_a : Fld Z h0 a "nearcast/engine/Best" "keywords" "I" (.int kw)) (F_count_a : Fld Z h0 a "nearcast/engine/Best" "count" "I" (.int ct)) (F_size_a : Fld Z h0 a "nearcast/engine/Best" "size" "I" (.int (1 : Int32))) (F_scored_a : Fld Z h0 a "nearcast/engine/Best" "scored" "J" (.long sd)) (F_ordered_a : Fld Z h0 a "nearcast/engine/Best" "ordered" "Z" (.int (0 : Int32))) (F_heap_a : Fld Z h0 a "nearcast/engine/Best" "heap" "Z" (.int (1 : Int32))) (g_a : n0 ≤ a)  :
    Meets l (⟨"nearcast/engine/Best", "order", "()V"⟩ : MethodName) prog_15_method_10_code 8 none ws ({ frames := 0, cells := 0, slots := 0, locals := 0 } : Room) Z #[(.ref a)] h0 (Q_rm_o1 Z a lo al kw ct sd s1 s2 s3 s4 h0 n0) 0 0 := by
  refine enter (Ls := #[.val (.ref a), .unset, .unset, .unset, .unset, .unset, .unset, .unset]) (plainFor_of_name pn_3) (fun m => by first | (simp [entryFrame, mkF, argsToLocals, Value.category]; done) | rfl) ?_
  intro p e s m below meth c T0 hx hby hml hown hnm hret hlk hZ X0 e0
  have N0 := Fr.nil n0
  replace hown : s.vm.findClass "nearcast/engine/Best" = some m.cls := hown
  show Run p e below _ (T0.setTop (mkF m 0 #[.val (.ref a), .unset, .unset, .unset, .unset, .unset, .unset, .unset] []))
  have K0 := Keep.refl h0 [a]
  refine go (fun _ => XS.aloadN X0.here hx rfl (hb hby d_p15_m10_0) rfl rfl) ?_
  show Run p e below _ (T0.setTop (mkF m 1 #[.val (.ref a), .unset, .unset, .unset, .unset, .unset, .unset, .unset] [(.ref a)]))
  obtain ⟨T94, X94, e94, st94⟩ := getF X0 hx hZ hown (host := "") (Or.inl (wd hw 40 rfl)) Via.refl e0 F_ordered_a (g := (mkF m 1 #[.val (.ref a), .unset, .unset, .unset, .unset, .unset, .unset, .unset] [(.ref a)])) rfl rfl (hb hby d_p15_m10_1)
  refine go st94 ?_
  show Run p e below _ (T94.setTop (mkF m 4 #[.val (.ref a), .unset, .unset, .unset, .unset, .unset, .unset, .unset] [(.int (0 : Int32))]))
  refine go (fun _ => XS.ifYes X94.here hx rfl (pc0 := 4) (pc' := 8) rfl (hb hby d_p15_m10_4) rfl ((if0 _ _).trans (teq (by decide : (0 : Int32) = 0)).1) (by decide) (by decide)) ?_
  show Run p e below _ (T94.setTop (mkF m 8 #[.val (.ref a), .unset, .unset, .unset, .unset, .unset, .unset, .unset] []))
  refine go (fun _ => XS.aloadN X94.here hx rfl (hb hby d_p15_m10_8) rfl rfl) ?_
  show Run p e below _ (T94.setTop (mkF m 9 #[.val (.ref a), .unset, .unset, .unset, .unset, .unset, .unset, .unset] [(.ref a)]))
  obtain ⟨T95, X95, e95, st95⟩ := getF X94 hx hZ hown (host := "") (Or.inl (wd hw 42 rfl)) Via.refl e94 F_heap_a (g := (mkF m 9 #[.val (.ref a), .unset, .unset, .unset, .unset, .unset, .unset, .unset] [(.ref a)])) rfl rfl (hb hby d_p15_m10_9)
  refine go st95 ?_
  show Run p e below _ (T95.setTop (mkF m 12 #[.val (.ref a), .unset, .unset, .unset, .unset, .unset, .unset, .unset] [(.int (1 : Int32))]))
  refine go (fun _ => XS.ifNo X95.here hx rfl (hb hby d_p15_m10_12) rfl ((if0 _ _).trans (feq (by decide : ¬ ((1 : Int32) = 0))).1)) ?_
  show Run p e below _ (T95.setTop (mkF m 15 #[.val (.ref a), .unset, .unset, .unset, .unset, .unset, .unset, .unset] []))
  refine go (fun _ => XS.aloadN X95.here hx rfl (hb hby d_p15_m10_15) rfl rfl) ?_
  show Run p e below _ (T95.setTop (mkF m 16 #[.val (.ref a), .unset, .unset, .unset, .unset, .unset, .unset, .unset] [(.ref a)]))
  obtain ⟨T96, X96, e96, st96⟩ := getF X95 hx hZ hown (host := "") (Or.inl (wd hw 36 rfl)) Via.refl e95 F_size_a (g := (mkF m 16 #[.val (.ref a), .unset, .unset, .unset, .unset, .unset, .unset, .unset] [(.ref a)])) rfl rfl (hb hby d_p15_m10_16)
  refine go st96 ?_
  show Run p e below _ (T96.setTop (mkF m 19 #[.val (.ref a), .unset, .unset, .unset, .unset, .unset, .unset, .unset] [(.int (1 : Int32))]))
  refine go (fun _ => XS.iconst X96.here hx rfl (hb hby d_p15_m10_19)) ?_
  show Run p e below _ (T96.setTop (mkF m 20 #[.val (.ref a), .unset, .unset, .unset, .unset, .unset, .unset, .unset] [(.int (1 : Int32)), (.int (1 : Int32))]))
  refine go (fun _ => XS.isub X96.here hx rfl (hb hby d_p15_m10_20) rfl) ?_
  show Run p e below _ (T96.setTop (mkF m 21 #[.val (.ref a), .unset, .unset, .unset, .unset, .unset, .unset, .unset] [(.int (0 : Int32))]))
  refine go (fun _ => XS.istoreN X96.here hx rfl (hb hby d_p15_m10_21) rfl (l' := #[.val (.ref a), .val (.int (0 : Int32)), .unset, .unset, .unset, .unset, .unset, .unset]) rfl) ?_
  show Run p e below _ (T96.setTop (mkF m 22 #[.val (.ref a), .val (.int (0 : Int32)), .unset, .unset, .unset, .unset, .unset, .unset] []))
  refine go (fun _ => XS.iloadN X96.here hx rfl (hb hby d_p15_m10_22) rfl) ?_
  show Run p e below _ (T96.setTop (mkF m 23 #[.val (.ref a), .val (.int (0 : Int32)), .unset, .unset, .unset, .unset, .unset, .unset] [(.int (0 : Int32))]))
  refine go (fun _ => XS.ifYes X96.here hx rfl (pc0 := 23) (pc' := 80) rfl (hb hby d_p15_m10_23) rfl ((if0 _ _).trans (flt (by decide : ¬ ((0 : Int32) < 0))).2.2.2) (by decide) (by decide)) ?_
  show Run p e below _ (T96.setTop (mkF m 80 #[.val (.ref a), .val (.int (0 : Int32)), .unset, .unset, .unset, .unset, .unset, .unset] []))
  refine go (fun _ => XS.goto X96.here hx rfl (pc0 := 80) (pc' := 87) rfl (hb hby d_p15_m10_80) (by decide) (by decide)) ?_
  show Run p e below _ (T96.setTop (mkF m 87 #[.val (.ref a), .val (.int (0 : Int32)), .unset, .unset, .unset, .unset, .unset, .unset] []))
  refine go (fun _ => XS.aloadN X96.here hx rfl (hb hby d_p15_m10_87) rfl rfl) ?_
  show Run p e below _ (T96.setTop (mkF m 88 #[.val (.ref a), .val (.int (0 : Int32)), .unset, .unset, .unset, .unset, .unset, .unset] [(.ref a)]))
  refine go (fun _ => XS.iconst X96.here hx rfl (hb hby d_p15_m10_88)) ?_
  show Run p e below _ (T96.setTop (mkF m 89 #[.val (.ref a), .val (.int (0 : Int32)), .unset, .unset, .unset, .unset, .unset, .unset] [(.int (1 : Int32)), (.ref a)]))
  obtain ⟨T97, h97, X97, e97, W97, st97⟩ := putFN X96 hx hZ hown (wd hw 40 rfl) Via.refl e96 F_ordered_a E_a (Or.inl (wd hw 41 rfl)) (wd hw 1 rfl) (ty := .boolean) (v' := (.int (nar .boolean (1 : Int32)))) (by decide) rfl (fits_nar_bool _) (g := (mkF m 89 #[.val (.ref a), .val (.int (0 : Int32)), .unset, .unset, .unset, .unset, .unset, .unset] [(.int (1 : Int32)), (.ref a)])) rfl rfl (hb hby d_p15_m10_89)
  have O0 := O0.wr W97 g_a
  have E_a := E_a.wr W97
  have F_leftOut_a := F_leftOut_a.other W97 (Or.inr (slot_ne (Or.inl (wd hw 11 rfl)) (Or.inl (wd hw 41 rfl)) (by decide) (t := .double) (t' := .boolean) (by decide) (by decide)))
  have F_slots_a := F_slots_a.other W97 (Or.inr (slot_ne (Or.inl (wd hw 14 rfl)) (Or.inl (wd hw 41 rfl)) (by decide) (t := (.array .int)) (t' := .boolean) (by decide) (by decide)))
  have F_published_a := F_published_a.other W97 (Or.inr (slot_ne (Or.inl (wd hw 17 rfl)) (Or.inl (wd hw 41 rfl)) (by decide) (t := (.array .long)) (t' := .boolean) (by decide) (by decide)))
  have F_scores_a := F_scores_a.other W97 (Or.inr (slot_ne (Or.inl (wd hw 20 rfl)) (Or.inl (wd hw 41 rfl)) (by decide) (t := (.array .double)) (t' := .boolean) (by decide) (by decide)))
  have F_shares_a := F_shares_a.other W97 (Or.inr (slot_ne (Or.inl (wd hw 23 rfl)) (Or.inl (wd hw 41 rfl)) (by decide) (t := (.array .char)) (t' := .boolean) (by decide) (by decide)))
  have F_alpha_a := F_alpha_a.other W97 (Or.inr (slot_ne (Or.inl (wd hw 31 rfl)) (Or.inl (wd hw 41 rfl)) (by decide) (t := .double) (t' := .boolean) (by decide) (by decide)))
  have F_keywords_a := F_keywords_a.other W97 (Or.inr (slot_ne (Or.inl (wd hw 33 rfl)) (Or.inl (wd hw 41 rfl)) (by decide) (t := .int) (t' := .boolean) (by decide) (by decide)))
  have F_count_a := F_count_a.other W97 (Or.inr (slot_ne (Or.inl (wd hw 35 rfl)) (Or.inl (wd hw 41 rfl)) (by decide) (t := .int) (t' := .boolean) (by decide) (by decide)))
  have F_size_a := F_size_a.other W97 (Or.inr (slot_ne (Or.inl (wd hw 37 rfl)) (Or.inl (wd hw 41 rfl)) (by decide) (t := .int) (t' := .boolean) (by decide) (by decide)))
  have F_scored_a := F_scored_a.other W97 (Or.inr (slot_ne (Or.inl (wd hw 39 rfl)) (Or.inl (wd hw 41 rfl)) (by decide) (t := .long) (t' := .boolean) (by decide) (by decide)))
  have F_ordered_a := F_ordered_a.same W97
  have F_heap_a := F_heap_a.other W97 (Or.inr (slot_ne (Or.inl (wd hw 43 rfl)) (Or.inl (wd hw 41 rfl)) (by decide) (t := .boolean) (t' := .boolean) (by decide) (by decide)))
  have K0 := K0.wr W97 (Or.inl (by simp))
  rw [nb1] at F_ordered_a
  have N97 := Fr.snoc X97 N0 g_a
  refine go st97 ?_
  show Run p e below _ (T97.setTop (mkF m 92 #[.val (.ref a), .val (.int (0 : Int32)), .unset, .unset, .unset, .unset, .unset, .unset] []))
  exact endV X97 hx hlk hret (hb hby d_p15_m10_92) (by rw [e97]; exact ⟨rfl, N97, K0, E_a, F_leftOut_a, F_slots_a, F_published_a, F_scores_a, F_shares_a, F_alpha_a, F_keywords_a, F_count_a, F_size_a, F_scored_a, F_ordered_a, F_heap_a⟩) (by decide) (by decide)
theorem d_p15_m10_26 : decode prog_15_method_10_code 26 = .ok (.aload_n 0, 1) := by decide +kernel
theorem d_p15_m10_27 : decode prog_15_method_10_code 27 = .ok (.getfield 22, 3) := by decide +kernel
theorem d_p15_m10_30 : decode prog_15_method_10_code 30 = .ok (.iload_n 1, 1) := by decide +kernel
theorem d_p15_m10_31 : decode prog_15_method_10_code 31 = .ok (.iaload, 1) := by decide +kernel
theorem d_p15_m10_32 : decode prog_15_method_10_code 32 = .ok (.istore_n 2, 1) := by decide +kernel
theorem d_p15_m10_33 : decode prog_15_method_10_code 33 = .ok (.aload_n 0, 1) := by decide +kernel
theorem d_p15_m10_34 : decode prog_15_method_10_code 34 = .ok (.getfield 26, 3) := by decide +kernel
theorem d_p15_m10_37 : decode prog_15_method_10_code 37 = .ok (.iload_n 1, 1) := by decide +kernel
theorem d_p15_m10_38 : decode prog_15_method_10_code 38 = .ok (.laload, 1) := by decide +kernel
theorem d_p15_m10_39 : decode prog_15_method_10_code 39 = .ok (.lstore_n 3, 1) := by decide +kernel
theorem d_p15_m10_40 : decode prog_15_method_10_code 40 = .ok (.aload_n 0, 1) := by decide +kernel
theorem d_p15_m10_41 : decode prog_15_method_10_code 41 = .ok (.getfield 30, 3) := by decide +kernel
theorem d_p15_m10_44 : decode prog_15_method_10_code 44 = .ok (.iload_n 1, 1) := by decide +kernel
theorem d_p15_m10_45 : decode prog_15_method_10_code 45 = .ok (.daload, 1) := by decide +kernel
theorem d_p15_m10_46 : decode prog_15_method_10_code 46 = .ok (.dstore 5, 2) := by decide +kernel
theorem d_p15_m10_48 : decode prog_15_method_10_code 48 = .ok (.aload_n 0, 1) := by decide +kernel
theorem d_p15_m10_49 : decode prog_15_method_10_code 49 = .ok (.getfield 34, 3) := by decide +kernel
theorem d_p15_m10_52 : decode prog_15_method_10_code 52 = .ok (.iload_n 1, 1) := by decide +kernel
theorem d_p15_m10_53 : decode prog_15_method_10_code 53 = .ok (.caload, 1) := by decide +kernel
theorem d_p15_m10_54 : decode prog_15_method_10_code 54 = .ok (.istore 7, 2) := by decide +kernel
theorem d_p15_m10_56 : decode prog_15_method_10_code 56 = .ok (.aload_n 0, 1) := by decide +kernel
theorem d_p15_m10_57 : decode prog_15_method_10_code 57 = .ok (.iload_n 1, 1) := by decide +kernel
theorem d_p15_m10_58 : decode prog_15_method_10_code 58 = .ok (.iconst 0, 1) := by decide +kernel
theorem d_p15_m10_59 : decode prog_15_method_10_code 59 = .ok (.invokevirtual 131, 3) := by decide +kernel
theorem d_p15_m10_62 : decode prog_15_method_10_code 62 = .ok (.aload_n 0, 1) := by decide +kernel
theorem d_p15_m10_63 : decode prog_15_method_10_code 63 = .ok (.iconst 0, 1) := by decide +kernel
theorem d_p15_m10_64 : decode prog_15_method_10_code 64 = .ok (.iload_n 1, 1) := by decide +kernel
theorem d_p15_m10_65 : decode prog_15_method_10_code 65 = .ok (.iload_n 2, 1) := by decide +kernel
theorem d_p15_m10_66 : decode prog_15_method_10_code 66 = .ok (.lload_n 3, 1) := by decide +kernel
theorem d_p15_m10_67 : decode prog_15_method_10_code 67 = .ok (.dload 5, 2) := by decide +kernel
theorem d_p15_m10_69 : decode prog_15_method_10_code 69 = .ok (.iload 7, 2) := by decide +kernel
theorem d_p15_m10_71 : decode prog_15_method_10_code 71 = .ok (.invokevirtual 123, 3) := by decide +kernel
theorem d_p15_m10_74 : decode prog_15_method_10_code 74 = .ok (.iinc 1 (-1), 3) := by decide +kernel
theorem d_p15_m10_77 : decode prog_15_method_10_code 77 = .ok (.goto (-55), 3) := by decide +kernel
def Q_rm_o2 (Z : State) (a : Addr) (lo al : UInt64) (kw ct : Int32) (sd : Int64) (s1 s2 s3 s4 : Addr) (ks1 ks2 ks3 ks4 : ClassId) (xa xb : Int32) (ja jb : Int64) (za zb : UInt64) (ra rb : Int32) (h0 : Heap) (n0 : Nat) (v : Option Value) (h : Heap) (L : List Loc) : Prop := v = none ∧ Fr n0 L ∧ Keep h0 h [a, s1, s2, s3, s4] ∧ Exa Z h a "nearcast/engine/Best" ∧ Fld Z h a "nearcast/engine/Best" "leftOut" "D" (.double lo) ∧ Fld Z h a "nearcast/engine/Best" "slots" "[I" (.ref s1) ∧ Fld Z h a "nearcast/engine/Best" "published" "[J" (.ref s2) ∧ Fld Z h a "nearcast/engine/Best" "scores" "[D" (.ref s3) ∧ Fld Z h a "nearcast/engine/Best" "shares" "[C" (.ref s4) ∧ Fld Z h a "nearcast/engine/Best" "alpha" "D" (.double al) ∧ Fld Z h a "nearcast/engine/Best" "keywords" "I" (.int kw) ∧ Fld Z h a "nearcast/engine/Best" "count" "I" (.int ct) ∧ Fld Z h a "nearcast/engine/Best" "size" "I" (.int (2 : Int32)) ∧ Fld Z h a "nearcast/engine/Best" "scored" "J" (.long sd) ∧ Fld Z h a "nearcast/engine/Best" "ordered" "Z" (.int (1 : Int32)) ∧ Fld Z h a "nearcast/engine/Best" "heap" "Z" (.int (1 : Int32)) ∧ Arv Z h s1 ks1 .int (16 : Int32) [(.int xb), (.int xa), (.int (0 : Int32)), (.int (0 : Int32)), (.int (0 : Int32)), (.int (0 : Int32)), (.int (0 : Int32)), (.int (0 : Int32)), (.int (0 : Int32)), (.int (0 : Int32)), (.int (0 : Int32)), (.int (0 : Int32)), (.int (0 : Int32)), (.int (0 : Int32)), (.int (0 : Int32)), (.int (0 : Int32))] (.int (0 : Int32)) ∧ Arv Z h s2 ks2 .long (16 : Int32) [(.long jb), (.long ja), (.long (0 : Int64)), (.long (0 : Int64)), (.long (0 : Int64)), (.long (0 : Int64)), (.long (0 : Int64)), (.long (0 : Int64)), (.long (0 : Int64)), (.long (0 : Int64)), (.long (0 : Int64)), (.long (0 : Int64)), (.long (0 : Int64)), (.long (0 : Int64)), (.long (0 : Int64)), (.long (0 : Int64))] (.long (0 : Int64)) ∧ Arv Z h s3 ks3 .double (16 : Int32) [(.double zb), (.double za), (.double (0 : UInt64)), (.double (0 : UInt64)), (.double (0 : UInt64)), (.double (0 : UInt64)), (.double (0 : UInt64)), (.double (0 : UInt64)), (.double (0 : UInt64)), (.double (0 : UInt64)), (.double (0 : UInt64)), (.double (0 : UInt64)), (.double (0 : UInt64)), (.double (0 : UInt64)), (.double (0 : UInt64)), (.double (0 : UInt64))] (.double (0 : UInt64)) ∧ Arv Z h s4 ks4 .char (16 : Int32) [(.int (nar .char rb)), (.int (nar .char ra)), (.int (0 : Int32)), (.int (0 : Int32)), (.int (0 : Int32)), (.int (0 : Int32)), (.int (0 : Int32)), (.int (0 : Int32)), (.int (0 : Int32)), (.int (0 : Int32)), (.int (0 : Int32)), (.int (0 : Int32)), (.int (0 : Int32)), (.int (0 : Int32)), (.int (0 : Int32)), (.int (0 : Int32))] (.int (0 : Int32))
set_option maxRecDepth 65536 in
set_option maxHeartbeats 40000000 in
theorem rm_o2 (l : Launch) (Z : State) (a0 : Array Value) (hw : ∀ d ∈ tables_1, d.before a0 Z = true) (ws : List Jvm.Cond) (a : Addr) (lo al : UInt64) (kw ct : Int32) (sd : Int64) (s1 s2 s3 s4 : Addr) (ks1 ks2 ks3 ks4 : ClassId) (xa xb : Int32) (ja jb : Int64) (za zb : UInt64) (ra rb : Int32) (h0 : Heap) (n0 : Nat) (O0 : Old Z n0 h0) (E_a : Exa Z h0 a "nearcast/engine/Best") (F_leftOut_a : Fld Z h0 a "nearcast/engine/Best" "leftOut" "D" (.double lo)) (F_slots_a : Fld Z h0 a "nearcast/engine/Best" "slots" "[I" (.ref s1)) (F_published_a : Fld Z h0 a "nearcast/engine/Best" "published" "[J" (.ref s2)) (F_scores_a : Fld Z h0 a "nearcast/engine/Best" "scores" "[D" (.ref s3)) (F_shares_a : Fld Z h0 a "nearcast/engine/Best" "shares" "[C" (.ref s4)) (F_alpha_a : Fld Z h0 a "nearcast/engine/Best" "alpha" "D" (.double al)) (F_keywords_a : Fld Z h0 a "nearcast/engine/Best" "keywords" "I" (.int kw)) (F_count_a : Fld Z h0 a "nearcast/engine/Best" "count" "I" (.int ct)) (F_size_a : Fld Z h0 a "nearcast/engine/Best" "size" "I" (.int (2 : Int32))) (F_scored_a : Fld Z h0 a "nearcast/engine/Best" "scored" "J" (.long sd)) (F_ordered_a : Fld Z h0 a "nearcast/engine/Best" "ordered" "Z" (.int (0 : Int32))) (F_heap_a : Fld Z h0 a "nearcast/engine/Best" "heap" "Z" (.int (1 : Int32))) (V_s1 : Arv Z h0 s1 ks1 .int (16 : Int32) [(.int xa), (.int xb), (.int (0 : Int32)), (.int (0 : Int32)), (.int (0 : Int32)), (.int (0 : Int32)), (.int (0 : Int32)), (.int (0 : Int32)), (.int (0 : Int32)), (.int (0 : Int32)), (.int (0 : Int32)), (.int (0 : Int32)), (.int (0 : Int32)), (.int (0 : Int32)), (.int (0 : Int32)), (.int (0 : Int32))] (.int (0 : Int32))) (V_s2 : Arv Z h0 s2 ks2 .long (16 : Int32) [(.long ja), (.long jb), (.long (0 : Int64)), (.long (0 : Int64)), (.long (0 : Int64)), (.long (0 : Int64)), (.long (0 : Int64)), (.long (0 : Int64)), (.long (0 : Int64)), (.long (0 : Int64)), (.long (0 : Int64)), (.long (0 : Int64)), (.long (0 : Int64)), (.long (0 : Int64)), (.long (0 : Int64)), (.long (0 : Int64))] (.long (0 : Int64))) (V_s3 : Arv Z h0 s3 ks3 .double (16 : Int32) [(.double za), (.double zb), (.double (0 : UInt64)), (.double (0 : UInt64)), (.double (0 : UInt64)), (.double (0 : UInt64)), (.double (0 : UInt64)), (.double (0 : UInt64)), (.double (0 : UInt64)), (.double (0 : UInt64)), (.double (0 : UInt64)), (.double (0 : UInt64)), (.double (0 : UInt64)), (.double (0 : UInt64)), (.double (0 : UInt64)), (.double (0 : UInt64))] (.double (0 : UInt64))) (V_s4 : Arv Z h0 s4 ks4 .char (16 : Int32) [(.int ra), (.int rb), (.int (0 : Int32)), (.int (0 : Int32)), (.int (0 : Int32)), (.int (0 : Int32)), (.int (0 : Int32)), (.int (0 : Int32)), (.int (0 : Int32)), (.int (0 : Int32)), (.int (0 : Int32)), (.int (0 : Int32)), (.int (0 : Int32)), (.int (0 : Int32)), (.int (0 : Int32)), (.int (0 : Int32))] (.int (0 : Int32))) (ne_s1_s2 : s1 ≠ s2) (ne_s1_s3 : s1 ≠ s3) (ne_s1_s4 : s1 ≠ s4) (ne_s2_s3 : s2 ≠ s3) (ne_s2_s4 : s2 ≠ s4) (ne_s3_s4 : s3 ≠ s4) (g_s1 : n0 ≤ s1) (g_s2 : n0 ≤ s2) (g_s3 : n0 ≤ s3) (g_s4 : n0 ≤ s4) (g_a : n0 ≤ a)  :
    Meets l (⟨"nearcast/engine/Best", "order", "()V"⟩ : MethodName) prog_15_method_10_code 8 none ws ({ frames := 2, cells := 0, slots := 0, locals := 41 } : Room) Z #[(.ref a)] h0 (Q_rm_o2 Z a lo al kw ct sd s1 s2 s3 s4 ks1 ks2 ks3 ks4 xa xb ja jb za zb ra rb h0 n0) 0 0 := by
  refine enter (Ls := #[.val (.ref a), .unset, .unset, .unset, .unset, .unset, .unset, .unset]) (plainFor_of_name pn_3) (fun m => by first | (simp [entryFrame, mkF, argsToLocals, Value.category]; done) | rfl) ?_
  intro p e s m below meth c T0 hx hby hml hown hnm hret hlk hZ X0 e0
  have N0 := Fr.nil n0
  replace hown : s.vm.findClass "nearcast/engine/Best" = some m.cls := hown
  show Run p e below _ (T0.setTop (mkF m 0 #[.val (.ref a), .unset, .unset, .unset, .unset, .unset, .unset, .unset] []))
  have K0 := Keep.refl h0 [a, s1, s2, s3, s4]
  refine go (fun _ => XS.aloadN X0.here hx rfl (hb hby d_p15_m10_0) rfl rfl) ?_
  show Run p e below _ (T0.setTop (mkF m 1 #[.val (.ref a), .unset, .unset, .unset, .unset, .unset, .unset, .unset] [(.ref a)]))
  obtain ⟨T98, X98, e98, st98⟩ := getF X0 hx hZ hown (host := "") (Or.inl (wd hw 40 rfl)) Via.refl e0 F_ordered_a (g := (mkF m 1 #[.val (.ref a), .unset, .unset, .unset, .unset, .unset, .unset, .unset] [(.ref a)])) rfl rfl (hb hby d_p15_m10_1)
  refine go st98 ?_
  show Run p e below _ (T98.setTop (mkF m 4 #[.val (.ref a), .unset, .unset, .unset, .unset, .unset, .unset, .unset] [(.int (0 : Int32))]))
  refine go (fun _ => XS.ifYes X98.here hx rfl (pc0 := 4) (pc' := 8) rfl (hb hby d_p15_m10_4) rfl ((if0 _ _).trans (teq (by decide : (0 : Int32) = 0)).1) (by decide) (by decide)) ?_
  show Run p e below _ (T98.setTop (mkF m 8 #[.val (.ref a), .unset, .unset, .unset, .unset, .unset, .unset, .unset] []))
  refine go (fun _ => XS.aloadN X98.here hx rfl (hb hby d_p15_m10_8) rfl rfl) ?_
  show Run p e below _ (T98.setTop (mkF m 9 #[.val (.ref a), .unset, .unset, .unset, .unset, .unset, .unset, .unset] [(.ref a)]))
  obtain ⟨T99, X99, e99, st99⟩ := getF X98 hx hZ hown (host := "") (Or.inl (wd hw 42 rfl)) Via.refl e98 F_heap_a (g := (mkF m 9 #[.val (.ref a), .unset, .unset, .unset, .unset, .unset, .unset, .unset] [(.ref a)])) rfl rfl (hb hby d_p15_m10_9)
  refine go st99 ?_
  show Run p e below _ (T99.setTop (mkF m 12 #[.val (.ref a), .unset, .unset, .unset, .unset, .unset, .unset, .unset] [(.int (1 : Int32))]))
  refine go (fun _ => XS.ifNo X99.here hx rfl (hb hby d_p15_m10_12) rfl ((if0 _ _).trans (feq (by decide : ¬ ((1 : Int32) = 0))).1)) ?_
  show Run p e below _ (T99.setTop (mkF m 15 #[.val (.ref a), .unset, .unset, .unset, .unset, .unset, .unset, .unset] []))
  refine go (fun _ => XS.aloadN X99.here hx rfl (hb hby d_p15_m10_15) rfl rfl) ?_
  show Run p e below _ (T99.setTop (mkF m 16 #[.val (.ref a), .unset, .unset, .unset, .unset, .unset, .unset, .unset] [(.ref a)]))
  obtain ⟨T100, X100, e100, st100⟩ := getF X99 hx hZ hown (host := "") (Or.inl (wd hw 36 rfl)) Via.refl e99 F_size_a (g := (mkF m 16 #[.val (.ref a), .unset, .unset, .unset, .unset, .unset, .unset, .unset] [(.ref a)])) rfl rfl (hb hby d_p15_m10_16)
  refine go st100 ?_
  show Run p e below _ (T100.setTop (mkF m 19 #[.val (.ref a), .unset, .unset, .unset, .unset, .unset, .unset, .unset] [(.int (2 : Int32))]))
  refine go (fun _ => XS.iconst X100.here hx rfl (hb hby d_p15_m10_19)) ?_
  show Run p e below _ (T100.setTop (mkF m 20 #[.val (.ref a), .unset, .unset, .unset, .unset, .unset, .unset, .unset] [(.int (1 : Int32)), (.int (2 : Int32))]))
  refine go (fun _ => XS.isub X100.here hx rfl (hb hby d_p15_m10_20) rfl) ?_
  show Run p e below _ (T100.setTop (mkF m 21 #[.val (.ref a), .unset, .unset, .unset, .unset, .unset, .unset, .unset] [(.int (1 : Int32))]))
  refine go (fun _ => XS.istoreN X100.here hx rfl (hb hby d_p15_m10_21) rfl (l' := #[.val (.ref a), .val (.int (1 : Int32)), .unset, .unset, .unset, .unset, .unset, .unset]) rfl) ?_
  show Run p e below _ (T100.setTop (mkF m 22 #[.val (.ref a), .val (.int (1 : Int32)), .unset, .unset, .unset, .unset, .unset, .unset] []))
  refine go (fun _ => XS.iloadN X100.here hx rfl (hb hby d_p15_m10_22) rfl) ?_
  show Run p e below _ (T100.setTop (mkF m 23 #[.val (.ref a), .val (.int (1 : Int32)), .unset, .unset, .unset, .unset, .unset, .unset] [(.int (1 : Int32))]))
  refine go (fun _ => XS.ifNo X100.here hx rfl (hb hby d_p15_m10_23) rfl ((if0 _ _).trans (tlt (by decide : (0 : Int32) < 1)).2.2.2)) ?_
  show Run p e below _ (T100.setTop (mkF m 26 #[.val (.ref a), .val (.int (1 : Int32)), .unset, .unset, .unset, .unset, .unset, .unset] []))
  refine go (fun _ => XS.aloadN X100.here hx rfl (hb hby d_p15_m10_26) rfl rfl) ?_
  show Run p e below _ (T100.setTop (mkF m 27 #[.val (.ref a), .val (.int (1 : Int32)), .unset, .unset, .unset, .unset, .unset, .unset] [(.ref a)]))
  obtain ⟨T101, X101, e101, st101⟩ := getF X100 hx hZ hown (host := "") (Or.inl (wd hw 13 rfl)) Via.refl e100 F_slots_a (g := (mkF m 27 #[.val (.ref a), .val (.int (1 : Int32)), .unset, .unset, .unset, .unset, .unset, .unset] [(.ref a)])) rfl rfl (hb hby d_p15_m10_27)
  refine go st101 ?_
  show Run p e below _ (T101.setTop (mkF m 30 #[.val (.ref a), .val (.int (1 : Int32)), .unset, .unset, .unset, .unset, .unset, .unset] [(.ref s1)]))
  refine go (fun _ => XS.iloadN X101.here hx rfl (hb hby d_p15_m10_30) rfl) ?_
  show Run p e below _ (T101.setTop (mkF m 31 #[.val (.ref a), .val (.int (1 : Int32)), .unset, .unset, .unset, .unset, .unset, .unset] [(.int (1 : Int32)), (.ref s1)]))
  obtain ⟨cl102, Ar102, ak102, as102, an102, ah102, ag102⟩ := id V_s1
  have hin102 := inb_of as102 (j := (1 : Int32)) ⟨by decide, by decide⟩
  have hat102 := ah102.at hin102 (v := (.int xb)) rfl
  refine go (fun _ => X101.iaload hx (j := (1 : Int32)) (v := (.int xb)) (by rw [e101]; exact Ar102.1) (State.isArrayOf_alike hZ.alike Ar102.2.1) Ar102.2.2 hin102 hat102 (g := (mkF m 31 #[.val (.ref a), .val (.int (1 : Int32)), .unset, .unset, .unset, .unset, .unset, .unset] [(.int (1 : Int32)), (.ref s1)])) rfl rfl (hb hby d_p15_m10_31) _) ?_
  show Run p e below _ (T101.setTop (mkF m 32 #[.val (.ref a), .val (.int (1 : Int32)), .unset, .unset, .unset, .unset, .unset, .unset] [(.int xb)]))
  refine go (fun _ => XS.istoreN X101.here hx rfl (hb hby d_p15_m10_32) rfl (l' := #[.val (.ref a), .val (.int (1 : Int32)), .val (.int xb), .unset, .unset, .unset, .unset, .unset]) rfl) ?_
  show Run p e below _ (T101.setTop (mkF m 33 #[.val (.ref a), .val (.int (1 : Int32)), .val (.int xb), .unset, .unset, .unset, .unset, .unset] []))
  refine go (fun _ => XS.aloadN X101.here hx rfl (hb hby d_p15_m10_33) rfl rfl) ?_
  show Run p e below _ (T101.setTop (mkF m 34 #[.val (.ref a), .val (.int (1 : Int32)), .val (.int xb), .unset, .unset, .unset, .unset, .unset] [(.ref a)]))
  obtain ⟨T103, X103, e103, st103⟩ := getF X101 hx hZ hown (host := "") (Or.inl (wd hw 16 rfl)) Via.refl e101 F_published_a (g := (mkF m 34 #[.val (.ref a), .val (.int (1 : Int32)), .val (.int xb), .unset, .unset, .unset, .unset, .unset] [(.ref a)])) rfl rfl (hb hby d_p15_m10_34)
  refine go st103 ?_
  show Run p e below _ (T103.setTop (mkF m 37 #[.val (.ref a), .val (.int (1 : Int32)), .val (.int xb), .unset, .unset, .unset, .unset, .unset] [(.ref s2)]))
  refine go (fun _ => XS.iloadN X103.here hx rfl (hb hby d_p15_m10_37) rfl) ?_
  show Run p e below _ (T103.setTop (mkF m 38 #[.val (.ref a), .val (.int (1 : Int32)), .val (.int xb), .unset, .unset, .unset, .unset, .unset] [(.int (1 : Int32)), (.ref s2)]))
  obtain ⟨cl104, Ar104, ak104, as104, an104, ah104, ag104⟩ := id V_s2
  have hin104 := inb_of as104 (j := (1 : Int32)) ⟨by decide, by decide⟩
  have hat104 := ah104.at hin104 (v := (.long jb)) rfl
  refine go (fun _ => X103.laload hx (j := (1 : Int32)) (v := (.long jb)) (by rw [e103]; exact Ar104.1) (State.isArrayOf_alike hZ.alike Ar104.2.1) Ar104.2.2 hin104 hat104 (g := (mkF m 38 #[.val (.ref a), .val (.int (1 : Int32)), .val (.int xb), .unset, .unset, .unset, .unset, .unset] [(.int (1 : Int32)), (.ref s2)])) rfl rfl (hb hby d_p15_m10_38) _) ?_
  show Run p e below _ (T103.setTop (mkF m 39 #[.val (.ref a), .val (.int (1 : Int32)), .val (.int xb), .unset, .unset, .unset, .unset, .unset] [(.long jb)]))
  refine go (fun _ => XS.lstoreN X103.here hx rfl (hb hby d_p15_m10_39) rfl (l' := #[.val (.ref a), .val (.int (1 : Int32)), .val (.int xb), .val (.long jb), .second, .unset, .unset, .unset]) rfl) ?_
  show Run p e below _ (T103.setTop (mkF m 40 #[.val (.ref a), .val (.int (1 : Int32)), .val (.int xb), .val (.long jb), .second, .unset, .unset, .unset] []))
  refine go (fun _ => XS.aloadN X103.here hx rfl (hb hby d_p15_m10_40) rfl rfl) ?_
  show Run p e below _ (T103.setTop (mkF m 41 #[.val (.ref a), .val (.int (1 : Int32)), .val (.int xb), .val (.long jb), .second, .unset, .unset, .unset] [(.ref a)]))
  obtain ⟨T105, X105, e105, st105⟩ := getF X103 hx hZ hown (host := "") (Or.inl (wd hw 19 rfl)) Via.refl e103 F_scores_a (g := (mkF m 41 #[.val (.ref a), .val (.int (1 : Int32)), .val (.int xb), .val (.long jb), .second, .unset, .unset, .unset] [(.ref a)])) rfl rfl (hb hby d_p15_m10_41)
  refine go st105 ?_
  show Run p e below _ (T105.setTop (mkF m 44 #[.val (.ref a), .val (.int (1 : Int32)), .val (.int xb), .val (.long jb), .second, .unset, .unset, .unset] [(.ref s3)]))
  refine go (fun _ => XS.iloadN X105.here hx rfl (hb hby d_p15_m10_44) rfl) ?_
  show Run p e below _ (T105.setTop (mkF m 45 #[.val (.ref a), .val (.int (1 : Int32)), .val (.int xb), .val (.long jb), .second, .unset, .unset, .unset] [(.int (1 : Int32)), (.ref s3)]))
  obtain ⟨cl106, Ar106, ak106, as106, an106, ah106, ag106⟩ := id V_s3
  have hin106 := inb_of as106 (j := (1 : Int32)) ⟨by decide, by decide⟩
  have hat106 := ah106.at hin106 (v := (.double zb)) rfl
  refine go (fun _ => X105.daload hx (j := (1 : Int32)) (v := (.double zb)) (by rw [e105]; exact Ar106.1) (State.isArrayOf_alike hZ.alike Ar106.2.1) Ar106.2.2 hin106 hat106 (g := (mkF m 45 #[.val (.ref a), .val (.int (1 : Int32)), .val (.int xb), .val (.long jb), .second, .unset, .unset, .unset] [(.int (1 : Int32)), (.ref s3)])) rfl rfl (hb hby d_p15_m10_45) _) ?_
  show Run p e below _ (T105.setTop (mkF m 46 #[.val (.ref a), .val (.int (1 : Int32)), .val (.int xb), .val (.long jb), .second, .unset, .unset, .unset] [(.double zb)]))
  refine go (fun _ => XS.dstore X105.here hx rfl (hb hby d_p15_m10_46) rfl (l' := #[.val (.ref a), .val (.int (1 : Int32)), .val (.int xb), .val (.long jb), .second, .val (.double zb), .second, .unset]) rfl) ?_
  show Run p e below _ (T105.setTop (mkF m 48 #[.val (.ref a), .val (.int (1 : Int32)), .val (.int xb), .val (.long jb), .second, .val (.double zb), .second, .unset] []))
  refine go (fun _ => XS.aloadN X105.here hx rfl (hb hby d_p15_m10_48) rfl rfl) ?_
  show Run p e below _ (T105.setTop (mkF m 49 #[.val (.ref a), .val (.int (1 : Int32)), .val (.int xb), .val (.long jb), .second, .val (.double zb), .second, .unset] [(.ref a)]))
  obtain ⟨T107, X107, e107, st107⟩ := getF X105 hx hZ hown (host := "") (Or.inl (wd hw 22 rfl)) Via.refl e105 F_shares_a (g := (mkF m 49 #[.val (.ref a), .val (.int (1 : Int32)), .val (.int xb), .val (.long jb), .second, .val (.double zb), .second, .unset] [(.ref a)])) rfl rfl (hb hby d_p15_m10_49)
  refine go st107 ?_
  show Run p e below _ (T107.setTop (mkF m 52 #[.val (.ref a), .val (.int (1 : Int32)), .val (.int xb), .val (.long jb), .second, .val (.double zb), .second, .unset] [(.ref s4)]))
  refine go (fun _ => XS.iloadN X107.here hx rfl (hb hby d_p15_m10_52) rfl) ?_
  show Run p e below _ (T107.setTop (mkF m 53 #[.val (.ref a), .val (.int (1 : Int32)), .val (.int xb), .val (.long jb), .second, .val (.double zb), .second, .unset] [(.int (1 : Int32)), (.ref s4)]))
  obtain ⟨cl108, Ar108, ak108, as108, an108, ah108, ag108⟩ := id V_s4
  have hin108 := inb_of as108 (j := (1 : Int32)) ⟨by decide, by decide⟩
  have hat108 := ah108.at hin108 (v := (.int rb)) rfl
  refine go (fun _ => X107.caload hx (j := (1 : Int32)) (v := (.int rb)) (by rw [e107]; exact Ar108.1) (State.isArrayOf_alike hZ.alike Ar108.2.1) Ar108.2.2 hin108 hat108 (g := (mkF m 53 #[.val (.ref a), .val (.int (1 : Int32)), .val (.int xb), .val (.long jb), .second, .val (.double zb), .second, .unset] [(.int (1 : Int32)), (.ref s4)])) rfl rfl (hb hby d_p15_m10_53) _) ?_
  show Run p e below _ (T107.setTop (mkF m 54 #[.val (.ref a), .val (.int (1 : Int32)), .val (.int xb), .val (.long jb), .second, .val (.double zb), .second, .unset] [(.int rb)]))
  refine go (fun _ => XS.istore X107.here hx rfl (hb hby d_p15_m10_54) rfl (l' := #[.val (.ref a), .val (.int (1 : Int32)), .val (.int xb), .val (.long jb), .second, .val (.double zb), .second, .val (.int rb)]) rfl) ?_
  show Run p e below _ (T107.setTop (mkF m 56 #[.val (.ref a), .val (.int (1 : Int32)), .val (.int xb), .val (.long jb), .second, .val (.double zb), .second, .val (.int rb)] []))
  refine go (fun _ => XS.aloadN X107.here hx rfl (hb hby d_p15_m10_56) rfl rfl) ?_
  show Run p e below _ (T107.setTop (mkF m 57 #[.val (.ref a), .val (.int (1 : Int32)), .val (.int xb), .val (.long jb), .second, .val (.double zb), .second, .val (.int rb)] [(.ref a)]))
  refine go (fun _ => XS.iloadN X107.here hx rfl (hb hby d_p15_m10_57) rfl) ?_
  show Run p e below _ (T107.setTop (mkF m 58 #[.val (.ref a), .val (.int (1 : Int32)), .val (.int xb), .val (.long jb), .second, .val (.double zb), .second, .val (.int rb)] [(.int (1 : Int32)), (.ref a)]))
  refine go (fun _ => XS.iconst X107.here hx rfl (hb hby d_p15_m10_58)) ?_
  show Run p e below _ (T107.setTop (mkF m 59 #[.val (.ref a), .val (.int (1 : Int32)), .val (.int xb), .val (.long jb), .second, .val (.double zb), .second, .val (.int rb)] [(.int (0 : Int32)), (.int (1 : Int32)), (.ref a)]))
  refine callPr X107 hx hZ hown (wd hw 104 rfl) (wd hw 106 rfl) (sel_priv (wd hw 1 rfl) (wd hw 106 rfl) (wd hw 105 rfl) (by decide)) (wd hw 105 rfl) (wd hw 107 rfl) (wd hw 2 rfl) (by decide) e107 E_a (argsL := [(.int (1 : Int32)), (.int (0 : Int32))]) (rest := []) (rm_put10 l Z a0 hw [] a lo al kw ct (2 : Int32) sd (0 : Int32) (1 : Int32) s1 s2 s3 s4 ks1 ks2 ks3 ks4 xa xb ja jb za zb ra rb h0 n0 O0 E_a F_leftOut_a F_slots_a F_published_a F_scores_a F_shares_a F_alpha_a F_keywords_a F_count_a F_size_a F_scored_a F_ordered_a F_heap_a V_s1 V_s2 V_s3 V_s4 ne_s1_s2 ne_s1_s3 ne_s1_s4 ne_s2_s3 ne_s2_s4 ne_s3_s4 g_s1 g_s2 g_s3 g_s4 g_a ) (W := 0) (by decide) (by decide) (by decide) (by decide) (by rw [hml]; rfl) (lenOf pd_5 rfl) rfl (Nat.le_of_eq rfl) (hb hby d_p15_m10_59) ?_
  intro v109 T109 L109 h109 X109 e109 q109
  have ne_a_s1 : a ≠ s1 := Exa.neArv E_a V_s1 (wd hw 1 rfl)
  have ne_a_s2 : a ≠ s2 := Exa.neArv E_a V_s2 (wd hw 1 rfl)
  have ne_a_s3 : a ≠ s3 := Exa.neArv E_a V_s3 (wd hw 1 rfl)
  have ne_a_s4 : a ≠ s4 := Exa.neArv E_a V_s4 (wd hw 1 rfl)
  obtain ⟨rv, n109, K109, V_s1, V_s2, V_s3, V_s4⟩ := q109
  subst rv
  have O0 := O0.keep K109 (allS g_s1 (allS g_s2 (allS g_s3 (allS g_s4 all0))))
  have E_a := E_a.keep K109
  have F_leftOut_a := F_leftOut_a.keep K109 (ninS ne_a_s1 (ninS ne_a_s2 (ninS ne_a_s3 (ninS ne_a_s4 nin0))))
  have F_slots_a := F_slots_a.keep K109 (ninS ne_a_s1 (ninS ne_a_s2 (ninS ne_a_s3 (ninS ne_a_s4 nin0))))
  have F_published_a := F_published_a.keep K109 (ninS ne_a_s1 (ninS ne_a_s2 (ninS ne_a_s3 (ninS ne_a_s4 nin0))))
  have F_scores_a := F_scores_a.keep K109 (ninS ne_a_s1 (ninS ne_a_s2 (ninS ne_a_s3 (ninS ne_a_s4 nin0))))
  have F_shares_a := F_shares_a.keep K109 (ninS ne_a_s1 (ninS ne_a_s2 (ninS ne_a_s3 (ninS ne_a_s4 nin0))))
  have F_alpha_a := F_alpha_a.keep K109 (ninS ne_a_s1 (ninS ne_a_s2 (ninS ne_a_s3 (ninS ne_a_s4 nin0))))
  have F_keywords_a := F_keywords_a.keep K109 (ninS ne_a_s1 (ninS ne_a_s2 (ninS ne_a_s3 (ninS ne_a_s4 nin0))))
  have F_count_a := F_count_a.keep K109 (ninS ne_a_s1 (ninS ne_a_s2 (ninS ne_a_s3 (ninS ne_a_s4 nin0))))
  have F_size_a := F_size_a.keep K109 (ninS ne_a_s1 (ninS ne_a_s2 (ninS ne_a_s3 (ninS ne_a_s4 nin0))))
  have F_scored_a := F_scored_a.keep K109 (ninS ne_a_s1 (ninS ne_a_s2 (ninS ne_a_s3 (ninS ne_a_s4 nin0))))
  have F_ordered_a := F_ordered_a.keep K109 (ninS ne_a_s1 (ninS ne_a_s2 (ninS ne_a_s3 (ninS ne_a_s4 nin0))))
  have F_heap_a := F_heap_a.keep K109 (ninS ne_a_s1 (ninS ne_a_s2 (ninS ne_a_s3 (ninS ne_a_s4 nin0))))
  have K0 := K0.trans K109 (allS (Or.inl (by simp)) (allS (Or.inl (by simp)) (allS (Or.inl (by simp)) (allS (Or.inl (by simp)) all0))))
  have N109 := Fr.app N0 n109
  show Run p e below _ (T109.setTop (mkF m 62 #[.val (.ref a), .val (.int (1 : Int32)), .val (.int xb), .val (.long jb), .second, .val (.double zb), .second, .val (.int rb)] []))
  refine go (fun _ => XS.aloadN X109.here hx rfl (hb hby d_p15_m10_62) rfl rfl) ?_
  show Run p e below _ (T109.setTop (mkF m 63 #[.val (.ref a), .val (.int (1 : Int32)), .val (.int xb), .val (.long jb), .second, .val (.double zb), .second, .val (.int rb)] [(.ref a)]))
  refine go (fun _ => XS.iconst X109.here hx rfl (hb hby d_p15_m10_63)) ?_
  show Run p e below _ (T109.setTop (mkF m 64 #[.val (.ref a), .val (.int (1 : Int32)), .val (.int xb), .val (.long jb), .second, .val (.double zb), .second, .val (.int rb)] [(.int (0 : Int32)), (.ref a)]))
  refine go (fun _ => XS.iloadN X109.here hx rfl (hb hby d_p15_m10_64) rfl) ?_
  show Run p e below _ (T109.setTop (mkF m 65 #[.val (.ref a), .val (.int (1 : Int32)), .val (.int xb), .val (.long jb), .second, .val (.double zb), .second, .val (.int rb)] [(.int (1 : Int32)), (.int (0 : Int32)), (.ref a)]))
  refine go (fun _ => XS.iloadN X109.here hx rfl (hb hby d_p15_m10_65) rfl) ?_
  show Run p e below _ (T109.setTop (mkF m 66 #[.val (.ref a), .val (.int (1 : Int32)), .val (.int xb), .val (.long jb), .second, .val (.double zb), .second, .val (.int rb)] [(.int xb), (.int (1 : Int32)), (.int (0 : Int32)), (.ref a)]))
  refine go (fun _ => XS.lloadN X109.here hx rfl (hb hby d_p15_m10_66) rfl) ?_
  show Run p e below _ (T109.setTop (mkF m 67 #[.val (.ref a), .val (.int (1 : Int32)), .val (.int xb), .val (.long jb), .second, .val (.double zb), .second, .val (.int rb)] [(.long jb), (.int xb), (.int (1 : Int32)), (.int (0 : Int32)), (.ref a)]))
  refine go (fun _ => XS.dload X109.here hx rfl (hb hby d_p15_m10_67) rfl) ?_
  show Run p e below _ (T109.setTop (mkF m 69 #[.val (.ref a), .val (.int (1 : Int32)), .val (.int xb), .val (.long jb), .second, .val (.double zb), .second, .val (.int rb)] [(.double zb), (.long jb), (.int xb), (.int (1 : Int32)), (.int (0 : Int32)), (.ref a)]))
  refine go (fun _ => XS.iload X109.here hx rfl (hb hby d_p15_m10_69) rfl) ?_
  show Run p e below _ (T109.setTop (mkF m 71 #[.val (.ref a), .val (.int (1 : Int32)), .val (.int xb), .val (.long jb), .second, .val (.double zb), .second, .val (.int rb)] [(.int rb), (.double zb), (.long jb), (.int xb), (.int (1 : Int32)), (.int (0 : Int32)), (.ref a)]))
  refine callPr X109 hx hZ hown (wd hw 100 rfl) (wd hw 102 rfl) (sel_priv (wd hw 1 rfl) (wd hw 102 rfl) (wd hw 101 rfl) (by decide)) (wd hw 101 rfl) (wd hw 103 rfl) (wd hw 2 rfl) (by decide) e109 E_a (argsL := [(.int (0 : Int32)), (.int (1 : Int32)), (.int xb), (.long jb), (.double zb), (.int rb)]) (rest := []) (rm_sd1 l Z a0 hw [] a lo al kw ct (2 : Int32) sd (0 : Int32) (1 : Int32) s1 s2 s3 s4 ks1 ks2 ks3 ks4 xa xa ja ja za za ra (nar .char ra) xb jb zb rb h109 n0 O0 E_a F_leftOut_a F_slots_a F_published_a F_scores_a F_shares_a F_alpha_a F_keywords_a F_count_a F_size_a F_scored_a F_ordered_a F_heap_a V_s1 V_s2 V_s3 V_s4 ne_s1_s2 ne_s1_s3 ne_s1_s4 ne_s2_s3 ne_s2_s4 ne_s3_s4 g_s1 g_s2 g_s3 g_s4 g_a ) (W := 0) (by decide) (by decide) (by decide) (by decide) (by rw [hml]; rfl) (lenOf pd_7 rfl) rfl (Nat.le_of_eq rfl) (hb hby d_p15_m10_71) ?_
  intro v110 T110 L110 h110 X110 e110 q110
  obtain ⟨rv, n110, K110, V_s1, V_s2, V_s3, V_s4⟩ := q110
  subst rv
  have O0 := O0.keep K110 (allS g_s1 (allS g_s2 (allS g_s3 (allS g_s4 all0))))
  have E_a := E_a.keep K110
  have F_leftOut_a := F_leftOut_a.keep K110 (ninS ne_a_s1 (ninS ne_a_s2 (ninS ne_a_s3 (ninS ne_a_s4 nin0))))
  have F_slots_a := F_slots_a.keep K110 (ninS ne_a_s1 (ninS ne_a_s2 (ninS ne_a_s3 (ninS ne_a_s4 nin0))))
  have F_published_a := F_published_a.keep K110 (ninS ne_a_s1 (ninS ne_a_s2 (ninS ne_a_s3 (ninS ne_a_s4 nin0))))
  have F_scores_a := F_scores_a.keep K110 (ninS ne_a_s1 (ninS ne_a_s2 (ninS ne_a_s3 (ninS ne_a_s4 nin0))))
  have F_shares_a := F_shares_a.keep K110 (ninS ne_a_s1 (ninS ne_a_s2 (ninS ne_a_s3 (ninS ne_a_s4 nin0))))
  have F_alpha_a := F_alpha_a.keep K110 (ninS ne_a_s1 (ninS ne_a_s2 (ninS ne_a_s3 (ninS ne_a_s4 nin0))))
  have F_keywords_a := F_keywords_a.keep K110 (ninS ne_a_s1 (ninS ne_a_s2 (ninS ne_a_s3 (ninS ne_a_s4 nin0))))
  have F_count_a := F_count_a.keep K110 (ninS ne_a_s1 (ninS ne_a_s2 (ninS ne_a_s3 (ninS ne_a_s4 nin0))))
  have F_size_a := F_size_a.keep K110 (ninS ne_a_s1 (ninS ne_a_s2 (ninS ne_a_s3 (ninS ne_a_s4 nin0))))
  have F_scored_a := F_scored_a.keep K110 (ninS ne_a_s1 (ninS ne_a_s2 (ninS ne_a_s3 (ninS ne_a_s4 nin0))))
  have F_ordered_a := F_ordered_a.keep K110 (ninS ne_a_s1 (ninS ne_a_s2 (ninS ne_a_s3 (ninS ne_a_s4 nin0))))
  have F_heap_a := F_heap_a.keep K110 (ninS ne_a_s1 (ninS ne_a_s2 (ninS ne_a_s3 (ninS ne_a_s4 nin0))))
  have K0 := K0.trans K110 (allS (Or.inl (by simp)) (allS (Or.inl (by simp)) (allS (Or.inl (by simp)) (allS (Or.inl (by simp)) all0))))
  have N110 := Fr.app N109 n110
  show Run p e below _ (T110.setTop (mkF m 74 #[.val (.ref a), .val (.int (1 : Int32)), .val (.int xb), .val (.long jb), .second, .val (.double zb), .second, .val (.int rb)] []))
  refine go (fun _ => XS.iinc X110.here hx rfl (hb hby d_p15_m10_74) rfl (l' := #[.val (.ref a), .val (.int (0 : Int32)), .val (.int xb), .val (.long jb), .second, .val (.double zb), .second, .val (.int rb)]) rfl) ?_
  show Run p e below _ (T110.setTop (mkF m 77 #[.val (.ref a), .val (.int (0 : Int32)), .val (.int xb), .val (.long jb), .second, .val (.double zb), .second, .val (.int rb)] []))
  refine go (fun _ => XS.goto X110.here hx rfl (pc0 := 77) (pc' := 22) rfl (hb hby d_p15_m10_77) (by decide) (by decide)) ?_
  show Run p e below _ (T110.setTop (mkF m 22 #[.val (.ref a), .val (.int (0 : Int32)), .val (.int xb), .val (.long jb), .second, .val (.double zb), .second, .val (.int rb)] []))
  refine go (fun _ => XS.iloadN X110.here hx rfl (hb hby d_p15_m10_22) rfl) ?_
  show Run p e below _ (T110.setTop (mkF m 23 #[.val (.ref a), .val (.int (0 : Int32)), .val (.int xb), .val (.long jb), .second, .val (.double zb), .second, .val (.int rb)] [(.int (0 : Int32))]))
  refine go (fun _ => XS.ifYes X110.here hx rfl (pc0 := 23) (pc' := 80) rfl (hb hby d_p15_m10_23) rfl ((if0 _ _).trans (flt (by decide : ¬ ((0 : Int32) < 0))).2.2.2) (by decide) (by decide)) ?_
  show Run p e below _ (T110.setTop (mkF m 80 #[.val (.ref a), .val (.int (0 : Int32)), .val (.int xb), .val (.long jb), .second, .val (.double zb), .second, .val (.int rb)] []))
  refine go (fun _ => XS.goto X110.here hx rfl (pc0 := 80) (pc' := 87) rfl (hb hby d_p15_m10_80) (by decide) (by decide)) ?_
  show Run p e below _ (T110.setTop (mkF m 87 #[.val (.ref a), .val (.int (0 : Int32)), .val (.int xb), .val (.long jb), .second, .val (.double zb), .second, .val (.int rb)] []))
  refine go (fun _ => XS.aloadN X110.here hx rfl (hb hby d_p15_m10_87) rfl rfl) ?_
  show Run p e below _ (T110.setTop (mkF m 88 #[.val (.ref a), .val (.int (0 : Int32)), .val (.int xb), .val (.long jb), .second, .val (.double zb), .second, .val (.int rb)] [(.ref a)]))
  refine go (fun _ => XS.iconst X110.here hx rfl (hb hby d_p15_m10_88)) ?_
  show Run p e below _ (T110.setTop (mkF m 89 #[.val (.ref a), .val (.int (0 : Int32)), .val (.int xb), .val (.long jb), .second, .val (.double zb), .second, .val (.int rb)] [(.int (1 : Int32)), (.ref a)]))
  obtain ⟨T111, h111, X111, e111, W111, st111⟩ := putFN X110 hx hZ hown (wd hw 40 rfl) Via.refl e110 F_ordered_a E_a (Or.inl (wd hw 41 rfl)) (wd hw 1 rfl) (ty := .boolean) (v' := (.int (nar .boolean (1 : Int32)))) (by decide) rfl (fits_nar_bool _) (g := (mkF m 89 #[.val (.ref a), .val (.int (0 : Int32)), .val (.int xb), .val (.long jb), .second, .val (.double zb), .second, .val (.int rb)] [(.int (1 : Int32)), (.ref a)])) rfl rfl (hb hby d_p15_m10_89)
  have O0 := O0.wr W111 g_a
  have E_a := E_a.wr W111
  have F_leftOut_a := F_leftOut_a.other W111 (Or.inr (slot_ne (Or.inl (wd hw 11 rfl)) (Or.inl (wd hw 41 rfl)) (by decide) (t := .double) (t' := .boolean) (by decide) (by decide)))
  have F_slots_a := F_slots_a.other W111 (Or.inr (slot_ne (Or.inl (wd hw 14 rfl)) (Or.inl (wd hw 41 rfl)) (by decide) (t := (.array .int)) (t' := .boolean) (by decide) (by decide)))
  have F_published_a := F_published_a.other W111 (Or.inr (slot_ne (Or.inl (wd hw 17 rfl)) (Or.inl (wd hw 41 rfl)) (by decide) (t := (.array .long)) (t' := .boolean) (by decide) (by decide)))
  have F_scores_a := F_scores_a.other W111 (Or.inr (slot_ne (Or.inl (wd hw 20 rfl)) (Or.inl (wd hw 41 rfl)) (by decide) (t := (.array .double)) (t' := .boolean) (by decide) (by decide)))
  have F_shares_a := F_shares_a.other W111 (Or.inr (slot_ne (Or.inl (wd hw 23 rfl)) (Or.inl (wd hw 41 rfl)) (by decide) (t := (.array .char)) (t' := .boolean) (by decide) (by decide)))
  have F_alpha_a := F_alpha_a.other W111 (Or.inr (slot_ne (Or.inl (wd hw 31 rfl)) (Or.inl (wd hw 41 rfl)) (by decide) (t := .double) (t' := .boolean) (by decide) (by decide)))
  have F_keywords_a := F_keywords_a.other W111 (Or.inr (slot_ne (Or.inl (wd hw 33 rfl)) (Or.inl (wd hw 41 rfl)) (by decide) (t := .int) (t' := .boolean) (by decide) (by decide)))
  have F_count_a := F_count_a.other W111 (Or.inr (slot_ne (Or.inl (wd hw 35 rfl)) (Or.inl (wd hw 41 rfl)) (by decide) (t := .int) (t' := .boolean) (by decide) (by decide)))
  have F_size_a := F_size_a.other W111 (Or.inr (slot_ne (Or.inl (wd hw 37 rfl)) (Or.inl (wd hw 41 rfl)) (by decide) (t := .int) (t' := .boolean) (by decide) (by decide)))
  have F_scored_a := F_scored_a.other W111 (Or.inr (slot_ne (Or.inl (wd hw 39 rfl)) (Or.inl (wd hw 41 rfl)) (by decide) (t := .long) (t' := .boolean) (by decide) (by decide)))
  have F_ordered_a := F_ordered_a.same W111
  have F_heap_a := F_heap_a.other W111 (Or.inr (slot_ne (Or.inl (wd hw 43 rfl)) (Or.inl (wd hw 41 rfl)) (by decide) (t := .boolean) (t' := .boolean) (by decide) (by decide)))
  have K0 := K0.wr W111 (Or.inl (by simp))
  have V_s1 := V_s1.other W111 (Ne.symm ne_a_s1)
  have V_s2 := V_s2.other W111 (Ne.symm ne_a_s2)
  have V_s3 := V_s3.other W111 (Ne.symm ne_a_s3)
  have V_s4 := V_s4.other W111 (Ne.symm ne_a_s4)
  rw [nb1] at F_ordered_a
  have N111 := Fr.snoc X111 N110 g_a
  refine go st111 ?_
  show Run p e below _ (T111.setTop (mkF m 92 #[.val (.ref a), .val (.int (0 : Int32)), .val (.int xb), .val (.long jb), .second, .val (.double zb), .second, .val (.int rb)] []))
  exact endV X111 hx hlk hret (hb hby d_p15_m10_92) (by rw [e111]; exact ⟨rfl, N111, K0, E_a, F_leftOut_a, F_slots_a, F_published_a, F_scores_a, F_shares_a, F_alpha_a, F_keywords_a, F_count_a, F_size_a, F_scored_a, F_ordered_a, F_heap_a, V_s1, V_s2, V_s3, V_s4⟩) (by decide) (by decide)
theorem d_p15_m5_0 : decode prog_15_method_5_code 0 = .ok (.aload_n 0, 1) := by decide +kernel
theorem d_p15_m5_1 : decode prog_15_method_5_code 1 = .ok (.getfield 55, 3) := by decide +kernel
theorem d_p15_m5_4 : decode prog_15_method_5_code 4 = .ok (.ifCond .eq 13, 3) := by decide +kernel
theorem d_p15_m5_17 : decode prog_15_method_5_code 17 = .ok (.aload_n 0, 1) := by decide +kernel
theorem d_p15_m5_18 : decode prog_15_method_5_code 18 = .ok (.dup, 1) := by decide +kernel
theorem d_p15_m5_19 : decode prog_15_method_5_code 19 = .ok (.getfield 51, 3) := by decide +kernel
theorem d_p15_m5_22 : decode prog_15_method_5_code 22 = .ok (.lconst 1, 1) := by decide +kernel
theorem d_p15_m5_23 : decode prog_15_method_5_code 23 = .ok (.ladd, 1) := by decide +kernel
theorem d_p15_m5_24 : decode prog_15_method_5_code 24 = .ok (.putfield 51, 3) := by decide +kernel
theorem d_p15_m5_27 : decode prog_15_method_5_code 27 = .ok (.aload_n 0, 1) := by decide +kernel
theorem d_p15_m5_28 : decode prog_15_method_5_code 28 = .ok (.getfield 38, 3) := by decide +kernel
theorem d_p15_m5_31 : decode prog_15_method_5_code 31 = .ok (.dload 4, 2) := by decide +kernel
theorem d_p15_m5_33 : decode prog_15_method_5_code 33 = .ok (.iload 6, 2) := by decide +kernel
theorem d_p15_m5_35 : decode prog_15_method_5_code 35 = .ok (.iload 7, 2) := by decide +kernel
theorem d_p15_m5_37 : decode prog_15_method_5_code 37 = .ok (.invokestatic 95, 3) := by decide +kernel
theorem pd_8 : parseMethodDescriptor "(DDII)D" = some ⟨[.double, .double, .int, .int], some .double⟩ := by decide +kernel
theorem d_p15_m5_40 : decode prog_15_method_5_code 40 = .ok (.dstore 8, 2) := by decide +kernel
theorem d_p15_m5_42 : decode prog_15_method_5_code 42 = .ok (.iload 6, 2) := by decide +kernel
theorem d_p15_m5_44 : decode prog_15_method_5_code 44 = .ok (.iload 7, 2) := by decide +kernel
theorem d_p15_m5_46 : decode prog_15_method_5_code 46 = .ok (.invokestatic 99, 3) := by decide +kernel
theorem pd_9 : parseMethodDescriptor "(II)C" = some ⟨[.int, .int], some .char⟩ := by decide +kernel
theorem d_p15_m5_49 : decode prog_15_method_5_code 49 = .ok (.istore 10, 2) := by decide +kernel
theorem d_p15_m5_51 : decode prog_15_method_5_code 51 = .ok (.aload_n 0, 1) := by decide +kernel
theorem d_p15_m5_52 : decode prog_15_method_5_code 52 = .ok (.getfield 48, 3) := by decide +kernel
theorem d_p15_m5_55 : decode prog_15_method_5_code 55 = .ok (.aload_n 0, 1) := by decide +kernel
theorem d_p15_m5_56 : decode prog_15_method_5_code 56 = .ok (.getfield 45, 3) := by decide +kernel
theorem d_p15_m5_59 : decode prog_15_method_5_code 59 = .ok (.if_icmp .ge 43, 3) := by decide +kernel
theorem d_p15_m5_62 : decode prog_15_method_5_code 62 = .ok (.aload_n 0, 1) := by decide +kernel
theorem d_p15_m5_63 : decode prog_15_method_5_code 63 = .ok (.getfield 48, 3) := by decide +kernel
theorem d_p15_m5_66 : decode prog_15_method_5_code 66 = .ok (.aload_n 0, 1) := by decide +kernel
theorem d_p15_m5_67 : decode prog_15_method_5_code 67 = .ok (.getfield 22, 3) := by decide +kernel
theorem d_p15_m5_70 : decode prog_15_method_5_code 70 = .ok (.arraylength, 1) := by decide +kernel
theorem d_p15_m5_71 : decode prog_15_method_5_code 71 = .ok (.if_icmp .ne 7, 3) := by decide +kernel
theorem d_p15_m5_78 : decode prog_15_method_5_code 78 = .ok (.aload_n 0, 1) := by decide +kernel
theorem d_p15_m5_79 : decode prog_15_method_5_code 79 = .ok (.aload_n 0, 1) := by decide +kernel
theorem d_p15_m5_80 : decode prog_15_method_5_code 80 = .ok (.dup, 1) := by decide +kernel
theorem d_p15_m5_81 : decode prog_15_method_5_code 81 = .ok (.getfield 48, 3) := by decide +kernel
theorem d_p15_m5_84 : decode prog_15_method_5_code 84 = .ok (.dup_x1, 1) := by decide +kernel
theorem d_p15_m5_85 : decode prog_15_method_5_code 85 = .ok (.iconst 1, 1) := by decide +kernel
theorem d_p15_m5_86 : decode prog_15_method_5_code 86 = .ok (.iadd, 1) := by decide +kernel
theorem d_p15_m5_87 : decode prog_15_method_5_code 87 = .ok (.putfield 48, 3) := by decide +kernel
theorem d_p15_m5_90 : decode prog_15_method_5_code 90 = .ok (.iload_n 1, 1) := by decide +kernel
theorem d_p15_m5_91 : decode prog_15_method_5_code 91 = .ok (.lload_n 2, 1) := by decide +kernel
theorem d_p15_m5_92 : decode prog_15_method_5_code 92 = .ok (.dload 8, 2) := by decide +kernel
theorem d_p15_m5_94 : decode prog_15_method_5_code 94 = .ok (.iload 10, 2) := by decide +kernel
theorem d_p15_m5_96 : decode prog_15_method_5_code 96 = .ok (.invokevirtual 107, 3) := by decide +kernel
theorem d_p15_m5_99 : decode prog_15_method_5_code 99 = .ok (.goto 56, 3) := by decide +kernel
theorem d_p15_m5_155 : decode prog_15_method_5_code 155 = .ok (.return_, 1) := by decide +kernel
def Q_rm_of10 (Z : State) (a : Addr) (lo al : UInt64) (kw ct : Int32) (sd : Int64) (hp : Int32) (s1 s2 s3 s4 : Addr) (ks1 ks2 ks3 ks4 : ClassId) (xa xb : Int32) (ja jb : Int64) (za zb : UInt64) (ra rb : Int32) (p1 : Int32) (l1 : Int64) (d2 d3 sc : UInt64) (p2 p3 : Int32) (h0 : Heap) (n0 : Nat) (v : Option Value) (h : Heap) (L : List Loc) : Prop := v = none ∧ Fr n0 L ∧ Keep h0 h [a, s1, s2, s3, s4] ∧ Exa Z h a "nearcast/engine/Best" ∧ Fld Z h a "nearcast/engine/Best" "leftOut" "D" (.double lo) ∧ Fld Z h a "nearcast/engine/Best" "slots" "[I" (.ref s1) ∧ Fld Z h a "nearcast/engine/Best" "published" "[J" (.ref s2) ∧ Fld Z h a "nearcast/engine/Best" "scores" "[D" (.ref s3) ∧ Fld Z h a "nearcast/engine/Best" "shares" "[C" (.ref s4) ∧ Fld Z h a "nearcast/engine/Best" "alpha" "D" (.double al) ∧ Fld Z h a "nearcast/engine/Best" "keywords" "I" (.int kw) ∧ Fld Z h a "nearcast/engine/Best" "count" "I" (.int ct) ∧ Fld Z h a "nearcast/engine/Best" "size" "I" (.int (1 : Int32)) ∧ Fld Z h a "nearcast/engine/Best" "scored" "J" (.long (sd + (1 : Int64))) ∧ Fld Z h a "nearcast/engine/Best" "ordered" "Z" (.int (0 : Int32)) ∧ Fld Z h a "nearcast/engine/Best" "heap" "Z" (.int hp) ∧ Arv Z h s1 ks1 .int (16 : Int32) [(.int p1), (.int xb), (.int (0 : Int32)), (.int (0 : Int32)), (.int (0 : Int32)), (.int (0 : Int32)), (.int (0 : Int32)), (.int (0 : Int32)), (.int (0 : Int32)), (.int (0 : Int32)), (.int (0 : Int32)), (.int (0 : Int32)), (.int (0 : Int32)), (.int (0 : Int32)), (.int (0 : Int32)), (.int (0 : Int32))] (.int (0 : Int32)) ∧ Arv Z h s2 ks2 .long (16 : Int32) [(.long l1), (.long jb), (.long (0 : Int64)), (.long (0 : Int64)), (.long (0 : Int64)), (.long (0 : Int64)), (.long (0 : Int64)), (.long (0 : Int64)), (.long (0 : Int64)), (.long (0 : Int64)), (.long (0 : Int64)), (.long (0 : Int64)), (.long (0 : Int64)), (.long (0 : Int64)), (.long (0 : Int64)), (.long (0 : Int64))] (.long (0 : Int64)) ∧ Arv Z h s3 ks3 .double (16 : Int32) [(.double sc), (.double zb), (.double (0 : UInt64)), (.double (0 : UInt64)), (.double (0 : UInt64)), (.double (0 : UInt64)), (.double (0 : UInt64)), (.double (0 : UInt64)), (.double (0 : UInt64)), (.double (0 : UInt64)), (.double (0 : UInt64)), (.double (0 : UInt64)), (.double (0 : UInt64)), (.double (0 : UInt64)), (.double (0 : UInt64)), (.double (0 : UInt64))] (.double (0 : UInt64)) ∧ Arv Z h s4 ks4 .char (16 : Int32) [(.int (nar .char (shv p2 p3))), (.int rb), (.int (0 : Int32)), (.int (0 : Int32)), (.int (0 : Int32)), (.int (0 : Int32)), (.int (0 : Int32)), (.int (0 : Int32)), (.int (0 : Int32)), (.int (0 : Int32)), (.int (0 : Int32)), (.int (0 : Int32)), (.int (0 : Int32)), (.int (0 : Int32)), (.int (0 : Int32)), (.int (0 : Int32))] (.int (0 : Int32))
set_option maxRecDepth 65536 in
set_option maxHeartbeats 40000000 in
theorem rm_of10 (l : Launch) (Z : State) (a0 : Array Value) (hw : ∀ d ∈ tables_1, d.before a0 Z = true) (ws : List Jvm.Cond) (a : Addr) (lo al : UInt64) (kw ct : Int32) (sd : Int64) (hp : Int32) (s1 s2 s3 s4 : Addr) (ks1 ks2 ks3 ks4 : ClassId) (xa xb : Int32) (ja jb : Int64) (za zb : UInt64) (ra rb : Int32) (p1 : Int32) (l1 : Int64) (d2 d3 sc : UInt64) (p2 p3 : Int32) (h0 : Heap) (n0 : Nat) (O0 : Old Z n0 h0) (E_a : Exa Z h0 a "nearcast/engine/Best") (F_leftOut_a : Fld Z h0 a "nearcast/engine/Best" "leftOut" "D" (.double lo)) (F_slots_a : Fld Z h0 a "nearcast/engine/Best" "slots" "[I" (.ref s1)) (F_published_a : Fld Z h0 a "nearcast/engine/Best" "published" "[J" (.ref s2)) (F_scores_a : Fld Z h0 a "nearcast/engine/Best" "scores" "[D" (.ref s3)) (F_shares_a : Fld Z h0 a "nearcast/engine/Best" "shares" "[C" (.ref s4)) (F_alpha_a : Fld Z h0 a "nearcast/engine/Best" "alpha" "D" (.double al)) (F_keywords_a : Fld Z h0 a "nearcast/engine/Best" "keywords" "I" (.int kw)) (F_count_a : Fld Z h0 a "nearcast/engine/Best" "count" "I" (.int ct)) (F_size_a : Fld Z h0 a "nearcast/engine/Best" "size" "I" (.int (0 : Int32))) (F_scored_a : Fld Z h0 a "nearcast/engine/Best" "scored" "J" (.long sd)) (F_ordered_a : Fld Z h0 a "nearcast/engine/Best" "ordered" "Z" (.int (0 : Int32))) (F_heap_a : Fld Z h0 a "nearcast/engine/Best" "heap" "Z" (.int hp)) (V_s1 : Arv Z h0 s1 ks1 .int (16 : Int32) [(.int xa), (.int xb), (.int (0 : Int32)), (.int (0 : Int32)), (.int (0 : Int32)), (.int (0 : Int32)), (.int (0 : Int32)), (.int (0 : Int32)), (.int (0 : Int32)), (.int (0 : Int32)), (.int (0 : Int32)), (.int (0 : Int32)), (.int (0 : Int32)), (.int (0 : Int32)), (.int (0 : Int32)), (.int (0 : Int32))] (.int (0 : Int32))) (V_s2 : Arv Z h0 s2 ks2 .long (16 : Int32) [(.long ja), (.long jb), (.long (0 : Int64)), (.long (0 : Int64)), (.long (0 : Int64)), (.long (0 : Int64)), (.long (0 : Int64)), (.long (0 : Int64)), (.long (0 : Int64)), (.long (0 : Int64)), (.long (0 : Int64)), (.long (0 : Int64)), (.long (0 : Int64)), (.long (0 : Int64)), (.long (0 : Int64)), (.long (0 : Int64))] (.long (0 : Int64))) (V_s3 : Arv Z h0 s3 ks3 .double (16 : Int32) [(.double za), (.double zb), (.double (0 : UInt64)), (.double (0 : UInt64)), (.double (0 : UInt64)), (.double (0 : UInt64)), (.double (0 : UInt64)), (.double (0 : UInt64)), (.double (0 : UInt64)), (.double (0 : UInt64)), (.double (0 : UInt64)), (.double (0 : UInt64)), (.double (0 : UInt64)), (.double (0 : UInt64)), (.double (0 : UInt64)), (.double (0 : UInt64))] (.double (0 : UInt64))) (V_s4 : Arv Z h0 s4 ks4 .char (16 : Int32) [(.int ra), (.int rb), (.int (0 : Int32)), (.int (0 : Int32)), (.int (0 : Int32)), (.int (0 : Int32)), (.int (0 : Int32)), (.int (0 : Int32)), (.int (0 : Int32)), (.int (0 : Int32)), (.int (0 : Int32)), (.int (0 : Int32)), (.int (0 : Int32)), (.int (0 : Int32)), (.int (0 : Int32)), (.int (0 : Int32))] (.int (0 : Int32))) (ne_s1_s2 : s1 ≠ s2) (ne_s1_s3 : s1 ≠ s3) (ne_s1_s4 : s1 ≠ s4) (ne_s2_s3 : s2 ≠ s3) (ne_s2_s4 : s2 ≠ s4) (ne_s3_s4 : s3 ≠ s4) (g_s1 : n0 ≤ s1) (g_s2 : n0 ≤ s2) (g_s3 : n0 ≤ s3) (g_s4 : n0 ≤ s4) (g_a : n0 ≤ a) (hct : (0 : Int32) < ct) (u0 : Jvm.Free.Fl.NoNaN64 d3) (hj : d3 = (FP.ddiv (FP.l2d p2.toInt64) (FP.l2d p3.toInt64))) (hs : sc = (FP.dadd (FP.dmul al d2) (FP.dmul (FP.dsub (4607182418800017408 : UInt64) al) d3))) (u1 : Jvm.Free.Fl.NoNaN64 (FP.dmul al d2)) (u2 : Jvm.Free.Fl.NoNaN64 (FP.dsub (4607182418800017408 : UInt64) al)) (u3 : Jvm.Free.Fl.NoNaN64 (FP.dmul (FP.dsub (4607182418800017408 : UInt64) al) d3)) (u4 : Jvm.Free.Fl.NoNaN64 (FP.dadd (FP.dmul al d2) (FP.dmul (FP.dsub (4607182418800017408 : UInt64) al) d3))) :
    Meets l (⟨"nearcast/engine/Best", "offer", "(IJDII)V"⟩ : MethodName) prog_15_method_5_code 11 none ws ({ frames := 2, cells := 0, slots := 0, locals := 34 } : Room) Z #[(.ref a), (.int p1), (.long l1), (.double d2), (.int p2), (.int p3)] h0 (Q_rm_of10 Z a lo al kw ct sd hp s1 s2 s3 s4 ks1 ks2 ks3 ks4 xa xb ja jb za zb ra rb p1 l1 d2 d3 sc p2 p3 h0 n0) 0 0 := by
  refine enter (Ls := #[.val (.ref a), .val (.int p1), .val (.long l1), .second, .val (.double d2), .second, .val (.int p2), .val (.int p3), .unset, .unset, .unset]) (plainFor_of_name pn_3) (fun m => by first | (simp [entryFrame, mkF, argsToLocals, Value.category]; done) | rfl) ?_
  intro p e s m below meth c T0 hx hby hml hown hnm hret hlk hZ X0 e0
  have N0 := Fr.nil n0
  replace hown : s.vm.findClass "nearcast/engine/Best" = some m.cls := hown
  show Run p e below _ (T0.setTop (mkF m 0 #[.val (.ref a), .val (.int p1), .val (.long l1), .second, .val (.double d2), .second, .val (.int p2), .val (.int p3), .unset, .unset, .unset] []))
  have K0 := Keep.refl h0 [a, s1, s2, s3, s4]
  refine go (fun _ => XS.aloadN X0.here hx rfl (hb hby d_p15_m5_0) rfl rfl) ?_
  show Run p e below _ (T0.setTop (mkF m 1 #[.val (.ref a), .val (.int p1), .val (.long l1), .second, .val (.double d2), .second, .val (.int p2), .val (.int p3), .unset, .unset, .unset] [(.ref a)]))
  obtain ⟨T112, X112, e112, st112⟩ := getF X0 hx hZ hown (host := "") (Or.inl (wd hw 40 rfl)) Via.refl e0 F_ordered_a (g := (mkF m 1 #[.val (.ref a), .val (.int p1), .val (.long l1), .second, .val (.double d2), .second, .val (.int p2), .val (.int p3), .unset, .unset, .unset] [(.ref a)])) rfl rfl (hb hby d_p15_m5_1)
  refine go st112 ?_
  show Run p e below _ (T112.setTop (mkF m 4 #[.val (.ref a), .val (.int p1), .val (.long l1), .second, .val (.double d2), .second, .val (.int p2), .val (.int p3), .unset, .unset, .unset] [(.int (0 : Int32))]))
  refine go (fun _ => XS.ifYes X112.here hx rfl (pc0 := 4) (pc' := 17) rfl (hb hby d_p15_m5_4) rfl ((if0 _ _).trans (teq (by decide : (0 : Int32) = 0)).1) (by decide) (by decide)) ?_
  show Run p e below _ (T112.setTop (mkF m 17 #[.val (.ref a), .val (.int p1), .val (.long l1), .second, .val (.double d2), .second, .val (.int p2), .val (.int p3), .unset, .unset, .unset] []))
  refine go (fun _ => XS.aloadN X112.here hx rfl (hb hby d_p15_m5_17) rfl rfl) ?_
  show Run p e below _ (T112.setTop (mkF m 18 #[.val (.ref a), .val (.int p1), .val (.long l1), .second, .val (.double d2), .second, .val (.int p2), .val (.int p3), .unset, .unset, .unset] [(.ref a)]))
  refine go (fun _ => XS.dup X112.here hx rfl (hb hby d_p15_m5_18) rfl rfl) ?_
  show Run p e below _ (T112.setTop (mkF m 19 #[.val (.ref a), .val (.int p1), .val (.long l1), .second, .val (.double d2), .second, .val (.int p2), .val (.int p3), .unset, .unset, .unset] [(.ref a), (.ref a)]))
  obtain ⟨T113, X113, e113, st113⟩ := getF X112 hx hZ hown (host := "") (Or.inl (wd hw 38 rfl)) Via.refl e112 F_scored_a (g := (mkF m 19 #[.val (.ref a), .val (.int p1), .val (.long l1), .second, .val (.double d2), .second, .val (.int p2), .val (.int p3), .unset, .unset, .unset] [(.ref a), (.ref a)])) rfl rfl (hb hby d_p15_m5_19)
  refine go st113 ?_
  show Run p e below _ (T113.setTop (mkF m 22 #[.val (.ref a), .val (.int p1), .val (.long l1), .second, .val (.double d2), .second, .val (.int p2), .val (.int p3), .unset, .unset, .unset] [(.long sd), (.ref a)]))
  refine go (fun _ => XS.lconst X113.here hx rfl (hb hby d_p15_m5_22)) ?_
  show Run p e below _ (T113.setTop (mkF m 23 #[.val (.ref a), .val (.int p1), .val (.long l1), .second, .val (.double d2), .second, .val (.int p2), .val (.int p3), .unset, .unset, .unset] [(.long (1 : Int64)), (.long sd), (.ref a)]))
  refine go (fun _ => XS.ladd X113.here hx rfl (hb hby d_p15_m5_23) rfl) ?_
  show Run p e below _ (T113.setTop (mkF m 24 #[.val (.ref a), .val (.int p1), .val (.long l1), .second, .val (.double d2), .second, .val (.int p2), .val (.int p3), .unset, .unset, .unset] [(.long (sd + (1 : Int64))), (.ref a)]))
  obtain ⟨T114, h114, X114, e114, W114, st114⟩ := putF X113 hx hZ hown (host := "") (Or.inl (wd hw 38 rfl)) Via.refl e113 F_scored_a E_a (Or.inl (wd hw 39 rfl)) (wd hw 1 rfl) (ty := .long) (by decide) rfl rfl (g := (mkF m 24 #[.val (.ref a), .val (.int p1), .val (.long l1), .second, .val (.double d2), .second, .val (.int p2), .val (.int p3), .unset, .unset, .unset] [(.long (sd + (1 : Int64))), (.ref a)])) rfl rfl (hb hby d_p15_m5_24)
  have ne_s1_a : s1 ≠ a := Ne.symm (Exa.neArv E_a V_s1 (wd hw 1 rfl))
  have ne_s2_a : s2 ≠ a := Ne.symm (Exa.neArv E_a V_s2 (wd hw 1 rfl))
  have ne_s3_a : s3 ≠ a := Ne.symm (Exa.neArv E_a V_s3 (wd hw 1 rfl))
  have ne_s4_a : s4 ≠ a := Ne.symm (Exa.neArv E_a V_s4 (wd hw 1 rfl))
  have O0 := O0.wr W114 g_a
  have E_a := E_a.wr W114
  have F_leftOut_a := F_leftOut_a.other W114 (Or.inr (slot_ne (Or.inl (wd hw 11 rfl)) (Or.inl (wd hw 39 rfl)) (by decide) (t := .double) (t' := .long) (by decide) (by decide)))
  have F_slots_a := F_slots_a.other W114 (Or.inr (slot_ne (Or.inl (wd hw 14 rfl)) (Or.inl (wd hw 39 rfl)) (by decide) (t := (.array .int)) (t' := .long) (by decide) (by decide)))
  have F_published_a := F_published_a.other W114 (Or.inr (slot_ne (Or.inl (wd hw 17 rfl)) (Or.inl (wd hw 39 rfl)) (by decide) (t := (.array .long)) (t' := .long) (by decide) (by decide)))
  have F_scores_a := F_scores_a.other W114 (Or.inr (slot_ne (Or.inl (wd hw 20 rfl)) (Or.inl (wd hw 39 rfl)) (by decide) (t := (.array .double)) (t' := .long) (by decide) (by decide)))
  have F_shares_a := F_shares_a.other W114 (Or.inr (slot_ne (Or.inl (wd hw 23 rfl)) (Or.inl (wd hw 39 rfl)) (by decide) (t := (.array .char)) (t' := .long) (by decide) (by decide)))
  have F_alpha_a := F_alpha_a.other W114 (Or.inr (slot_ne (Or.inl (wd hw 31 rfl)) (Or.inl (wd hw 39 rfl)) (by decide) (t := .double) (t' := .long) (by decide) (by decide)))
  have F_keywords_a := F_keywords_a.other W114 (Or.inr (slot_ne (Or.inl (wd hw 33 rfl)) (Or.inl (wd hw 39 rfl)) (by decide) (t := .int) (t' := .long) (by decide) (by decide)))
  have F_count_a := F_count_a.other W114 (Or.inr (slot_ne (Or.inl (wd hw 35 rfl)) (Or.inl (wd hw 39 rfl)) (by decide) (t := .int) (t' := .long) (by decide) (by decide)))
  have F_size_a := F_size_a.other W114 (Or.inr (slot_ne (Or.inl (wd hw 37 rfl)) (Or.inl (wd hw 39 rfl)) (by decide) (t := .int) (t' := .long) (by decide) (by decide)))
  have F_scored_a := F_scored_a.same W114
  have F_ordered_a := F_ordered_a.other W114 (Or.inr (slot_ne (Or.inl (wd hw 41 rfl)) (Or.inl (wd hw 39 rfl)) (by decide) (t := .boolean) (t' := .long) (by decide) (by decide)))
  have F_heap_a := F_heap_a.other W114 (Or.inr (slot_ne (Or.inl (wd hw 43 rfl)) (Or.inl (wd hw 39 rfl)) (by decide) (t := .boolean) (t' := .long) (by decide) (by decide)))
  have V_s1 := V_s1.other W114 ne_s1_a
  have V_s2 := V_s2.other W114 ne_s2_a
  have V_s3 := V_s3.other W114 ne_s3_a
  have V_s4 := V_s4.other W114 ne_s4_a
  have K0 := K0.wr W114 (Or.inl (by simp))
  have N114 := Fr.snoc X114 N0 g_a
  refine go st114 ?_
  show Run p e below _ (T114.setTop (mkF m 27 #[.val (.ref a), .val (.int p1), .val (.long l1), .second, .val (.double d2), .second, .val (.int p2), .val (.int p3), .unset, .unset, .unset] []))
  refine go (fun _ => XS.aloadN X114.here hx rfl (hb hby d_p15_m5_27) rfl rfl) ?_
  show Run p e below _ (T114.setTop (mkF m 28 #[.val (.ref a), .val (.int p1), .val (.long l1), .second, .val (.double d2), .second, .val (.int p2), .val (.int p3), .unset, .unset, .unset] [(.ref a)]))
  obtain ⟨T115, X115, e115, st115⟩ := getF X114 hx hZ hown (host := "") (Or.inl (wd hw 30 rfl)) Via.refl e114 F_alpha_a (g := (mkF m 28 #[.val (.ref a), .val (.int p1), .val (.long l1), .second, .val (.double d2), .second, .val (.int p2), .val (.int p3), .unset, .unset, .unset] [(.ref a)])) rfl rfl (hb hby d_p15_m5_28)
  refine go st115 ?_
  show Run p e below _ (T115.setTop (mkF m 31 #[.val (.ref a), .val (.int p1), .val (.long l1), .second, .val (.double d2), .second, .val (.int p2), .val (.int p3), .unset, .unset, .unset] [(.double al)]))
  refine go (fun _ => XS.dload X115.here hx rfl (hb hby d_p15_m5_31) rfl) ?_
  show Run p e below _ (T115.setTop (mkF m 33 #[.val (.ref a), .val (.int p1), .val (.long l1), .second, .val (.double d2), .second, .val (.int p2), .val (.int p3), .unset, .unset, .unset] [(.double d2), (.double al)]))
  refine go (fun _ => XS.iload X115.here hx rfl (hb hby d_p15_m5_33) rfl) ?_
  show Run p e below _ (T115.setTop (mkF m 35 #[.val (.ref a), .val (.int p1), .val (.long l1), .second, .val (.double d2), .second, .val (.int p2), .val (.int p3), .unset, .unset, .unset] [(.int p2), (.double d2), (.double al)]))
  refine go (fun _ => XS.iload X115.here hx rfl (hb hby d_p15_m5_35) rfl) ?_
  show Run p e below _ (T115.setTop (mkF m 37 #[.val (.ref a), .val (.int p1), .val (.long l1), .second, .val (.double d2), .second, .val (.int p2), .val (.int p3), .unset, .unset, .unset] [(.int p3), (.int p2), (.double d2), (.double al)]))
  refine callSt X115 hx hZ hown (wd hw 50 rfl) (wd hw 51 rfl) (wd hw 52 rfl) (wd hw 53 rfl) (by decide) e115 (argsL := [(.double al), (.double d2), (.int p2), (.int p3)]) (rest := []) (rm_of l Z a0 hw [] al d2 d3 sc p2 p3 h114 n0 O0 u0 hj hs u1 u2 u3 u4) (W := 0) (by decide) (by decide) (by decide) (by decide) (by rw [hml]; rfl) (lenOf pd_8 rfl) rfl (Nat.le_of_eq rfl) (hb hby d_p15_m5_37) ?_
  intro v116 T116 L116 h116 X116 e116 q116
  obtain ⟨rv, n116, k116⟩ := q116
  replace rv : v116 = some (.double sc) := rv
  subst rv
  have e116 := e116.trans k116
  have N116 := Fr.app N114 n116
  show Run p e below _ (T116.setTop (mkF m 40 #[.val (.ref a), .val (.int p1), .val (.long l1), .second, .val (.double d2), .second, .val (.int p2), .val (.int p3), .unset, .unset, .unset] [(.double sc)]))
  refine go (fun _ => XS.dstore X116.here hx rfl (hb hby d_p15_m5_40) rfl (l' := #[.val (.ref a), .val (.int p1), .val (.long l1), .second, .val (.double d2), .second, .val (.int p2), .val (.int p3), .val (.double sc), .second, .unset]) rfl) ?_
  show Run p e below _ (T116.setTop (mkF m 42 #[.val (.ref a), .val (.int p1), .val (.long l1), .second, .val (.double d2), .second, .val (.int p2), .val (.int p3), .val (.double sc), .second, .unset] []))
  refine go (fun _ => XS.iload X116.here hx rfl (hb hby d_p15_m5_42) rfl) ?_
  show Run p e below _ (T116.setTop (mkF m 44 #[.val (.ref a), .val (.int p1), .val (.long l1), .second, .val (.double d2), .second, .val (.int p2), .val (.int p3), .val (.double sc), .second, .unset] [(.int p2)]))
  refine go (fun _ => XS.iload X116.here hx rfl (hb hby d_p15_m5_44) rfl) ?_
  show Run p e below _ (T116.setTop (mkF m 46 #[.val (.ref a), .val (.int p1), .val (.long l1), .second, .val (.double d2), .second, .val (.int p2), .val (.int p3), .val (.double sc), .second, .unset] [(.int p3), (.int p2)]))
  refine callSt X116 hx hZ hown (wd hw 60 rfl) (wd hw 61 rfl) (wd hw 62 rfl) (wd hw 63 rfl) (by decide) e116 (argsL := [(.int p2), (.int p3)]) (rest := []) (rm_sh l Z a0 hw [] p2 p3 h114 n0 O0) (W := 0) (by decide) (by decide) (by decide) (by decide) (by rw [hml]; rfl) (lenOf pd_9 rfl) rfl (Nat.le_of_eq rfl) (hb hby d_p15_m5_46) ?_
  intro v117 T117 L117 h117 X117 e117 q117
  obtain ⟨rv, n117, k117⟩ := q117
  replace rv : v117 = some (.int (shv p2 p3)) := rv
  subst rv
  have e117 := e117.trans k117
  have N117 := Fr.app N116 n117
  show Run p e below _ (T117.setTop (mkF m 49 #[.val (.ref a), .val (.int p1), .val (.long l1), .second, .val (.double d2), .second, .val (.int p2), .val (.int p3), .val (.double sc), .second, .unset] [(.int (shv p2 p3))]))
  refine go (fun _ => XS.istore X117.here hx rfl (hb hby d_p15_m5_49) rfl (l' := #[.val (.ref a), .val (.int p1), .val (.long l1), .second, .val (.double d2), .second, .val (.int p2), .val (.int p3), .val (.double sc), .second, .val (.int (shv p2 p3))]) rfl) ?_
  show Run p e below _ (T117.setTop (mkF m 51 #[.val (.ref a), .val (.int p1), .val (.long l1), .second, .val (.double d2), .second, .val (.int p2), .val (.int p3), .val (.double sc), .second, .val (.int (shv p2 p3))] []))
  refine go (fun _ => XS.aloadN X117.here hx rfl (hb hby d_p15_m5_51) rfl rfl) ?_
  show Run p e below _ (T117.setTop (mkF m 52 #[.val (.ref a), .val (.int p1), .val (.long l1), .second, .val (.double d2), .second, .val (.int p2), .val (.int p3), .val (.double sc), .second, .val (.int (shv p2 p3))] [(.ref a)]))
  obtain ⟨T118, X118, e118, st118⟩ := getF X117 hx hZ hown (host := "") (Or.inl (wd hw 36 rfl)) Via.refl e117 F_size_a (g := (mkF m 52 #[.val (.ref a), .val (.int p1), .val (.long l1), .second, .val (.double d2), .second, .val (.int p2), .val (.int p3), .val (.double sc), .second, .val (.int (shv p2 p3))] [(.ref a)])) rfl rfl (hb hby d_p15_m5_52)
  refine go st118 ?_
  show Run p e below _ (T118.setTop (mkF m 55 #[.val (.ref a), .val (.int p1), .val (.long l1), .second, .val (.double d2), .second, .val (.int p2), .val (.int p3), .val (.double sc), .second, .val (.int (shv p2 p3))] [(.int (0 : Int32))]))
  refine go (fun _ => XS.aloadN X118.here hx rfl (hb hby d_p15_m5_55) rfl rfl) ?_
  show Run p e below _ (T118.setTop (mkF m 56 #[.val (.ref a), .val (.int p1), .val (.long l1), .second, .val (.double d2), .second, .val (.int p2), .val (.int p3), .val (.double sc), .second, .val (.int (shv p2 p3))] [(.ref a), (.int (0 : Int32))]))
  obtain ⟨T119, X119, e119, st119⟩ := getF X118 hx hZ hown (host := "") (Or.inl (wd hw 34 rfl)) Via.refl e118 F_count_a (g := (mkF m 56 #[.val (.ref a), .val (.int p1), .val (.long l1), .second, .val (.double d2), .second, .val (.int p2), .val (.int p3), .val (.double sc), .second, .val (.int (shv p2 p3))] [(.ref a), (.int (0 : Int32))])) rfl rfl (hb hby d_p15_m5_56)
  refine go st119 ?_
  show Run p e below _ (T119.setTop (mkF m 59 #[.val (.ref a), .val (.int p1), .val (.long l1), .second, .val (.double d2), .second, .val (.int p2), .val (.int p3), .val (.double sc), .second, .val (.int (shv p2 p3))] [(.int ct), (.int (0 : Int32))]))
  refine go (fun _ => XS.icmpNo X119.here hx rfl (hb hby d_p15_m5_59) rfl (tlt hct).2.1) ?_
  show Run p e below _ (T119.setTop (mkF m 62 #[.val (.ref a), .val (.int p1), .val (.long l1), .second, .val (.double d2), .second, .val (.int p2), .val (.int p3), .val (.double sc), .second, .val (.int (shv p2 p3))] []))
  refine go (fun _ => XS.aloadN X119.here hx rfl (hb hby d_p15_m5_62) rfl rfl) ?_
  show Run p e below _ (T119.setTop (mkF m 63 #[.val (.ref a), .val (.int p1), .val (.long l1), .second, .val (.double d2), .second, .val (.int p2), .val (.int p3), .val (.double sc), .second, .val (.int (shv p2 p3))] [(.ref a)]))
  obtain ⟨T120, X120, e120, st120⟩ := getF X119 hx hZ hown (host := "") (Or.inl (wd hw 36 rfl)) Via.refl e119 F_size_a (g := (mkF m 63 #[.val (.ref a), .val (.int p1), .val (.long l1), .second, .val (.double d2), .second, .val (.int p2), .val (.int p3), .val (.double sc), .second, .val (.int (shv p2 p3))] [(.ref a)])) rfl rfl (hb hby d_p15_m5_63)
  refine go st120 ?_
  show Run p e below _ (T120.setTop (mkF m 66 #[.val (.ref a), .val (.int p1), .val (.long l1), .second, .val (.double d2), .second, .val (.int p2), .val (.int p3), .val (.double sc), .second, .val (.int (shv p2 p3))] [(.int (0 : Int32))]))
  refine go (fun _ => XS.aloadN X120.here hx rfl (hb hby d_p15_m5_66) rfl rfl) ?_
  show Run p e below _ (T120.setTop (mkF m 67 #[.val (.ref a), .val (.int p1), .val (.long l1), .second, .val (.double d2), .second, .val (.int p2), .val (.int p3), .val (.double sc), .second, .val (.int (shv p2 p3))] [(.ref a), (.int (0 : Int32))]))
  obtain ⟨T121, X121, e121, st121⟩ := getF X120 hx hZ hown (host := "") (Or.inl (wd hw 13 rfl)) Via.refl e120 F_slots_a (g := (mkF m 67 #[.val (.ref a), .val (.int p1), .val (.long l1), .second, .val (.double d2), .second, .val (.int p2), .val (.int p3), .val (.double sc), .second, .val (.int (shv p2 p3))] [(.ref a), (.int (0 : Int32))])) rfl rfl (hb hby d_p15_m5_67)
  refine go st121 ?_
  show Run p e below _ (T121.setTop (mkF m 70 #[.val (.ref a), .val (.int p1), .val (.long l1), .second, .val (.double d2), .second, .val (.int p2), .val (.int p3), .val (.double sc), .second, .val (.int (shv p2 p3))] [(.ref s1), (.int (0 : Int32))]))
  obtain ⟨cl122, Ar122, ak122, as122, an122, ah122, ag122⟩ := id V_s1
  refine go (fun _ => X121.arraylength hx (by rw [e121]; exact Ar122.1) (State.isArrayOf_alike hZ.alike Ar122.2.1) (g := (mkF m 70 #[.val (.ref a), .val (.int p1), .val (.long l1), .second, .val (.double d2), .second, .val (.int p2), .val (.int p3), .val (.double sc), .second, .val (.int (shv p2 p3))] [(.ref s1), (.int (0 : Int32))])) rfl rfl (hb hby d_p15_m5_70) _) ?_
  rw [len_of as122 an122]
  show Run p e below _ (T121.setTop (mkF m 71 #[.val (.ref a), .val (.int p1), .val (.long l1), .second, .val (.double d2), .second, .val (.int p2), .val (.int p3), .val (.double sc), .second, .val (.int (shv p2 p3))] [(.int (16 : Int32)), (.int (0 : Int32))]))
  refine go (fun _ => XS.icmpYes X121.here hx rfl (pc0 := 71) (pc' := 78) rfl (hb hby d_p15_m5_71) rfl (feq (by decide : ¬ ((0 : Int32) = 16))).2 (by decide) (by decide)) ?_
  show Run p e below _ (T121.setTop (mkF m 78 #[.val (.ref a), .val (.int p1), .val (.long l1), .second, .val (.double d2), .second, .val (.int p2), .val (.int p3), .val (.double sc), .second, .val (.int (shv p2 p3))] []))
  refine go (fun _ => XS.aloadN X121.here hx rfl (hb hby d_p15_m5_78) rfl rfl) ?_
  show Run p e below _ (T121.setTop (mkF m 79 #[.val (.ref a), .val (.int p1), .val (.long l1), .second, .val (.double d2), .second, .val (.int p2), .val (.int p3), .val (.double sc), .second, .val (.int (shv p2 p3))] [(.ref a)]))
  refine go (fun _ => XS.aloadN X121.here hx rfl (hb hby d_p15_m5_79) rfl rfl) ?_
  show Run p e below _ (T121.setTop (mkF m 80 #[.val (.ref a), .val (.int p1), .val (.long l1), .second, .val (.double d2), .second, .val (.int p2), .val (.int p3), .val (.double sc), .second, .val (.int (shv p2 p3))] [(.ref a), (.ref a)]))
  refine go (fun _ => XS.dup X121.here hx rfl (hb hby d_p15_m5_80) rfl rfl) ?_
  show Run p e below _ (T121.setTop (mkF m 81 #[.val (.ref a), .val (.int p1), .val (.long l1), .second, .val (.double d2), .second, .val (.int p2), .val (.int p3), .val (.double sc), .second, .val (.int (shv p2 p3))] [(.ref a), (.ref a), (.ref a)]))
  obtain ⟨T123, X123, e123, st123⟩ := getF X121 hx hZ hown (host := "") (Or.inl (wd hw 36 rfl)) Via.refl e121 F_size_a (g := (mkF m 81 #[.val (.ref a), .val (.int p1), .val (.long l1), .second, .val (.double d2), .second, .val (.int p2), .val (.int p3), .val (.double sc), .second, .val (.int (shv p2 p3))] [(.ref a), (.ref a), (.ref a)])) rfl rfl (hb hby d_p15_m5_81)
  refine go st123 ?_
  show Run p e below _ (T123.setTop (mkF m 84 #[.val (.ref a), .val (.int p1), .val (.long l1), .second, .val (.double d2), .second, .val (.int p2), .val (.int p3), .val (.double sc), .second, .val (.int (shv p2 p3))] [(.int (0 : Int32)), (.ref a), (.ref a)]))
  refine go (fun _ => XS.dupX1 X123.here hx rfl (hb hby d_p15_m5_84) rfl rfl rfl) ?_
  show Run p e below _ (T123.setTop (mkF m 85 #[.val (.ref a), .val (.int p1), .val (.long l1), .second, .val (.double d2), .second, .val (.int p2), .val (.int p3), .val (.double sc), .second, .val (.int (shv p2 p3))] [(.int (0 : Int32)), (.ref a), (.int (0 : Int32)), (.ref a)]))
  refine go (fun _ => XS.iconst X123.here hx rfl (hb hby d_p15_m5_85)) ?_
  show Run p e below _ (T123.setTop (mkF m 86 #[.val (.ref a), .val (.int p1), .val (.long l1), .second, .val (.double d2), .second, .val (.int p2), .val (.int p3), .val (.double sc), .second, .val (.int (shv p2 p3))] [(.int (1 : Int32)), (.int (0 : Int32)), (.ref a), (.int (0 : Int32)), (.ref a)]))
  refine go (fun _ => XS.iadd X123.here hx rfl (hb hby d_p15_m5_86) rfl) ?_
  show Run p e below _ (T123.setTop (mkF m 87 #[.val (.ref a), .val (.int p1), .val (.long l1), .second, .val (.double d2), .second, .val (.int p2), .val (.int p3), .val (.double sc), .second, .val (.int (shv p2 p3))] [(.int (1 : Int32)), (.ref a), (.int (0 : Int32)), (.ref a)]))
  obtain ⟨T124, h124, X124, e124, W124, st124⟩ := putF X123 hx hZ hown (host := "") (Or.inl (wd hw 36 rfl)) Via.refl e123 F_size_a E_a (Or.inl (wd hw 37 rfl)) (wd hw 1 rfl) (ty := .int) (by decide) rfl rfl (g := (mkF m 87 #[.val (.ref a), .val (.int p1), .val (.long l1), .second, .val (.double d2), .second, .val (.int p2), .val (.int p3), .val (.double sc), .second, .val (.int (shv p2 p3))] [(.int (1 : Int32)), (.ref a), (.int (0 : Int32)), (.ref a)])) rfl rfl (hb hby d_p15_m5_87)
  have O0 := O0.wr W124 g_a
  have E_a := E_a.wr W124
  have F_leftOut_a := F_leftOut_a.other W124 (Or.inr (slot_ne (Or.inl (wd hw 11 rfl)) (Or.inl (wd hw 37 rfl)) (by decide) (t := .double) (t' := .int) (by decide) (by decide)))
  have F_slots_a := F_slots_a.other W124 (Or.inr (slot_ne (Or.inl (wd hw 14 rfl)) (Or.inl (wd hw 37 rfl)) (by decide) (t := (.array .int)) (t' := .int) (by decide) (by decide)))
  have F_published_a := F_published_a.other W124 (Or.inr (slot_ne (Or.inl (wd hw 17 rfl)) (Or.inl (wd hw 37 rfl)) (by decide) (t := (.array .long)) (t' := .int) (by decide) (by decide)))
  have F_scores_a := F_scores_a.other W124 (Or.inr (slot_ne (Or.inl (wd hw 20 rfl)) (Or.inl (wd hw 37 rfl)) (by decide) (t := (.array .double)) (t' := .int) (by decide) (by decide)))
  have F_shares_a := F_shares_a.other W124 (Or.inr (slot_ne (Or.inl (wd hw 23 rfl)) (Or.inl (wd hw 37 rfl)) (by decide) (t := (.array .char)) (t' := .int) (by decide) (by decide)))
  have F_alpha_a := F_alpha_a.other W124 (Or.inr (slot_ne (Or.inl (wd hw 31 rfl)) (Or.inl (wd hw 37 rfl)) (by decide) (t := .double) (t' := .int) (by decide) (by decide)))
  have F_keywords_a := F_keywords_a.other W124 (Or.inr (slot_ne (Or.inl (wd hw 33 rfl)) (Or.inl (wd hw 37 rfl)) (by decide) (t := .int) (t' := .int) (by decide) (by decide)))
  have F_count_a := F_count_a.other W124 (Or.inr (slot_ne (Or.inl (wd hw 35 rfl)) (Or.inl (wd hw 37 rfl)) (by decide) (t := .int) (t' := .int) (by decide) (by decide)))
  have F_size_a := F_size_a.same W124
  have F_scored_a := F_scored_a.other W124 (Or.inr (slot_ne (Or.inl (wd hw 39 rfl)) (Or.inl (wd hw 37 rfl)) (by decide) (t := .long) (t' := .int) (by decide) (by decide)))
  have F_ordered_a := F_ordered_a.other W124 (Or.inr (slot_ne (Or.inl (wd hw 41 rfl)) (Or.inl (wd hw 37 rfl)) (by decide) (t := .boolean) (t' := .int) (by decide) (by decide)))
  have F_heap_a := F_heap_a.other W124 (Or.inr (slot_ne (Or.inl (wd hw 43 rfl)) (Or.inl (wd hw 37 rfl)) (by decide) (t := .boolean) (t' := .int) (by decide) (by decide)))
  have V_s1 := V_s1.other W124 ne_s1_a
  have V_s2 := V_s2.other W124 ne_s2_a
  have V_s3 := V_s3.other W124 ne_s3_a
  have V_s4 := V_s4.other W124 ne_s4_a
  have K0 := K0.wr W124 (Or.inl (by simp))
  have N124 := Fr.snoc X124 N117 g_a
  refine go st124 ?_
  show Run p e below _ (T124.setTop (mkF m 90 #[.val (.ref a), .val (.int p1), .val (.long l1), .second, .val (.double d2), .second, .val (.int p2), .val (.int p3), .val (.double sc), .second, .val (.int (shv p2 p3))] [(.int (0 : Int32)), (.ref a)]))
  refine go (fun _ => XS.iloadN X124.here hx rfl (hb hby d_p15_m5_90) rfl) ?_
  show Run p e below _ (T124.setTop (mkF m 91 #[.val (.ref a), .val (.int p1), .val (.long l1), .second, .val (.double d2), .second, .val (.int p2), .val (.int p3), .val (.double sc), .second, .val (.int (shv p2 p3))] [(.int p1), (.int (0 : Int32)), (.ref a)]))
  refine go (fun _ => XS.lloadN X124.here hx rfl (hb hby d_p15_m5_91) rfl) ?_
  show Run p e below _ (T124.setTop (mkF m 92 #[.val (.ref a), .val (.int p1), .val (.long l1), .second, .val (.double d2), .second, .val (.int p2), .val (.int p3), .val (.double sc), .second, .val (.int (shv p2 p3))] [(.long l1), (.int p1), (.int (0 : Int32)), (.ref a)]))
  refine go (fun _ => XS.dload X124.here hx rfl (hb hby d_p15_m5_92) rfl) ?_
  show Run p e below _ (T124.setTop (mkF m 94 #[.val (.ref a), .val (.int p1), .val (.long l1), .second, .val (.double d2), .second, .val (.int p2), .val (.int p3), .val (.double sc), .second, .val (.int (shv p2 p3))] [(.double sc), (.long l1), (.int p1), (.int (0 : Int32)), (.ref a)]))
  refine go (fun _ => XS.iload X124.here hx rfl (hb hby d_p15_m5_94) rfl) ?_
  show Run p e below _ (T124.setTop (mkF m 96 #[.val (.ref a), .val (.int p1), .val (.long l1), .second, .val (.double d2), .second, .val (.int p2), .val (.int p3), .val (.double sc), .second, .val (.int (shv p2 p3))] [(.int (shv p2 p3)), (.double sc), (.long l1), (.int p1), (.int (0 : Int32)), (.ref a)]))
  refine callPr X124 hx hZ hown (wd hw 64 rfl) (wd hw 66 rfl) (sel_priv (wd hw 1 rfl) (wd hw 66 rfl) (wd hw 65 rfl) (by decide)) (wd hw 65 rfl) (wd hw 67 rfl) (wd hw 2 rfl) (by decide) e124 E_a (argsL := [(.int (0 : Int32)), (.int p1), (.long l1), (.double sc), (.int (shv p2 p3))]) (rest := []) (rm_set0 l Z a0 hw [] a lo al kw ct (1 : Int32) (sd + (1 : Int64)) (0 : Int32) hp s1 s2 s3 s4 ks1 ks2 ks3 ks4 xa xb ja jb za zb ra rb p1 l1 sc (shv p2 p3) h124 n0 O0 E_a F_leftOut_a F_slots_a F_published_a F_scores_a F_shares_a F_alpha_a F_keywords_a F_count_a F_size_a F_scored_a F_ordered_a F_heap_a V_s1 V_s2 V_s3 V_s4 ne_s1_s2 ne_s1_s3 ne_s1_s4 ne_s2_s3 ne_s2_s4 ne_s3_s4 g_s1 g_s2 g_s3 g_s4 g_a ) (W := 0) (by decide) (by decide) (by decide) (by decide) (by rw [hml]; rfl) (lenOf pd_6 rfl) rfl (Nat.le_of_eq rfl) (hb hby d_p15_m5_96) ?_
  intro v125 T125 L125 h125 X125 e125 q125
  obtain ⟨rv, n125, K125, V_s1, V_s2, V_s3, V_s4⟩ := q125
  subst rv
  have O0 := O0.keep K125 (allS g_s1 (allS g_s2 (allS g_s3 (allS g_s4 all0))))
  have E_a := E_a.keep K125
  have F_leftOut_a := F_leftOut_a.keep K125 (ninS (Ne.symm ne_s1_a) (ninS (Ne.symm ne_s2_a) (ninS (Ne.symm ne_s3_a) (ninS (Ne.symm ne_s4_a) nin0))))
  have F_slots_a := F_slots_a.keep K125 (ninS (Ne.symm ne_s1_a) (ninS (Ne.symm ne_s2_a) (ninS (Ne.symm ne_s3_a) (ninS (Ne.symm ne_s4_a) nin0))))
  have F_published_a := F_published_a.keep K125 (ninS (Ne.symm ne_s1_a) (ninS (Ne.symm ne_s2_a) (ninS (Ne.symm ne_s3_a) (ninS (Ne.symm ne_s4_a) nin0))))
  have F_scores_a := F_scores_a.keep K125 (ninS (Ne.symm ne_s1_a) (ninS (Ne.symm ne_s2_a) (ninS (Ne.symm ne_s3_a) (ninS (Ne.symm ne_s4_a) nin0))))
  have F_shares_a := F_shares_a.keep K125 (ninS (Ne.symm ne_s1_a) (ninS (Ne.symm ne_s2_a) (ninS (Ne.symm ne_s3_a) (ninS (Ne.symm ne_s4_a) nin0))))
  have F_alpha_a := F_alpha_a.keep K125 (ninS (Ne.symm ne_s1_a) (ninS (Ne.symm ne_s2_a) (ninS (Ne.symm ne_s3_a) (ninS (Ne.symm ne_s4_a) nin0))))
  have F_keywords_a := F_keywords_a.keep K125 (ninS (Ne.symm ne_s1_a) (ninS (Ne.symm ne_s2_a) (ninS (Ne.symm ne_s3_a) (ninS (Ne.symm ne_s4_a) nin0))))
  have F_count_a := F_count_a.keep K125 (ninS (Ne.symm ne_s1_a) (ninS (Ne.symm ne_s2_a) (ninS (Ne.symm ne_s3_a) (ninS (Ne.symm ne_s4_a) nin0))))
  have F_size_a := F_size_a.keep K125 (ninS (Ne.symm ne_s1_a) (ninS (Ne.symm ne_s2_a) (ninS (Ne.symm ne_s3_a) (ninS (Ne.symm ne_s4_a) nin0))))
  have F_scored_a := F_scored_a.keep K125 (ninS (Ne.symm ne_s1_a) (ninS (Ne.symm ne_s2_a) (ninS (Ne.symm ne_s3_a) (ninS (Ne.symm ne_s4_a) nin0))))
  have F_ordered_a := F_ordered_a.keep K125 (ninS (Ne.symm ne_s1_a) (ninS (Ne.symm ne_s2_a) (ninS (Ne.symm ne_s3_a) (ninS (Ne.symm ne_s4_a) nin0))))
  have F_heap_a := F_heap_a.keep K125 (ninS (Ne.symm ne_s1_a) (ninS (Ne.symm ne_s2_a) (ninS (Ne.symm ne_s3_a) (ninS (Ne.symm ne_s4_a) nin0))))
  have K0 := K0.trans K125 (allS (Or.inl (by simp)) (allS (Or.inl (by simp)) (allS (Or.inl (by simp)) (allS (Or.inl (by simp)) all0))))
  have N125 := Fr.app N124 n125
  show Run p e below _ (T125.setTop (mkF m 99 #[.val (.ref a), .val (.int p1), .val (.long l1), .second, .val (.double d2), .second, .val (.int p2), .val (.int p3), .val (.double sc), .second, .val (.int (shv p2 p3))] []))
  refine go (fun _ => XS.goto X125.here hx rfl (pc0 := 99) (pc' := 155) rfl (hb hby d_p15_m5_99) (by decide) (by decide)) ?_
  show Run p e below _ (T125.setTop (mkF m 155 #[.val (.ref a), .val (.int p1), .val (.long l1), .second, .val (.double d2), .second, .val (.int p2), .val (.int p3), .val (.double sc), .second, .val (.int (shv p2 p3))] []))
  exact endV X125 hx hlk hret (hb hby d_p15_m5_155) (by rw [e125]; exact ⟨rfl, N125, K0, E_a, F_leftOut_a, F_slots_a, F_published_a, F_scores_a, F_shares_a, F_alpha_a, F_keywords_a, F_count_a, F_size_a, F_scored_a, F_ordered_a, F_heap_a, V_s1, V_s2, V_s3, V_s4⟩) (by decide) (by decide)
def Q_rm_of11 (Z : State) (a : Addr) (lo al : UInt64) (kw ct : Int32) (sd : Int64) (hp : Int32) (s1 s2 s3 s4 : Addr) (ks1 ks2 ks3 ks4 : ClassId) (xa xb : Int32) (ja jb : Int64) (za zb : UInt64) (ra rb : Int32) (p1 : Int32) (l1 : Int64) (d2 d3 sc : UInt64) (p2 p3 : Int32) (h0 : Heap) (n0 : Nat) (v : Option Value) (h : Heap) (L : List Loc) : Prop := v = none ∧ Fr n0 L ∧ Keep h0 h [a, s1, s2, s3, s4] ∧ Exa Z h a "nearcast/engine/Best" ∧ Fld Z h a "nearcast/engine/Best" "leftOut" "D" (.double lo) ∧ Fld Z h a "nearcast/engine/Best" "slots" "[I" (.ref s1) ∧ Fld Z h a "nearcast/engine/Best" "published" "[J" (.ref s2) ∧ Fld Z h a "nearcast/engine/Best" "scores" "[D" (.ref s3) ∧ Fld Z h a "nearcast/engine/Best" "shares" "[C" (.ref s4) ∧ Fld Z h a "nearcast/engine/Best" "alpha" "D" (.double al) ∧ Fld Z h a "nearcast/engine/Best" "keywords" "I" (.int kw) ∧ Fld Z h a "nearcast/engine/Best" "count" "I" (.int ct) ∧ Fld Z h a "nearcast/engine/Best" "size" "I" (.int (2 : Int32)) ∧ Fld Z h a "nearcast/engine/Best" "scored" "J" (.long (sd + (1 : Int64))) ∧ Fld Z h a "nearcast/engine/Best" "ordered" "Z" (.int (0 : Int32)) ∧ Fld Z h a "nearcast/engine/Best" "heap" "Z" (.int hp) ∧ Arv Z h s1 ks1 .int (16 : Int32) [(.int xa), (.int p1), (.int (0 : Int32)), (.int (0 : Int32)), (.int (0 : Int32)), (.int (0 : Int32)), (.int (0 : Int32)), (.int (0 : Int32)), (.int (0 : Int32)), (.int (0 : Int32)), (.int (0 : Int32)), (.int (0 : Int32)), (.int (0 : Int32)), (.int (0 : Int32)), (.int (0 : Int32)), (.int (0 : Int32))] (.int (0 : Int32)) ∧ Arv Z h s2 ks2 .long (16 : Int32) [(.long ja), (.long l1), (.long (0 : Int64)), (.long (0 : Int64)), (.long (0 : Int64)), (.long (0 : Int64)), (.long (0 : Int64)), (.long (0 : Int64)), (.long (0 : Int64)), (.long (0 : Int64)), (.long (0 : Int64)), (.long (0 : Int64)), (.long (0 : Int64)), (.long (0 : Int64)), (.long (0 : Int64)), (.long (0 : Int64))] (.long (0 : Int64)) ∧ Arv Z h s3 ks3 .double (16 : Int32) [(.double za), (.double sc), (.double (0 : UInt64)), (.double (0 : UInt64)), (.double (0 : UInt64)), (.double (0 : UInt64)), (.double (0 : UInt64)), (.double (0 : UInt64)), (.double (0 : UInt64)), (.double (0 : UInt64)), (.double (0 : UInt64)), (.double (0 : UInt64)), (.double (0 : UInt64)), (.double (0 : UInt64)), (.double (0 : UInt64)), (.double (0 : UInt64))] (.double (0 : UInt64)) ∧ Arv Z h s4 ks4 .char (16 : Int32) [(.int ra), (.int (nar .char (shv p2 p3))), (.int (0 : Int32)), (.int (0 : Int32)), (.int (0 : Int32)), (.int (0 : Int32)), (.int (0 : Int32)), (.int (0 : Int32)), (.int (0 : Int32)), (.int (0 : Int32)), (.int (0 : Int32)), (.int (0 : Int32)), (.int (0 : Int32)), (.int (0 : Int32)), (.int (0 : Int32)), (.int (0 : Int32))] (.int (0 : Int32))
set_option maxRecDepth 65536 in
set_option maxHeartbeats 40000000 in
theorem rm_of11 (l : Launch) (Z : State) (a0 : Array Value) (hw : ∀ d ∈ tables_1, d.before a0 Z = true) (ws : List Jvm.Cond) (a : Addr) (lo al : UInt64) (kw ct : Int32) (sd : Int64) (hp : Int32) (s1 s2 s3 s4 : Addr) (ks1 ks2 ks3 ks4 : ClassId) (xa xb : Int32) (ja jb : Int64) (za zb : UInt64) (ra rb : Int32) (p1 : Int32) (l1 : Int64) (d2 d3 sc : UInt64) (p2 p3 : Int32) (h0 : Heap) (n0 : Nat) (O0 : Old Z n0 h0) (E_a : Exa Z h0 a "nearcast/engine/Best") (F_leftOut_a : Fld Z h0 a "nearcast/engine/Best" "leftOut" "D" (.double lo)) (F_slots_a : Fld Z h0 a "nearcast/engine/Best" "slots" "[I" (.ref s1)) (F_published_a : Fld Z h0 a "nearcast/engine/Best" "published" "[J" (.ref s2)) (F_scores_a : Fld Z h0 a "nearcast/engine/Best" "scores" "[D" (.ref s3)) (F_shares_a : Fld Z h0 a "nearcast/engine/Best" "shares" "[C" (.ref s4)) (F_alpha_a : Fld Z h0 a "nearcast/engine/Best" "alpha" "D" (.double al)) (F_keywords_a : Fld Z h0 a "nearcast/engine/Best" "keywords" "I" (.int kw)) (F_count_a : Fld Z h0 a "nearcast/engine/Best" "count" "I" (.int ct)) (F_size_a : Fld Z h0 a "nearcast/engine/Best" "size" "I" (.int (1 : Int32))) (F_scored_a : Fld Z h0 a "nearcast/engine/Best" "scored" "J" (.long sd)) (F_ordered_a : Fld Z h0 a "nearcast/engine/Best" "ordered" "Z" (.int (0 : Int32))) (F_heap_a : Fld Z h0 a "nearcast/engine/Best" "heap" "Z" (.int hp)) (V_s1 : Arv Z h0 s1 ks1 .int (16 : Int32) [(.int xa), (.int xb), (.int (0 : Int32)), (.int (0 : Int32)), (.int (0 : Int32)), (.int (0 : Int32)), (.int (0 : Int32)), (.int (0 : Int32)), (.int (0 : Int32)), (.int (0 : Int32)), (.int (0 : Int32)), (.int (0 : Int32)), (.int (0 : Int32)), (.int (0 : Int32)), (.int (0 : Int32)), (.int (0 : Int32))] (.int (0 : Int32))) (V_s2 : Arv Z h0 s2 ks2 .long (16 : Int32) [(.long ja), (.long jb), (.long (0 : Int64)), (.long (0 : Int64)), (.long (0 : Int64)), (.long (0 : Int64)), (.long (0 : Int64)), (.long (0 : Int64)), (.long (0 : Int64)), (.long (0 : Int64)), (.long (0 : Int64)), (.long (0 : Int64)), (.long (0 : Int64)), (.long (0 : Int64)), (.long (0 : Int64)), (.long (0 : Int64))] (.long (0 : Int64))) (V_s3 : Arv Z h0 s3 ks3 .double (16 : Int32) [(.double za), (.double zb), (.double (0 : UInt64)), (.double (0 : UInt64)), (.double (0 : UInt64)), (.double (0 : UInt64)), (.double (0 : UInt64)), (.double (0 : UInt64)), (.double (0 : UInt64)), (.double (0 : UInt64)), (.double (0 : UInt64)), (.double (0 : UInt64)), (.double (0 : UInt64)), (.double (0 : UInt64)), (.double (0 : UInt64)), (.double (0 : UInt64))] (.double (0 : UInt64))) (V_s4 : Arv Z h0 s4 ks4 .char (16 : Int32) [(.int ra), (.int rb), (.int (0 : Int32)), (.int (0 : Int32)), (.int (0 : Int32)), (.int (0 : Int32)), (.int (0 : Int32)), (.int (0 : Int32)), (.int (0 : Int32)), (.int (0 : Int32)), (.int (0 : Int32)), (.int (0 : Int32)), (.int (0 : Int32)), (.int (0 : Int32)), (.int (0 : Int32)), (.int (0 : Int32))] (.int (0 : Int32))) (ne_s1_s2 : s1 ≠ s2) (ne_s1_s3 : s1 ≠ s3) (ne_s1_s4 : s1 ≠ s4) (ne_s2_s3 : s2 ≠ s3) (ne_s2_s4 : s2 ≠ s4) (ne_s3_s4 : s3 ≠ s4) (g_s1 : n0 ≤ s1) (g_s2 : n0 ≤ s2) (g_s3 : n0 ≤ s3) (g_s4 : n0 ≤ s4) (g_a : n0 ≤ a) (hct : (1 : Int32) < ct) (u0 : Jvm.Free.Fl.NoNaN64 d3) (hj : d3 = (FP.ddiv (FP.l2d p2.toInt64) (FP.l2d p3.toInt64))) (hs : sc = (FP.dadd (FP.dmul al d2) (FP.dmul (FP.dsub (4607182418800017408 : UInt64) al) d3))) (u1 : Jvm.Free.Fl.NoNaN64 (FP.dmul al d2)) (u2 : Jvm.Free.Fl.NoNaN64 (FP.dsub (4607182418800017408 : UInt64) al)) (u3 : Jvm.Free.Fl.NoNaN64 (FP.dmul (FP.dsub (4607182418800017408 : UInt64) al) d3)) (u4 : Jvm.Free.Fl.NoNaN64 (FP.dadd (FP.dmul al d2) (FP.dmul (FP.dsub (4607182418800017408 : UInt64) al) d3))) :
    Meets l (⟨"nearcast/engine/Best", "offer", "(IJDII)V"⟩ : MethodName) prog_15_method_5_code 11 none ws ({ frames := 2, cells := 0, slots := 0, locals := 34 } : Room) Z #[(.ref a), (.int p1), (.long l1), (.double d2), (.int p2), (.int p3)] h0 (Q_rm_of11 Z a lo al kw ct sd hp s1 s2 s3 s4 ks1 ks2 ks3 ks4 xa xb ja jb za zb ra rb p1 l1 d2 d3 sc p2 p3 h0 n0) 0 0 := by
  refine enter (Ls := #[.val (.ref a), .val (.int p1), .val (.long l1), .second, .val (.double d2), .second, .val (.int p2), .val (.int p3), .unset, .unset, .unset]) (plainFor_of_name pn_3) (fun m => by first | (simp [entryFrame, mkF, argsToLocals, Value.category]; done) | rfl) ?_
  intro p e s m below meth c T0 hx hby hml hown hnm hret hlk hZ X0 e0
  have N0 := Fr.nil n0
  replace hown : s.vm.findClass "nearcast/engine/Best" = some m.cls := hown
  show Run p e below _ (T0.setTop (mkF m 0 #[.val (.ref a), .val (.int p1), .val (.long l1), .second, .val (.double d2), .second, .val (.int p2), .val (.int p3), .unset, .unset, .unset] []))
  have K0 := Keep.refl h0 [a, s1, s2, s3, s4]
  refine go (fun _ => XS.aloadN X0.here hx rfl (hb hby d_p15_m5_0) rfl rfl) ?_
  show Run p e below _ (T0.setTop (mkF m 1 #[.val (.ref a), .val (.int p1), .val (.long l1), .second, .val (.double d2), .second, .val (.int p2), .val (.int p3), .unset, .unset, .unset] [(.ref a)]))
  obtain ⟨T126, X126, e126, st126⟩ := getF X0 hx hZ hown (host := "") (Or.inl (wd hw 40 rfl)) Via.refl e0 F_ordered_a (g := (mkF m 1 #[.val (.ref a), .val (.int p1), .val (.long l1), .second, .val (.double d2), .second, .val (.int p2), .val (.int p3), .unset, .unset, .unset] [(.ref a)])) rfl rfl (hb hby d_p15_m5_1)
  refine go st126 ?_
  show Run p e below _ (T126.setTop (mkF m 4 #[.val (.ref a), .val (.int p1), .val (.long l1), .second, .val (.double d2), .second, .val (.int p2), .val (.int p3), .unset, .unset, .unset] [(.int (0 : Int32))]))
  refine go (fun _ => XS.ifYes X126.here hx rfl (pc0 := 4) (pc' := 17) rfl (hb hby d_p15_m5_4) rfl ((if0 _ _).trans (teq (by decide : (0 : Int32) = 0)).1) (by decide) (by decide)) ?_
  show Run p e below _ (T126.setTop (mkF m 17 #[.val (.ref a), .val (.int p1), .val (.long l1), .second, .val (.double d2), .second, .val (.int p2), .val (.int p3), .unset, .unset, .unset] []))
  refine go (fun _ => XS.aloadN X126.here hx rfl (hb hby d_p15_m5_17) rfl rfl) ?_
  show Run p e below _ (T126.setTop (mkF m 18 #[.val (.ref a), .val (.int p1), .val (.long l1), .second, .val (.double d2), .second, .val (.int p2), .val (.int p3), .unset, .unset, .unset] [(.ref a)]))
  refine go (fun _ => XS.dup X126.here hx rfl (hb hby d_p15_m5_18) rfl rfl) ?_
  show Run p e below _ (T126.setTop (mkF m 19 #[.val (.ref a), .val (.int p1), .val (.long l1), .second, .val (.double d2), .second, .val (.int p2), .val (.int p3), .unset, .unset, .unset] [(.ref a), (.ref a)]))
  obtain ⟨T127, X127, e127, st127⟩ := getF X126 hx hZ hown (host := "") (Or.inl (wd hw 38 rfl)) Via.refl e126 F_scored_a (g := (mkF m 19 #[.val (.ref a), .val (.int p1), .val (.long l1), .second, .val (.double d2), .second, .val (.int p2), .val (.int p3), .unset, .unset, .unset] [(.ref a), (.ref a)])) rfl rfl (hb hby d_p15_m5_19)
  refine go st127 ?_
  show Run p e below _ (T127.setTop (mkF m 22 #[.val (.ref a), .val (.int p1), .val (.long l1), .second, .val (.double d2), .second, .val (.int p2), .val (.int p3), .unset, .unset, .unset] [(.long sd), (.ref a)]))
  refine go (fun _ => XS.lconst X127.here hx rfl (hb hby d_p15_m5_22)) ?_
  show Run p e below _ (T127.setTop (mkF m 23 #[.val (.ref a), .val (.int p1), .val (.long l1), .second, .val (.double d2), .second, .val (.int p2), .val (.int p3), .unset, .unset, .unset] [(.long (1 : Int64)), (.long sd), (.ref a)]))
  refine go (fun _ => XS.ladd X127.here hx rfl (hb hby d_p15_m5_23) rfl) ?_
  show Run p e below _ (T127.setTop (mkF m 24 #[.val (.ref a), .val (.int p1), .val (.long l1), .second, .val (.double d2), .second, .val (.int p2), .val (.int p3), .unset, .unset, .unset] [(.long (sd + (1 : Int64))), (.ref a)]))
  obtain ⟨T128, h128, X128, e128, W128, st128⟩ := putF X127 hx hZ hown (host := "") (Or.inl (wd hw 38 rfl)) Via.refl e127 F_scored_a E_a (Or.inl (wd hw 39 rfl)) (wd hw 1 rfl) (ty := .long) (by decide) rfl rfl (g := (mkF m 24 #[.val (.ref a), .val (.int p1), .val (.long l1), .second, .val (.double d2), .second, .val (.int p2), .val (.int p3), .unset, .unset, .unset] [(.long (sd + (1 : Int64))), (.ref a)])) rfl rfl (hb hby d_p15_m5_24)
  have ne_s1_a : s1 ≠ a := Ne.symm (Exa.neArv E_a V_s1 (wd hw 1 rfl))
  have ne_s2_a : s2 ≠ a := Ne.symm (Exa.neArv E_a V_s2 (wd hw 1 rfl))
  have ne_s3_a : s3 ≠ a := Ne.symm (Exa.neArv E_a V_s3 (wd hw 1 rfl))
  have ne_s4_a : s4 ≠ a := Ne.symm (Exa.neArv E_a V_s4 (wd hw 1 rfl))
  have O0 := O0.wr W128 g_a
  have E_a := E_a.wr W128
  have F_leftOut_a := F_leftOut_a.other W128 (Or.inr (slot_ne (Or.inl (wd hw 11 rfl)) (Or.inl (wd hw 39 rfl)) (by decide) (t := .double) (t' := .long) (by decide) (by decide)))
  have F_slots_a := F_slots_a.other W128 (Or.inr (slot_ne (Or.inl (wd hw 14 rfl)) (Or.inl (wd hw 39 rfl)) (by decide) (t := (.array .int)) (t' := .long) (by decide) (by decide)))
  have F_published_a := F_published_a.other W128 (Or.inr (slot_ne (Or.inl (wd hw 17 rfl)) (Or.inl (wd hw 39 rfl)) (by decide) (t := (.array .long)) (t' := .long) (by decide) (by decide)))
  have F_scores_a := F_scores_a.other W128 (Or.inr (slot_ne (Or.inl (wd hw 20 rfl)) (Or.inl (wd hw 39 rfl)) (by decide) (t := (.array .double)) (t' := .long) (by decide) (by decide)))
  have F_shares_a := F_shares_a.other W128 (Or.inr (slot_ne (Or.inl (wd hw 23 rfl)) (Or.inl (wd hw 39 rfl)) (by decide) (t := (.array .char)) (t' := .long) (by decide) (by decide)))
  have F_alpha_a := F_alpha_a.other W128 (Or.inr (slot_ne (Or.inl (wd hw 31 rfl)) (Or.inl (wd hw 39 rfl)) (by decide) (t := .double) (t' := .long) (by decide) (by decide)))
  have F_keywords_a := F_keywords_a.other W128 (Or.inr (slot_ne (Or.inl (wd hw 33 rfl)) (Or.inl (wd hw 39 rfl)) (by decide) (t := .int) (t' := .long) (by decide) (by decide)))
  have F_count_a := F_count_a.other W128 (Or.inr (slot_ne (Or.inl (wd hw 35 rfl)) (Or.inl (wd hw 39 rfl)) (by decide) (t := .int) (t' := .long) (by decide) (by decide)))
  have F_size_a := F_size_a.other W128 (Or.inr (slot_ne (Or.inl (wd hw 37 rfl)) (Or.inl (wd hw 39 rfl)) (by decide) (t := .int) (t' := .long) (by decide) (by decide)))
  have F_scored_a := F_scored_a.same W128
  have F_ordered_a := F_ordered_a.other W128 (Or.inr (slot_ne (Or.inl (wd hw 41 rfl)) (Or.inl (wd hw 39 rfl)) (by decide) (t := .boolean) (t' := .long) (by decide) (by decide)))
  have F_heap_a := F_heap_a.other W128 (Or.inr (slot_ne (Or.inl (wd hw 43 rfl)) (Or.inl (wd hw 39 rfl)) (by decide) (t := .boolean) (t' := .long) (by decide) (by decide)))
  have V_s1 := V_s1.other W128 ne_s1_a
  have V_s2 := V_s2.other W128 ne_s2_a
  have V_s3 := V_s3.other W128 ne_s3_a
  have V_s4 := V_s4.other W128 ne_s4_a
  have K0 := K0.wr W128 (Or.inl (by simp))
  have N128 := Fr.snoc X128 N0 g_a
  refine go st128 ?_
  show Run p e below _ (T128.setTop (mkF m 27 #[.val (.ref a), .val (.int p1), .val (.long l1), .second, .val (.double d2), .second, .val (.int p2), .val (.int p3), .unset, .unset, .unset] []))
  refine go (fun _ => XS.aloadN X128.here hx rfl (hb hby d_p15_m5_27) rfl rfl) ?_
  show Run p e below _ (T128.setTop (mkF m 28 #[.val (.ref a), .val (.int p1), .val (.long l1), .second, .val (.double d2), .second, .val (.int p2), .val (.int p3), .unset, .unset, .unset] [(.ref a)]))
  obtain ⟨T129, X129, e129, st129⟩ := getF X128 hx hZ hown (host := "") (Or.inl (wd hw 30 rfl)) Via.refl e128 F_alpha_a (g := (mkF m 28 #[.val (.ref a), .val (.int p1), .val (.long l1), .second, .val (.double d2), .second, .val (.int p2), .val (.int p3), .unset, .unset, .unset] [(.ref a)])) rfl rfl (hb hby d_p15_m5_28)
  refine go st129 ?_
  show Run p e below _ (T129.setTop (mkF m 31 #[.val (.ref a), .val (.int p1), .val (.long l1), .second, .val (.double d2), .second, .val (.int p2), .val (.int p3), .unset, .unset, .unset] [(.double al)]))
  refine go (fun _ => XS.dload X129.here hx rfl (hb hby d_p15_m5_31) rfl) ?_
  show Run p e below _ (T129.setTop (mkF m 33 #[.val (.ref a), .val (.int p1), .val (.long l1), .second, .val (.double d2), .second, .val (.int p2), .val (.int p3), .unset, .unset, .unset] [(.double d2), (.double al)]))
  refine go (fun _ => XS.iload X129.here hx rfl (hb hby d_p15_m5_33) rfl) ?_
  show Run p e below _ (T129.setTop (mkF m 35 #[.val (.ref a), .val (.int p1), .val (.long l1), .second, .val (.double d2), .second, .val (.int p2), .val (.int p3), .unset, .unset, .unset] [(.int p2), (.double d2), (.double al)]))
  refine go (fun _ => XS.iload X129.here hx rfl (hb hby d_p15_m5_35) rfl) ?_
  show Run p e below _ (T129.setTop (mkF m 37 #[.val (.ref a), .val (.int p1), .val (.long l1), .second, .val (.double d2), .second, .val (.int p2), .val (.int p3), .unset, .unset, .unset] [(.int p3), (.int p2), (.double d2), (.double al)]))
  refine callSt X129 hx hZ hown (wd hw 50 rfl) (wd hw 51 rfl) (wd hw 52 rfl) (wd hw 53 rfl) (by decide) e129 (argsL := [(.double al), (.double d2), (.int p2), (.int p3)]) (rest := []) (rm_of l Z a0 hw [] al d2 d3 sc p2 p3 h128 n0 O0 u0 hj hs u1 u2 u3 u4) (W := 0) (by decide) (by decide) (by decide) (by decide) (by rw [hml]; rfl) (lenOf pd_8 rfl) rfl (Nat.le_of_eq rfl) (hb hby d_p15_m5_37) ?_
  intro v130 T130 L130 h130 X130 e130 q130
  obtain ⟨rv, n130, k130⟩ := q130
  replace rv : v130 = some (.double sc) := rv
  subst rv
  have e130 := e130.trans k130
  have N130 := Fr.app N128 n130
  show Run p e below _ (T130.setTop (mkF m 40 #[.val (.ref a), .val (.int p1), .val (.long l1), .second, .val (.double d2), .second, .val (.int p2), .val (.int p3), .unset, .unset, .unset] [(.double sc)]))
  refine go (fun _ => XS.dstore X130.here hx rfl (hb hby d_p15_m5_40) rfl (l' := #[.val (.ref a), .val (.int p1), .val (.long l1), .second, .val (.double d2), .second, .val (.int p2), .val (.int p3), .val (.double sc), .second, .unset]) rfl) ?_
  show Run p e below _ (T130.setTop (mkF m 42 #[.val (.ref a), .val (.int p1), .val (.long l1), .second, .val (.double d2), .second, .val (.int p2), .val (.int p3), .val (.double sc), .second, .unset] []))
  refine go (fun _ => XS.iload X130.here hx rfl (hb hby d_p15_m5_42) rfl) ?_
  show Run p e below _ (T130.setTop (mkF m 44 #[.val (.ref a), .val (.int p1), .val (.long l1), .second, .val (.double d2), .second, .val (.int p2), .val (.int p3), .val (.double sc), .second, .unset] [(.int p2)]))
  refine go (fun _ => XS.iload X130.here hx rfl (hb hby d_p15_m5_44) rfl) ?_
  show Run p e below _ (T130.setTop (mkF m 46 #[.val (.ref a), .val (.int p1), .val (.long l1), .second, .val (.double d2), .second, .val (.int p2), .val (.int p3), .val (.double sc), .second, .unset] [(.int p3), (.int p2)]))
  refine callSt X130 hx hZ hown (wd hw 60 rfl) (wd hw 61 rfl) (wd hw 62 rfl) (wd hw 63 rfl) (by decide) e130 (argsL := [(.int p2), (.int p3)]) (rest := []) (rm_sh l Z a0 hw [] p2 p3 h128 n0 O0) (W := 0) (by decide) (by decide) (by decide) (by decide) (by rw [hml]; rfl) (lenOf pd_9 rfl) rfl (Nat.le_of_eq rfl) (hb hby d_p15_m5_46) ?_
  intro v131 T131 L131 h131 X131 e131 q131
  obtain ⟨rv, n131, k131⟩ := q131
  replace rv : v131 = some (.int (shv p2 p3)) := rv
  subst rv
  have e131 := e131.trans k131
  have N131 := Fr.app N130 n131
  show Run p e below _ (T131.setTop (mkF m 49 #[.val (.ref a), .val (.int p1), .val (.long l1), .second, .val (.double d2), .second, .val (.int p2), .val (.int p3), .val (.double sc), .second, .unset] [(.int (shv p2 p3))]))
  refine go (fun _ => XS.istore X131.here hx rfl (hb hby d_p15_m5_49) rfl (l' := #[.val (.ref a), .val (.int p1), .val (.long l1), .second, .val (.double d2), .second, .val (.int p2), .val (.int p3), .val (.double sc), .second, .val (.int (shv p2 p3))]) rfl) ?_
  show Run p e below _ (T131.setTop (mkF m 51 #[.val (.ref a), .val (.int p1), .val (.long l1), .second, .val (.double d2), .second, .val (.int p2), .val (.int p3), .val (.double sc), .second, .val (.int (shv p2 p3))] []))
  refine go (fun _ => XS.aloadN X131.here hx rfl (hb hby d_p15_m5_51) rfl rfl) ?_
  show Run p e below _ (T131.setTop (mkF m 52 #[.val (.ref a), .val (.int p1), .val (.long l1), .second, .val (.double d2), .second, .val (.int p2), .val (.int p3), .val (.double sc), .second, .val (.int (shv p2 p3))] [(.ref a)]))
  obtain ⟨T132, X132, e132, st132⟩ := getF X131 hx hZ hown (host := "") (Or.inl (wd hw 36 rfl)) Via.refl e131 F_size_a (g := (mkF m 52 #[.val (.ref a), .val (.int p1), .val (.long l1), .second, .val (.double d2), .second, .val (.int p2), .val (.int p3), .val (.double sc), .second, .val (.int (shv p2 p3))] [(.ref a)])) rfl rfl (hb hby d_p15_m5_52)
  refine go st132 ?_
  show Run p e below _ (T132.setTop (mkF m 55 #[.val (.ref a), .val (.int p1), .val (.long l1), .second, .val (.double d2), .second, .val (.int p2), .val (.int p3), .val (.double sc), .second, .val (.int (shv p2 p3))] [(.int (1 : Int32))]))
  refine go (fun _ => XS.aloadN X132.here hx rfl (hb hby d_p15_m5_55) rfl rfl) ?_
  show Run p e below _ (T132.setTop (mkF m 56 #[.val (.ref a), .val (.int p1), .val (.long l1), .second, .val (.double d2), .second, .val (.int p2), .val (.int p3), .val (.double sc), .second, .val (.int (shv p2 p3))] [(.ref a), (.int (1 : Int32))]))
  obtain ⟨T133, X133, e133, st133⟩ := getF X132 hx hZ hown (host := "") (Or.inl (wd hw 34 rfl)) Via.refl e132 F_count_a (g := (mkF m 56 #[.val (.ref a), .val (.int p1), .val (.long l1), .second, .val (.double d2), .second, .val (.int p2), .val (.int p3), .val (.double sc), .second, .val (.int (shv p2 p3))] [(.ref a), (.int (1 : Int32))])) rfl rfl (hb hby d_p15_m5_56)
  refine go st133 ?_
  show Run p e below _ (T133.setTop (mkF m 59 #[.val (.ref a), .val (.int p1), .val (.long l1), .second, .val (.double d2), .second, .val (.int p2), .val (.int p3), .val (.double sc), .second, .val (.int (shv p2 p3))] [(.int ct), (.int (1 : Int32))]))
  refine go (fun _ => XS.icmpNo X133.here hx rfl (hb hby d_p15_m5_59) rfl (tlt hct).2.1) ?_
  show Run p e below _ (T133.setTop (mkF m 62 #[.val (.ref a), .val (.int p1), .val (.long l1), .second, .val (.double d2), .second, .val (.int p2), .val (.int p3), .val (.double sc), .second, .val (.int (shv p2 p3))] []))
  refine go (fun _ => XS.aloadN X133.here hx rfl (hb hby d_p15_m5_62) rfl rfl) ?_
  show Run p e below _ (T133.setTop (mkF m 63 #[.val (.ref a), .val (.int p1), .val (.long l1), .second, .val (.double d2), .second, .val (.int p2), .val (.int p3), .val (.double sc), .second, .val (.int (shv p2 p3))] [(.ref a)]))
  obtain ⟨T134, X134, e134, st134⟩ := getF X133 hx hZ hown (host := "") (Or.inl (wd hw 36 rfl)) Via.refl e133 F_size_a (g := (mkF m 63 #[.val (.ref a), .val (.int p1), .val (.long l1), .second, .val (.double d2), .second, .val (.int p2), .val (.int p3), .val (.double sc), .second, .val (.int (shv p2 p3))] [(.ref a)])) rfl rfl (hb hby d_p15_m5_63)
  refine go st134 ?_
  show Run p e below _ (T134.setTop (mkF m 66 #[.val (.ref a), .val (.int p1), .val (.long l1), .second, .val (.double d2), .second, .val (.int p2), .val (.int p3), .val (.double sc), .second, .val (.int (shv p2 p3))] [(.int (1 : Int32))]))
  refine go (fun _ => XS.aloadN X134.here hx rfl (hb hby d_p15_m5_66) rfl rfl) ?_
  show Run p e below _ (T134.setTop (mkF m 67 #[.val (.ref a), .val (.int p1), .val (.long l1), .second, .val (.double d2), .second, .val (.int p2), .val (.int p3), .val (.double sc), .second, .val (.int (shv p2 p3))] [(.ref a), (.int (1 : Int32))]))
  obtain ⟨T135, X135, e135, st135⟩ := getF X134 hx hZ hown (host := "") (Or.inl (wd hw 13 rfl)) Via.refl e134 F_slots_a (g := (mkF m 67 #[.val (.ref a), .val (.int p1), .val (.long l1), .second, .val (.double d2), .second, .val (.int p2), .val (.int p3), .val (.double sc), .second, .val (.int (shv p2 p3))] [(.ref a), (.int (1 : Int32))])) rfl rfl (hb hby d_p15_m5_67)
  refine go st135 ?_
  show Run p e below _ (T135.setTop (mkF m 70 #[.val (.ref a), .val (.int p1), .val (.long l1), .second, .val (.double d2), .second, .val (.int p2), .val (.int p3), .val (.double sc), .second, .val (.int (shv p2 p3))] [(.ref s1), (.int (1 : Int32))]))
  obtain ⟨cl136, Ar136, ak136, as136, an136, ah136, ag136⟩ := id V_s1
  refine go (fun _ => X135.arraylength hx (by rw [e135]; exact Ar136.1) (State.isArrayOf_alike hZ.alike Ar136.2.1) (g := (mkF m 70 #[.val (.ref a), .val (.int p1), .val (.long l1), .second, .val (.double d2), .second, .val (.int p2), .val (.int p3), .val (.double sc), .second, .val (.int (shv p2 p3))] [(.ref s1), (.int (1 : Int32))])) rfl rfl (hb hby d_p15_m5_70) _) ?_
  rw [len_of as136 an136]
  show Run p e below _ (T135.setTop (mkF m 71 #[.val (.ref a), .val (.int p1), .val (.long l1), .second, .val (.double d2), .second, .val (.int p2), .val (.int p3), .val (.double sc), .second, .val (.int (shv p2 p3))] [(.int (16 : Int32)), (.int (1 : Int32))]))
  refine go (fun _ => XS.icmpYes X135.here hx rfl (pc0 := 71) (pc' := 78) rfl (hb hby d_p15_m5_71) rfl (feq (by decide : ¬ ((1 : Int32) = 16))).2 (by decide) (by decide)) ?_
  show Run p e below _ (T135.setTop (mkF m 78 #[.val (.ref a), .val (.int p1), .val (.long l1), .second, .val (.double d2), .second, .val (.int p2), .val (.int p3), .val (.double sc), .second, .val (.int (shv p2 p3))] []))
  refine go (fun _ => XS.aloadN X135.here hx rfl (hb hby d_p15_m5_78) rfl rfl) ?_
  show Run p e below _ (T135.setTop (mkF m 79 #[.val (.ref a), .val (.int p1), .val (.long l1), .second, .val (.double d2), .second, .val (.int p2), .val (.int p3), .val (.double sc), .second, .val (.int (shv p2 p3))] [(.ref a)]))
  refine go (fun _ => XS.aloadN X135.here hx rfl (hb hby d_p15_m5_79) rfl rfl) ?_
  show Run p e below _ (T135.setTop (mkF m 80 #[.val (.ref a), .val (.int p1), .val (.long l1), .second, .val (.double d2), .second, .val (.int p2), .val (.int p3), .val (.double sc), .second, .val (.int (shv p2 p3))] [(.ref a), (.ref a)]))
  refine go (fun _ => XS.dup X135.here hx rfl (hb hby d_p15_m5_80) rfl rfl) ?_
  show Run p e below _ (T135.setTop (mkF m 81 #[.val (.ref a), .val (.int p1), .val (.long l1), .second, .val (.double d2), .second, .val (.int p2), .val (.int p3), .val (.double sc), .second, .val (.int (shv p2 p3))] [(.ref a), (.ref a), (.ref a)]))
  obtain ⟨T137, X137, e137, st137⟩ := getF X135 hx hZ hown (host := "") (Or.inl (wd hw 36 rfl)) Via.refl e135 F_size_a (g := (mkF m 81 #[.val (.ref a), .val (.int p1), .val (.long l1), .second, .val (.double d2), .second, .val (.int p2), .val (.int p3), .val (.double sc), .second, .val (.int (shv p2 p3))] [(.ref a), (.ref a), (.ref a)])) rfl rfl (hb hby d_p15_m5_81)
  refine go st137 ?_
  show Run p e below _ (T137.setTop (mkF m 84 #[.val (.ref a), .val (.int p1), .val (.long l1), .second, .val (.double d2), .second, .val (.int p2), .val (.int p3), .val (.double sc), .second, .val (.int (shv p2 p3))] [(.int (1 : Int32)), (.ref a), (.ref a)]))
  refine go (fun _ => XS.dupX1 X137.here hx rfl (hb hby d_p15_m5_84) rfl rfl rfl) ?_
  show Run p e below _ (T137.setTop (mkF m 85 #[.val (.ref a), .val (.int p1), .val (.long l1), .second, .val (.double d2), .second, .val (.int p2), .val (.int p3), .val (.double sc), .second, .val (.int (shv p2 p3))] [(.int (1 : Int32)), (.ref a), (.int (1 : Int32)), (.ref a)]))
  refine go (fun _ => XS.iconst X137.here hx rfl (hb hby d_p15_m5_85)) ?_
  show Run p e below _ (T137.setTop (mkF m 86 #[.val (.ref a), .val (.int p1), .val (.long l1), .second, .val (.double d2), .second, .val (.int p2), .val (.int p3), .val (.double sc), .second, .val (.int (shv p2 p3))] [(.int (1 : Int32)), (.int (1 : Int32)), (.ref a), (.int (1 : Int32)), (.ref a)]))
  refine go (fun _ => XS.iadd X137.here hx rfl (hb hby d_p15_m5_86) rfl) ?_
  show Run p e below _ (T137.setTop (mkF m 87 #[.val (.ref a), .val (.int p1), .val (.long l1), .second, .val (.double d2), .second, .val (.int p2), .val (.int p3), .val (.double sc), .second, .val (.int (shv p2 p3))] [(.int (2 : Int32)), (.ref a), (.int (1 : Int32)), (.ref a)]))
  obtain ⟨T138, h138, X138, e138, W138, st138⟩ := putF X137 hx hZ hown (host := "") (Or.inl (wd hw 36 rfl)) Via.refl e137 F_size_a E_a (Or.inl (wd hw 37 rfl)) (wd hw 1 rfl) (ty := .int) (by decide) rfl rfl (g := (mkF m 87 #[.val (.ref a), .val (.int p1), .val (.long l1), .second, .val (.double d2), .second, .val (.int p2), .val (.int p3), .val (.double sc), .second, .val (.int (shv p2 p3))] [(.int (2 : Int32)), (.ref a), (.int (1 : Int32)), (.ref a)])) rfl rfl (hb hby d_p15_m5_87)
  have O0 := O0.wr W138 g_a
  have E_a := E_a.wr W138
  have F_leftOut_a := F_leftOut_a.other W138 (Or.inr (slot_ne (Or.inl (wd hw 11 rfl)) (Or.inl (wd hw 37 rfl)) (by decide) (t := .double) (t' := .int) (by decide) (by decide)))
  have F_slots_a := F_slots_a.other W138 (Or.inr (slot_ne (Or.inl (wd hw 14 rfl)) (Or.inl (wd hw 37 rfl)) (by decide) (t := (.array .int)) (t' := .int) (by decide) (by decide)))
  have F_published_a := F_published_a.other W138 (Or.inr (slot_ne (Or.inl (wd hw 17 rfl)) (Or.inl (wd hw 37 rfl)) (by decide) (t := (.array .long)) (t' := .int) (by decide) (by decide)))
  have F_scores_a := F_scores_a.other W138 (Or.inr (slot_ne (Or.inl (wd hw 20 rfl)) (Or.inl (wd hw 37 rfl)) (by decide) (t := (.array .double)) (t' := .int) (by decide) (by decide)))
  have F_shares_a := F_shares_a.other W138 (Or.inr (slot_ne (Or.inl (wd hw 23 rfl)) (Or.inl (wd hw 37 rfl)) (by decide) (t := (.array .char)) (t' := .int) (by decide) (by decide)))
  have F_alpha_a := F_alpha_a.other W138 (Or.inr (slot_ne (Or.inl (wd hw 31 rfl)) (Or.inl (wd hw 37 rfl)) (by decide) (t := .double) (t' := .int) (by decide) (by decide)))
  have F_keywords_a := F_keywords_a.other W138 (Or.inr (slot_ne (Or.inl (wd hw 33 rfl)) (Or.inl (wd hw 37 rfl)) (by decide) (t := .int) (t' := .int) (by decide) (by decide)))
  have F_count_a := F_count_a.other W138 (Or.inr (slot_ne (Or.inl (wd hw 35 rfl)) (Or.inl (wd hw 37 rfl)) (by decide) (t := .int) (t' := .int) (by decide) (by decide)))
  have F_size_a := F_size_a.same W138
  have F_scored_a := F_scored_a.other W138 (Or.inr (slot_ne (Or.inl (wd hw 39 rfl)) (Or.inl (wd hw 37 rfl)) (by decide) (t := .long) (t' := .int) (by decide) (by decide)))
  have F_ordered_a := F_ordered_a.other W138 (Or.inr (slot_ne (Or.inl (wd hw 41 rfl)) (Or.inl (wd hw 37 rfl)) (by decide) (t := .boolean) (t' := .int) (by decide) (by decide)))
  have F_heap_a := F_heap_a.other W138 (Or.inr (slot_ne (Or.inl (wd hw 43 rfl)) (Or.inl (wd hw 37 rfl)) (by decide) (t := .boolean) (t' := .int) (by decide) (by decide)))
  have V_s1 := V_s1.other W138 ne_s1_a
  have V_s2 := V_s2.other W138 ne_s2_a
  have V_s3 := V_s3.other W138 ne_s3_a
  have V_s4 := V_s4.other W138 ne_s4_a
  have K0 := K0.wr W138 (Or.inl (by simp))
  have N138 := Fr.snoc X138 N131 g_a
  refine go st138 ?_
  show Run p e below _ (T138.setTop (mkF m 90 #[.val (.ref a), .val (.int p1), .val (.long l1), .second, .val (.double d2), .second, .val (.int p2), .val (.int p3), .val (.double sc), .second, .val (.int (shv p2 p3))] [(.int (1 : Int32)), (.ref a)]))
  refine go (fun _ => XS.iloadN X138.here hx rfl (hb hby d_p15_m5_90) rfl) ?_
  show Run p e below _ (T138.setTop (mkF m 91 #[.val (.ref a), .val (.int p1), .val (.long l1), .second, .val (.double d2), .second, .val (.int p2), .val (.int p3), .val (.double sc), .second, .val (.int (shv p2 p3))] [(.int p1), (.int (1 : Int32)), (.ref a)]))
  refine go (fun _ => XS.lloadN X138.here hx rfl (hb hby d_p15_m5_91) rfl) ?_
  show Run p e below _ (T138.setTop (mkF m 92 #[.val (.ref a), .val (.int p1), .val (.long l1), .second, .val (.double d2), .second, .val (.int p2), .val (.int p3), .val (.double sc), .second, .val (.int (shv p2 p3))] [(.long l1), (.int p1), (.int (1 : Int32)), (.ref a)]))
  refine go (fun _ => XS.dload X138.here hx rfl (hb hby d_p15_m5_92) rfl) ?_
  show Run p e below _ (T138.setTop (mkF m 94 #[.val (.ref a), .val (.int p1), .val (.long l1), .second, .val (.double d2), .second, .val (.int p2), .val (.int p3), .val (.double sc), .second, .val (.int (shv p2 p3))] [(.double sc), (.long l1), (.int p1), (.int (1 : Int32)), (.ref a)]))
  refine go (fun _ => XS.iload X138.here hx rfl (hb hby d_p15_m5_94) rfl) ?_
  show Run p e below _ (T138.setTop (mkF m 96 #[.val (.ref a), .val (.int p1), .val (.long l1), .second, .val (.double d2), .second, .val (.int p2), .val (.int p3), .val (.double sc), .second, .val (.int (shv p2 p3))] [(.int (shv p2 p3)), (.double sc), (.long l1), (.int p1), (.int (1 : Int32)), (.ref a)]))
  refine callPr X138 hx hZ hown (wd hw 64 rfl) (wd hw 66 rfl) (sel_priv (wd hw 1 rfl) (wd hw 66 rfl) (wd hw 65 rfl) (by decide)) (wd hw 65 rfl) (wd hw 67 rfl) (wd hw 2 rfl) (by decide) e138 E_a (argsL := [(.int (1 : Int32)), (.int p1), (.long l1), (.double sc), (.int (shv p2 p3))]) (rest := []) (rm_set1 l Z a0 hw [] a lo al kw ct (2 : Int32) (sd + (1 : Int64)) (0 : Int32) hp s1 s2 s3 s4 ks1 ks2 ks3 ks4 xa xb ja jb za zb ra rb p1 l1 sc (shv p2 p3) h138 n0 O0 E_a F_leftOut_a F_slots_a F_published_a F_scores_a F_shares_a F_alpha_a F_keywords_a F_count_a F_size_a F_scored_a F_ordered_a F_heap_a V_s1 V_s2 V_s3 V_s4 ne_s1_s2 ne_s1_s3 ne_s1_s4 ne_s2_s3 ne_s2_s4 ne_s3_s4 g_s1 g_s2 g_s3 g_s4 g_a ) (W := 0) (by decide) (by decide) (by decide) (by decide) (by rw [hml]; rfl) (lenOf pd_6 rfl) rfl (Nat.le_of_eq rfl) (hb hby d_p15_m5_96) ?_
  intro v139 T139 L139 h139 X139 e139 q139
  obtain ⟨rv, n139, K139, V_s1, V_s2, V_s3, V_s4⟩ := q139
  subst rv
  have O0 := O0.keep K139 (allS g_s1 (allS g_s2 (allS g_s3 (allS g_s4 all0))))
  have E_a := E_a.keep K139
  have F_leftOut_a := F_leftOut_a.keep K139 (ninS (Ne.symm ne_s1_a) (ninS (Ne.symm ne_s2_a) (ninS (Ne.symm ne_s3_a) (ninS (Ne.symm ne_s4_a) nin0))))
  have F_slots_a := F_slots_a.keep K139 (ninS (Ne.symm ne_s1_a) (ninS (Ne.symm ne_s2_a) (ninS (Ne.symm ne_s3_a) (ninS (Ne.symm ne_s4_a) nin0))))
  have F_published_a := F_published_a.keep K139 (ninS (Ne.symm ne_s1_a) (ninS (Ne.symm ne_s2_a) (ninS (Ne.symm ne_s3_a) (ninS (Ne.symm ne_s4_a) nin0))))
  have F_scores_a := F_scores_a.keep K139 (ninS (Ne.symm ne_s1_a) (ninS (Ne.symm ne_s2_a) (ninS (Ne.symm ne_s3_a) (ninS (Ne.symm ne_s4_a) nin0))))
  have F_shares_a := F_shares_a.keep K139 (ninS (Ne.symm ne_s1_a) (ninS (Ne.symm ne_s2_a) (ninS (Ne.symm ne_s3_a) (ninS (Ne.symm ne_s4_a) nin0))))
  have F_alpha_a := F_alpha_a.keep K139 (ninS (Ne.symm ne_s1_a) (ninS (Ne.symm ne_s2_a) (ninS (Ne.symm ne_s3_a) (ninS (Ne.symm ne_s4_a) nin0))))
  have F_keywords_a := F_keywords_a.keep K139 (ninS (Ne.symm ne_s1_a) (ninS (Ne.symm ne_s2_a) (ninS (Ne.symm ne_s3_a) (ninS (Ne.symm ne_s4_a) nin0))))
  have F_count_a := F_count_a.keep K139 (ninS (Ne.symm ne_s1_a) (ninS (Ne.symm ne_s2_a) (ninS (Ne.symm ne_s3_a) (ninS (Ne.symm ne_s4_a) nin0))))
  have F_size_a := F_size_a.keep K139 (ninS (Ne.symm ne_s1_a) (ninS (Ne.symm ne_s2_a) (ninS (Ne.symm ne_s3_a) (ninS (Ne.symm ne_s4_a) nin0))))
  have F_scored_a := F_scored_a.keep K139 (ninS (Ne.symm ne_s1_a) (ninS (Ne.symm ne_s2_a) (ninS (Ne.symm ne_s3_a) (ninS (Ne.symm ne_s4_a) nin0))))
  have F_ordered_a := F_ordered_a.keep K139 (ninS (Ne.symm ne_s1_a) (ninS (Ne.symm ne_s2_a) (ninS (Ne.symm ne_s3_a) (ninS (Ne.symm ne_s4_a) nin0))))
  have F_heap_a := F_heap_a.keep K139 (ninS (Ne.symm ne_s1_a) (ninS (Ne.symm ne_s2_a) (ninS (Ne.symm ne_s3_a) (ninS (Ne.symm ne_s4_a) nin0))))
  have K0 := K0.trans K139 (allS (Or.inl (by simp)) (allS (Or.inl (by simp)) (allS (Or.inl (by simp)) (allS (Or.inl (by simp)) all0))))
  have N139 := Fr.app N138 n139
  show Run p e below _ (T139.setTop (mkF m 99 #[.val (.ref a), .val (.int p1), .val (.long l1), .second, .val (.double d2), .second, .val (.int p2), .val (.int p3), .val (.double sc), .second, .val (.int (shv p2 p3))] []))
  refine go (fun _ => XS.goto X139.here hx rfl (pc0 := 99) (pc' := 155) rfl (hb hby d_p15_m5_99) (by decide) (by decide)) ?_
  show Run p e below _ (T139.setTop (mkF m 155 #[.val (.ref a), .val (.int p1), .val (.long l1), .second, .val (.double d2), .second, .val (.int p2), .val (.int p3), .val (.double sc), .second, .val (.int (shv p2 p3))] []))
  exact endV X139 hx hlk hret (hb hby d_p15_m5_155) (by rw [e139]; exact ⟨rfl, N139, K0, E_a, F_leftOut_a, F_slots_a, F_published_a, F_scores_a, F_shares_a, F_alpha_a, F_keywords_a, F_count_a, F_size_a, F_scored_a, F_ordered_a, F_heap_a, V_s1, V_s2, V_s3, V_s4⟩) (by decide) (by decide)
theorem d_p15_m5_102 : decode prog_15_method_5_code 102 = .ok (.dload 8, 2) := by decide +kernel
theorem d_p15_m5_104 : decode prog_15_method_5_code 104 = .ok (.lload_n 2, 1) := by decide +kernel
theorem d_p15_m5_105 : decode prog_15_method_5_code 105 = .ok (.aload_n 0, 1) := by decide +kernel
theorem d_p15_m5_106 : decode prog_15_method_5_code 106 = .ok (.invokevirtual 111, 3) := by decide +kernel
theorem pd_10 : parseMethodDescriptor "()D" = some ⟨[], some .double⟩ := by decide +kernel
theorem d_p15_m5_109 : decode prog_15_method_5_code 109 = .ok (.aload_n 0, 1) := by decide +kernel
theorem d_p15_m5_110 : decode prog_15_method_5_code 110 = .ok (.getfield 26, 3) := by decide +kernel
theorem d_p15_m5_113 : decode prog_15_method_5_code 113 = .ok (.iconst 0, 1) := by decide +kernel
theorem d_p15_m5_114 : decode prog_15_method_5_code 114 = .ok (.laload, 1) := by decide +kernel
theorem d_p15_m5_115 : decode prog_15_method_5_code 115 = .ok (.invokestatic 115, 3) := by decide +kernel
theorem d_p15_m5_118 : decode prog_15_method_5_code 118 = .ok (.ifCond .ge 31, 3) := by decide +kernel
theorem d_p15_m5_149 : decode prog_15_method_5_code 149 = .ok (.aload_n 0, 1) := by decide +kernel
theorem d_p15_m5_150 : decode prog_15_method_5_code 150 = .ok (.dload 8, 2) := by decide +kernel
theorem d_p15_m5_152 : decode prog_15_method_5_code 152 = .ok (.invokevirtual 119, 3) := by decide +kernel
theorem pd_11 : parseMethodDescriptor "(D)V" = some ⟨[.double], none⟩ := by decide +kernel
def Q_rm_ofB (Z : State) (a : Addr) (lo al : UInt64) (kw : Int32) (sd : Int64) (s1 s2 s3 s4 : Addr) (ks1 ks2 ks3 ks4 : ClassId) (xa xb : Int32) (ja jb : Int64) (za zb : UInt64) (ra rb : Int32) (p1 : Int32) (l1 : Int64) (d2 d3 sc : UInt64) (p2 p3 : Int32) (h0 : Heap) (n0 : Nat) (v : Option Value) (h : Heap) (L : List Loc) : Prop := v = none ∧ Fr n0 L ∧ Keep h0 h [a] ∧ Exa Z h a "nearcast/engine/Best" ∧ Fld Z h a "nearcast/engine/Best" "leftOut" "D" (.double sc) ∧ Fld Z h a "nearcast/engine/Best" "slots" "[I" (.ref s1) ∧ Fld Z h a "nearcast/engine/Best" "published" "[J" (.ref s2) ∧ Fld Z h a "nearcast/engine/Best" "scores" "[D" (.ref s3) ∧ Fld Z h a "nearcast/engine/Best" "shares" "[C" (.ref s4) ∧ Fld Z h a "nearcast/engine/Best" "alpha" "D" (.double al) ∧ Fld Z h a "nearcast/engine/Best" "keywords" "I" (.int kw) ∧ Fld Z h a "nearcast/engine/Best" "count" "I" (.int (1 : Int32)) ∧ Fld Z h a "nearcast/engine/Best" "size" "I" (.int (1 : Int32)) ∧ Fld Z h a "nearcast/engine/Best" "scored" "J" (.long (sd + (1 : Int64))) ∧ Fld Z h a "nearcast/engine/Best" "ordered" "Z" (.int (0 : Int32)) ∧ Fld Z h a "nearcast/engine/Best" "heap" "Z" (.int (1 : Int32))
set_option maxRecDepth 65536 in
set_option maxHeartbeats 40000000 in
theorem rm_ofB (l : Launch) (Z : State) (a0 : Array Value) (hw : ∀ d ∈ tables_1, d.before a0 Z = true) (ws : List Jvm.Cond) (a : Addr) (lo al : UInt64) (kw : Int32) (sd : Int64) (s1 s2 s3 s4 : Addr) (ks1 ks2 ks3 ks4 : ClassId) (xa xb : Int32) (ja jb : Int64) (za zb : UInt64) (ra rb : Int32) (p1 : Int32) (l1 : Int64) (d2 d3 sc : UInt64) (p2 p3 : Int32) (h0 : Heap) (n0 : Nat) (O0 : Old Z n0 h0) (E_a : Exa Z h0 a "nearcast/engine/Best") (F_leftOut_a : Fld Z h0 a "nearcast/engine/Best" "leftOut" "D" (.double lo)) (F_slots_a : Fld Z h0 a "nearcast/engine/Best" "slots" "[I" (.ref s1)) (F_published_a : Fld Z h0 a "nearcast/engine/Best" "published" "[J" (.ref s2)) (F_scores_a : Fld Z h0 a "nearcast/engine/Best" "scores" "[D" (.ref s3)) (F_shares_a : Fld Z h0 a "nearcast/engine/Best" "shares" "[C" (.ref s4)) (F_alpha_a : Fld Z h0 a "nearcast/engine/Best" "alpha" "D" (.double al)) (F_keywords_a : Fld Z h0 a "nearcast/engine/Best" "keywords" "I" (.int kw)) (F_count_a : Fld Z h0 a "nearcast/engine/Best" "count" "I" (.int (1 : Int32))) (F_size_a : Fld Z h0 a "nearcast/engine/Best" "size" "I" (.int (1 : Int32))) (F_scored_a : Fld Z h0 a "nearcast/engine/Best" "scored" "J" (.long sd)) (F_ordered_a : Fld Z h0 a "nearcast/engine/Best" "ordered" "Z" (.int (0 : Int32))) (F_heap_a : Fld Z h0 a "nearcast/engine/Best" "heap" "Z" (.int (0 : Int32))) (V_s1 : Arv Z h0 s1 ks1 .int (16 : Int32) [(.int xa), (.int xb), (.int (0 : Int32)), (.int (0 : Int32)), (.int (0 : Int32)), (.int (0 : Int32)), (.int (0 : Int32)), (.int (0 : Int32)), (.int (0 : Int32)), (.int (0 : Int32)), (.int (0 : Int32)), (.int (0 : Int32)), (.int (0 : Int32)), (.int (0 : Int32)), (.int (0 : Int32)), (.int (0 : Int32))] (.int (0 : Int32))) (V_s2 : Arv Z h0 s2 ks2 .long (16 : Int32) [(.long ja), (.long jb), (.long (0 : Int64)), (.long (0 : Int64)), (.long (0 : Int64)), (.long (0 : Int64)), (.long (0 : Int64)), (.long (0 : Int64)), (.long (0 : Int64)), (.long (0 : Int64)), (.long (0 : Int64)), (.long (0 : Int64)), (.long (0 : Int64)), (.long (0 : Int64)), (.long (0 : Int64)), (.long (0 : Int64))] (.long (0 : Int64))) (V_s3 : Arv Z h0 s3 ks3 .double (16 : Int32) [(.double za), (.double zb), (.double (0 : UInt64)), (.double (0 : UInt64)), (.double (0 : UInt64)), (.double (0 : UInt64)), (.double (0 : UInt64)), (.double (0 : UInt64)), (.double (0 : UInt64)), (.double (0 : UInt64)), (.double (0 : UInt64)), (.double (0 : UInt64)), (.double (0 : UInt64)), (.double (0 : UInt64)), (.double (0 : UInt64)), (.double (0 : UInt64))] (.double (0 : UInt64))) (V_s4 : Arv Z h0 s4 ks4 .char (16 : Int32) [(.int ra), (.int rb), (.int (0 : Int32)), (.int (0 : Int32)), (.int (0 : Int32)), (.int (0 : Int32)), (.int (0 : Int32)), (.int (0 : Int32)), (.int (0 : Int32)), (.int (0 : Int32)), (.int (0 : Int32)), (.int (0 : Int32)), (.int (0 : Int32)), (.int (0 : Int32)), (.int (0 : Int32)), (.int (0 : Int32))] (.int (0 : Int32))) (ne_s1_s2 : s1 ≠ s2) (ne_s1_s3 : s1 ≠ s3) (ne_s1_s4 : s1 ≠ s4) (ne_s2_s3 : s2 ≠ s3) (ne_s2_s4 : s2 ≠ s4) (ne_s3_s4 : s3 ≠ s4) (g_s1 : n0 ≤ s1) (g_s2 : n0 ≤ s2) (g_s3 : n0 ≤ s3) (g_s4 : n0 ≤ s4) (g_a : n0 ≤ a) (hc : FP.dcmp za sc = some .gt) (hnx : Jvm.Free.Fl.NoNaN64 lo) (hny : Jvm.Free.Fl.NoNaN64 sc) (hl : FP.dcmp lo sc = some .lt) (u0 : Jvm.Free.Fl.NoNaN64 d3) (hj : d3 = (FP.ddiv (FP.l2d p2.toInt64) (FP.l2d p3.toInt64))) (hs : sc = (FP.dadd (FP.dmul al d2) (FP.dmul (FP.dsub (4607182418800017408 : UInt64) al) d3))) (u1 : Jvm.Free.Fl.NoNaN64 (FP.dmul al d2)) (u2 : Jvm.Free.Fl.NoNaN64 (FP.dsub (4607182418800017408 : UInt64) al)) (u3 : Jvm.Free.Fl.NoNaN64 (FP.dmul (FP.dsub (4607182418800017408 : UInt64) al) d3)) (u4 : Jvm.Free.Fl.NoNaN64 (FP.dadd (FP.dmul al d2) (FP.dmul (FP.dsub (4607182418800017408 : UInt64) al) d3))) :
    Meets l (⟨"nearcast/engine/Best", "offer", "(IJDII)V"⟩ : MethodName) prog_15_method_5_code 11 none ws ({ frames := 2, cells := 0, slots := 0, locals := 39 } : Room) Z #[(.ref a), (.int p1), (.long l1), (.double d2), (.int p2), (.int p3)] h0 (Q_rm_ofB Z a lo al kw sd s1 s2 s3 s4 ks1 ks2 ks3 ks4 xa xb ja jb za zb ra rb p1 l1 d2 d3 sc p2 p3 h0 n0) 0 0 := by
  refine enter (Ls := #[.val (.ref a), .val (.int p1), .val (.long l1), .second, .val (.double d2), .second, .val (.int p2), .val (.int p3), .unset, .unset, .unset]) (plainFor_of_name pn_3) (fun m => by first | (simp [entryFrame, mkF, argsToLocals, Value.category]; done) | rfl) ?_
  intro p e s m below meth c T0 hx hby hml hown hnm hret hlk hZ X0 e0
  have N0 := Fr.nil n0
  replace hown : s.vm.findClass "nearcast/engine/Best" = some m.cls := hown
  show Run p e below _ (T0.setTop (mkF m 0 #[.val (.ref a), .val (.int p1), .val (.long l1), .second, .val (.double d2), .second, .val (.int p2), .val (.int p3), .unset, .unset, .unset] []))
  have K0 := Keep.refl h0 [a]
  refine go (fun _ => XS.aloadN X0.here hx rfl (hb hby d_p15_m5_0) rfl rfl) ?_
  show Run p e below _ (T0.setTop (mkF m 1 #[.val (.ref a), .val (.int p1), .val (.long l1), .second, .val (.double d2), .second, .val (.int p2), .val (.int p3), .unset, .unset, .unset] [(.ref a)]))
  obtain ⟨T140, X140, e140, st140⟩ := getF X0 hx hZ hown (host := "") (Or.inl (wd hw 40 rfl)) Via.refl e0 F_ordered_a (g := (mkF m 1 #[.val (.ref a), .val (.int p1), .val (.long l1), .second, .val (.double d2), .second, .val (.int p2), .val (.int p3), .unset, .unset, .unset] [(.ref a)])) rfl rfl (hb hby d_p15_m5_1)
  refine go st140 ?_
  show Run p e below _ (T140.setTop (mkF m 4 #[.val (.ref a), .val (.int p1), .val (.long l1), .second, .val (.double d2), .second, .val (.int p2), .val (.int p3), .unset, .unset, .unset] [(.int (0 : Int32))]))
  refine go (fun _ => XS.ifYes X140.here hx rfl (pc0 := 4) (pc' := 17) rfl (hb hby d_p15_m5_4) rfl ((if0 _ _).trans (teq (by decide : (0 : Int32) = 0)).1) (by decide) (by decide)) ?_
  show Run p e below _ (T140.setTop (mkF m 17 #[.val (.ref a), .val (.int p1), .val (.long l1), .second, .val (.double d2), .second, .val (.int p2), .val (.int p3), .unset, .unset, .unset] []))
  refine go (fun _ => XS.aloadN X140.here hx rfl (hb hby d_p15_m5_17) rfl rfl) ?_
  show Run p e below _ (T140.setTop (mkF m 18 #[.val (.ref a), .val (.int p1), .val (.long l1), .second, .val (.double d2), .second, .val (.int p2), .val (.int p3), .unset, .unset, .unset] [(.ref a)]))
  refine go (fun _ => XS.dup X140.here hx rfl (hb hby d_p15_m5_18) rfl rfl) ?_
  show Run p e below _ (T140.setTop (mkF m 19 #[.val (.ref a), .val (.int p1), .val (.long l1), .second, .val (.double d2), .second, .val (.int p2), .val (.int p3), .unset, .unset, .unset] [(.ref a), (.ref a)]))
  obtain ⟨T141, X141, e141, st141⟩ := getF X140 hx hZ hown (host := "") (Or.inl (wd hw 38 rfl)) Via.refl e140 F_scored_a (g := (mkF m 19 #[.val (.ref a), .val (.int p1), .val (.long l1), .second, .val (.double d2), .second, .val (.int p2), .val (.int p3), .unset, .unset, .unset] [(.ref a), (.ref a)])) rfl rfl (hb hby d_p15_m5_19)
  refine go st141 ?_
  show Run p e below _ (T141.setTop (mkF m 22 #[.val (.ref a), .val (.int p1), .val (.long l1), .second, .val (.double d2), .second, .val (.int p2), .val (.int p3), .unset, .unset, .unset] [(.long sd), (.ref a)]))
  refine go (fun _ => XS.lconst X141.here hx rfl (hb hby d_p15_m5_22)) ?_
  show Run p e below _ (T141.setTop (mkF m 23 #[.val (.ref a), .val (.int p1), .val (.long l1), .second, .val (.double d2), .second, .val (.int p2), .val (.int p3), .unset, .unset, .unset] [(.long (1 : Int64)), (.long sd), (.ref a)]))
  refine go (fun _ => XS.ladd X141.here hx rfl (hb hby d_p15_m5_23) rfl) ?_
  show Run p e below _ (T141.setTop (mkF m 24 #[.val (.ref a), .val (.int p1), .val (.long l1), .second, .val (.double d2), .second, .val (.int p2), .val (.int p3), .unset, .unset, .unset] [(.long (sd + (1 : Int64))), (.ref a)]))
  obtain ⟨T142, h142, X142, e142, W142, st142⟩ := putF X141 hx hZ hown (host := "") (Or.inl (wd hw 38 rfl)) Via.refl e141 F_scored_a E_a (Or.inl (wd hw 39 rfl)) (wd hw 1 rfl) (ty := .long) (by decide) rfl rfl (g := (mkF m 24 #[.val (.ref a), .val (.int p1), .val (.long l1), .second, .val (.double d2), .second, .val (.int p2), .val (.int p3), .unset, .unset, .unset] [(.long (sd + (1 : Int64))), (.ref a)])) rfl rfl (hb hby d_p15_m5_24)
  have ne_s1_a : s1 ≠ a := Ne.symm (Exa.neArv E_a V_s1 (wd hw 1 rfl))
  have ne_s2_a : s2 ≠ a := Ne.symm (Exa.neArv E_a V_s2 (wd hw 1 rfl))
  have ne_s3_a : s3 ≠ a := Ne.symm (Exa.neArv E_a V_s3 (wd hw 1 rfl))
  have ne_s4_a : s4 ≠ a := Ne.symm (Exa.neArv E_a V_s4 (wd hw 1 rfl))
  have O0 := O0.wr W142 g_a
  have E_a := E_a.wr W142
  have F_leftOut_a := F_leftOut_a.other W142 (Or.inr (slot_ne (Or.inl (wd hw 11 rfl)) (Or.inl (wd hw 39 rfl)) (by decide) (t := .double) (t' := .long) (by decide) (by decide)))
  have F_slots_a := F_slots_a.other W142 (Or.inr (slot_ne (Or.inl (wd hw 14 rfl)) (Or.inl (wd hw 39 rfl)) (by decide) (t := (.array .int)) (t' := .long) (by decide) (by decide)))
  have F_published_a := F_published_a.other W142 (Or.inr (slot_ne (Or.inl (wd hw 17 rfl)) (Or.inl (wd hw 39 rfl)) (by decide) (t := (.array .long)) (t' := .long) (by decide) (by decide)))
  have F_scores_a := F_scores_a.other W142 (Or.inr (slot_ne (Or.inl (wd hw 20 rfl)) (Or.inl (wd hw 39 rfl)) (by decide) (t := (.array .double)) (t' := .long) (by decide) (by decide)))
  have F_shares_a := F_shares_a.other W142 (Or.inr (slot_ne (Or.inl (wd hw 23 rfl)) (Or.inl (wd hw 39 rfl)) (by decide) (t := (.array .char)) (t' := .long) (by decide) (by decide)))
  have F_alpha_a := F_alpha_a.other W142 (Or.inr (slot_ne (Or.inl (wd hw 31 rfl)) (Or.inl (wd hw 39 rfl)) (by decide) (t := .double) (t' := .long) (by decide) (by decide)))
  have F_keywords_a := F_keywords_a.other W142 (Or.inr (slot_ne (Or.inl (wd hw 33 rfl)) (Or.inl (wd hw 39 rfl)) (by decide) (t := .int) (t' := .long) (by decide) (by decide)))
  have F_count_a := F_count_a.other W142 (Or.inr (slot_ne (Or.inl (wd hw 35 rfl)) (Or.inl (wd hw 39 rfl)) (by decide) (t := .int) (t' := .long) (by decide) (by decide)))
  have F_size_a := F_size_a.other W142 (Or.inr (slot_ne (Or.inl (wd hw 37 rfl)) (Or.inl (wd hw 39 rfl)) (by decide) (t := .int) (t' := .long) (by decide) (by decide)))
  have F_scored_a := F_scored_a.same W142
  have F_ordered_a := F_ordered_a.other W142 (Or.inr (slot_ne (Or.inl (wd hw 41 rfl)) (Or.inl (wd hw 39 rfl)) (by decide) (t := .boolean) (t' := .long) (by decide) (by decide)))
  have F_heap_a := F_heap_a.other W142 (Or.inr (slot_ne (Or.inl (wd hw 43 rfl)) (Or.inl (wd hw 39 rfl)) (by decide) (t := .boolean) (t' := .long) (by decide) (by decide)))
  have V_s1 := V_s1.other W142 ne_s1_a
  have V_s2 := V_s2.other W142 ne_s2_a
  have V_s3 := V_s3.other W142 ne_s3_a
  have V_s4 := V_s4.other W142 ne_s4_a
  have K0 := K0.wr W142 (Or.inl (by simp))
  have N142 := Fr.snoc X142 N0 g_a
  refine go st142 ?_
  show Run p e below _ (T142.setTop (mkF m 27 #[.val (.ref a), .val (.int p1), .val (.long l1), .second, .val (.double d2), .second, .val (.int p2), .val (.int p3), .unset, .unset, .unset] []))
  refine go (fun _ => XS.aloadN X142.here hx rfl (hb hby d_p15_m5_27) rfl rfl) ?_
  show Run p e below _ (T142.setTop (mkF m 28 #[.val (.ref a), .val (.int p1), .val (.long l1), .second, .val (.double d2), .second, .val (.int p2), .val (.int p3), .unset, .unset, .unset] [(.ref a)]))
  obtain ⟨T143, X143, e143, st143⟩ := getF X142 hx hZ hown (host := "") (Or.inl (wd hw 30 rfl)) Via.refl e142 F_alpha_a (g := (mkF m 28 #[.val (.ref a), .val (.int p1), .val (.long l1), .second, .val (.double d2), .second, .val (.int p2), .val (.int p3), .unset, .unset, .unset] [(.ref a)])) rfl rfl (hb hby d_p15_m5_28)
  refine go st143 ?_
  show Run p e below _ (T143.setTop (mkF m 31 #[.val (.ref a), .val (.int p1), .val (.long l1), .second, .val (.double d2), .second, .val (.int p2), .val (.int p3), .unset, .unset, .unset] [(.double al)]))
  refine go (fun _ => XS.dload X143.here hx rfl (hb hby d_p15_m5_31) rfl) ?_
  show Run p e below _ (T143.setTop (mkF m 33 #[.val (.ref a), .val (.int p1), .val (.long l1), .second, .val (.double d2), .second, .val (.int p2), .val (.int p3), .unset, .unset, .unset] [(.double d2), (.double al)]))
  refine go (fun _ => XS.iload X143.here hx rfl (hb hby d_p15_m5_33) rfl) ?_
  show Run p e below _ (T143.setTop (mkF m 35 #[.val (.ref a), .val (.int p1), .val (.long l1), .second, .val (.double d2), .second, .val (.int p2), .val (.int p3), .unset, .unset, .unset] [(.int p2), (.double d2), (.double al)]))
  refine go (fun _ => XS.iload X143.here hx rfl (hb hby d_p15_m5_35) rfl) ?_
  show Run p e below _ (T143.setTop (mkF m 37 #[.val (.ref a), .val (.int p1), .val (.long l1), .second, .val (.double d2), .second, .val (.int p2), .val (.int p3), .unset, .unset, .unset] [(.int p3), (.int p2), (.double d2), (.double al)]))
  refine callSt X143 hx hZ hown (wd hw 50 rfl) (wd hw 51 rfl) (wd hw 52 rfl) (wd hw 53 rfl) (by decide) e143 (argsL := [(.double al), (.double d2), (.int p2), (.int p3)]) (rest := []) (rm_of l Z a0 hw [] al d2 d3 sc p2 p3 h142 n0 O0 u0 hj hs u1 u2 u3 u4) (W := 0) (by decide) (by decide) (by decide) (by decide) (by rw [hml]; rfl) (lenOf pd_8 rfl) rfl (Nat.le_of_eq rfl) (hb hby d_p15_m5_37) ?_
  intro v144 T144 L144 h144 X144 e144 q144
  obtain ⟨rv, n144, k144⟩ := q144
  replace rv : v144 = some (.double sc) := rv
  subst rv
  have e144 := e144.trans k144
  have N144 := Fr.app N142 n144
  show Run p e below _ (T144.setTop (mkF m 40 #[.val (.ref a), .val (.int p1), .val (.long l1), .second, .val (.double d2), .second, .val (.int p2), .val (.int p3), .unset, .unset, .unset] [(.double sc)]))
  refine go (fun _ => XS.dstore X144.here hx rfl (hb hby d_p15_m5_40) rfl (l' := #[.val (.ref a), .val (.int p1), .val (.long l1), .second, .val (.double d2), .second, .val (.int p2), .val (.int p3), .val (.double sc), .second, .unset]) rfl) ?_
  show Run p e below _ (T144.setTop (mkF m 42 #[.val (.ref a), .val (.int p1), .val (.long l1), .second, .val (.double d2), .second, .val (.int p2), .val (.int p3), .val (.double sc), .second, .unset] []))
  refine go (fun _ => XS.iload X144.here hx rfl (hb hby d_p15_m5_42) rfl) ?_
  show Run p e below _ (T144.setTop (mkF m 44 #[.val (.ref a), .val (.int p1), .val (.long l1), .second, .val (.double d2), .second, .val (.int p2), .val (.int p3), .val (.double sc), .second, .unset] [(.int p2)]))
  refine go (fun _ => XS.iload X144.here hx rfl (hb hby d_p15_m5_44) rfl) ?_
  show Run p e below _ (T144.setTop (mkF m 46 #[.val (.ref a), .val (.int p1), .val (.long l1), .second, .val (.double d2), .second, .val (.int p2), .val (.int p3), .val (.double sc), .second, .unset] [(.int p3), (.int p2)]))
  refine callSt X144 hx hZ hown (wd hw 60 rfl) (wd hw 61 rfl) (wd hw 62 rfl) (wd hw 63 rfl) (by decide) e144 (argsL := [(.int p2), (.int p3)]) (rest := []) (rm_sh l Z a0 hw [] p2 p3 h142 n0 O0) (W := 0) (by decide) (by decide) (by decide) (by decide) (by rw [hml]; rfl) (lenOf pd_9 rfl) rfl (Nat.le_of_eq rfl) (hb hby d_p15_m5_46) ?_
  intro v145 T145 L145 h145 X145 e145 q145
  obtain ⟨rv, n145, k145⟩ := q145
  replace rv : v145 = some (.int (shv p2 p3)) := rv
  subst rv
  have e145 := e145.trans k145
  have N145 := Fr.app N144 n145
  show Run p e below _ (T145.setTop (mkF m 49 #[.val (.ref a), .val (.int p1), .val (.long l1), .second, .val (.double d2), .second, .val (.int p2), .val (.int p3), .val (.double sc), .second, .unset] [(.int (shv p2 p3))]))
  refine go (fun _ => XS.istore X145.here hx rfl (hb hby d_p15_m5_49) rfl (l' := #[.val (.ref a), .val (.int p1), .val (.long l1), .second, .val (.double d2), .second, .val (.int p2), .val (.int p3), .val (.double sc), .second, .val (.int (shv p2 p3))]) rfl) ?_
  show Run p e below _ (T145.setTop (mkF m 51 #[.val (.ref a), .val (.int p1), .val (.long l1), .second, .val (.double d2), .second, .val (.int p2), .val (.int p3), .val (.double sc), .second, .val (.int (shv p2 p3))] []))
  refine go (fun _ => XS.aloadN X145.here hx rfl (hb hby d_p15_m5_51) rfl rfl) ?_
  show Run p e below _ (T145.setTop (mkF m 52 #[.val (.ref a), .val (.int p1), .val (.long l1), .second, .val (.double d2), .second, .val (.int p2), .val (.int p3), .val (.double sc), .second, .val (.int (shv p2 p3))] [(.ref a)]))
  obtain ⟨T146, X146, e146, st146⟩ := getF X145 hx hZ hown (host := "") (Or.inl (wd hw 36 rfl)) Via.refl e145 F_size_a (g := (mkF m 52 #[.val (.ref a), .val (.int p1), .val (.long l1), .second, .val (.double d2), .second, .val (.int p2), .val (.int p3), .val (.double sc), .second, .val (.int (shv p2 p3))] [(.ref a)])) rfl rfl (hb hby d_p15_m5_52)
  refine go st146 ?_
  show Run p e below _ (T146.setTop (mkF m 55 #[.val (.ref a), .val (.int p1), .val (.long l1), .second, .val (.double d2), .second, .val (.int p2), .val (.int p3), .val (.double sc), .second, .val (.int (shv p2 p3))] [(.int (1 : Int32))]))
  refine go (fun _ => XS.aloadN X146.here hx rfl (hb hby d_p15_m5_55) rfl rfl) ?_
  show Run p e below _ (T146.setTop (mkF m 56 #[.val (.ref a), .val (.int p1), .val (.long l1), .second, .val (.double d2), .second, .val (.int p2), .val (.int p3), .val (.double sc), .second, .val (.int (shv p2 p3))] [(.ref a), (.int (1 : Int32))]))
  obtain ⟨T147, X147, e147, st147⟩ := getF X146 hx hZ hown (host := "") (Or.inl (wd hw 34 rfl)) Via.refl e146 F_count_a (g := (mkF m 56 #[.val (.ref a), .val (.int p1), .val (.long l1), .second, .val (.double d2), .second, .val (.int p2), .val (.int p3), .val (.double sc), .second, .val (.int (shv p2 p3))] [(.ref a), (.int (1 : Int32))])) rfl rfl (hb hby d_p15_m5_56)
  refine go st147 ?_
  show Run p e below _ (T147.setTop (mkF m 59 #[.val (.ref a), .val (.int p1), .val (.long l1), .second, .val (.double d2), .second, .val (.int p2), .val (.int p3), .val (.double sc), .second, .val (.int (shv p2 p3))] [(.int (1 : Int32)), (.int (1 : Int32))]))
  refine go (fun _ => XS.icmpYes X147.here hx rfl (pc0 := 59) (pc' := 102) rfl (hb hby d_p15_m5_59) rfl (flt (by decide : ¬ ((1 : Int32) < 1))).2.1 (by decide) (by decide)) ?_
  show Run p e below _ (T147.setTop (mkF m 102 #[.val (.ref a), .val (.int p1), .val (.long l1), .second, .val (.double d2), .second, .val (.int p2), .val (.int p3), .val (.double sc), .second, .val (.int (shv p2 p3))] []))
  refine go (fun _ => XS.dload X147.here hx rfl (hb hby d_p15_m5_102) rfl) ?_
  show Run p e below _ (T147.setTop (mkF m 104 #[.val (.ref a), .val (.int p1), .val (.long l1), .second, .val (.double d2), .second, .val (.int p2), .val (.int p3), .val (.double sc), .second, .val (.int (shv p2 p3))] [(.double sc)]))
  refine go (fun _ => XS.lloadN X147.here hx rfl (hb hby d_p15_m5_104) rfl) ?_
  show Run p e below _ (T147.setTop (mkF m 105 #[.val (.ref a), .val (.int p1), .val (.long l1), .second, .val (.double d2), .second, .val (.int p2), .val (.int p3), .val (.double sc), .second, .val (.int (shv p2 p3))] [(.long l1), (.double sc)]))
  refine go (fun _ => XS.aloadN X147.here hx rfl (hb hby d_p15_m5_105) rfl rfl) ?_
  show Run p e below _ (T147.setTop (mkF m 106 #[.val (.ref a), .val (.int p1), .val (.long l1), .second, .val (.double d2), .second, .val (.int p2), .val (.int p3), .val (.double sc), .second, .val (.int (shv p2 p3))] [(.ref a), (.long l1), (.double sc)]))
  refine callPr X147 hx hZ hown (wd hw 69 rfl) (wd hw 71 rfl) (sel_priv (wd hw 1 rfl) (wd hw 71 rfl) (wd hw 70 rfl) (by decide)) (wd hw 70 rfl) (wd hw 72 rfl) (wd hw 2 rfl) (by decide) e147 E_a (argsL := []) (rest := [(.long l1), (.double sc)]) (rm_w1 l Z a0 hw [] a lo al kw (1 : Int32) (sd + (1 : Int64)) (0 : Int32) s1 s2 s3 s4 ks1 ks2 ks3 ks4 xa xb ja jb za zb ra rb h142 n0 O0 E_a F_leftOut_a F_slots_a F_published_a F_scores_a F_shares_a F_alpha_a F_keywords_a F_count_a F_size_a F_scored_a F_ordered_a F_heap_a V_s1 V_s2 V_s3 V_s4 ne_s1_s2 ne_s1_s3 ne_s1_s4 ne_s2_s3 ne_s2_s4 ne_s3_s4 g_s1 g_s2 g_s3 g_s4 g_a ) (W := 4) (by decide) (by decide) (by decide) (by decide) (by rw [hml]; rfl) (lenOf pd_10 rfl) rfl (Nat.le_of_eq rfl) (hb hby d_p15_m5_106) ?_
  intro v148 T148 L148 h148 X148 e148 q148
  obtain ⟨rv, n148, K148, E_a, F_leftOut_a, F_slots_a, F_published_a, F_scores_a, F_shares_a, F_alpha_a, F_keywords_a, F_count_a, F_size_a, F_scored_a, F_ordered_a, F_heap_a⟩ := q148
  replace rv : v148 = some (.double za) := rv
  subst rv
  have O0 := O0.keep K148 (allS g_a all0)
  have V_s1 := V_s1.keep K148 (ninS ne_s1_a nin0)
  have V_s2 := V_s2.keep K148 (ninS ne_s2_a nin0)
  have V_s3 := V_s3.keep K148 (ninS ne_s3_a nin0)
  have V_s4 := V_s4.keep K148 (ninS ne_s4_a nin0)
  have K0 := K0.trans K148 (allS (Or.inl (by simp)) all0)
  have N148 := Fr.app N145 n148
  show Run p e below _ (T148.setTop (mkF m 109 #[.val (.ref a), .val (.int p1), .val (.long l1), .second, .val (.double d2), .second, .val (.int p2), .val (.int p3), .val (.double sc), .second, .val (.int (shv p2 p3))] [(.double za), (.long l1), (.double sc)]))
  refine go (fun _ => XS.aloadN X148.here hx rfl (hb hby d_p15_m5_109) rfl rfl) ?_
  show Run p e below _ (T148.setTop (mkF m 110 #[.val (.ref a), .val (.int p1), .val (.long l1), .second, .val (.double d2), .second, .val (.int p2), .val (.int p3), .val (.double sc), .second, .val (.int (shv p2 p3))] [(.ref a), (.double za), (.long l1), (.double sc)]))
  obtain ⟨T149, X149, e149, st149⟩ := getF X148 hx hZ hown (host := "") (Or.inl (wd hw 16 rfl)) Via.refl e148 F_published_a (g := (mkF m 110 #[.val (.ref a), .val (.int p1), .val (.long l1), .second, .val (.double d2), .second, .val (.int p2), .val (.int p3), .val (.double sc), .second, .val (.int (shv p2 p3))] [(.ref a), (.double za), (.long l1), (.double sc)])) rfl rfl (hb hby d_p15_m5_110)
  refine go st149 ?_
  show Run p e below _ (T149.setTop (mkF m 113 #[.val (.ref a), .val (.int p1), .val (.long l1), .second, .val (.double d2), .second, .val (.int p2), .val (.int p3), .val (.double sc), .second, .val (.int (shv p2 p3))] [(.ref s2), (.double za), (.long l1), (.double sc)]))
  refine go (fun _ => XS.iconst X149.here hx rfl (hb hby d_p15_m5_113)) ?_
  show Run p e below _ (T149.setTop (mkF m 114 #[.val (.ref a), .val (.int p1), .val (.long l1), .second, .val (.double d2), .second, .val (.int p2), .val (.int p3), .val (.double sc), .second, .val (.int (shv p2 p3))] [(.int (0 : Int32)), (.ref s2), (.double za), (.long l1), (.double sc)]))
  obtain ⟨cl150, Ar150, ak150, as150, an150, ah150, ag150⟩ := id V_s2
  have hin150 := inb_of as150 (j := (0 : Int32)) ⟨by decide, by decide⟩
  have hat150 := ah150.at hin150 (v := (.long ja)) rfl
  refine go (fun _ => X149.laload hx (j := (0 : Int32)) (v := (.long ja)) (by rw [e149]; exact Ar150.1) (State.isArrayOf_alike hZ.alike Ar150.2.1) Ar150.2.2 hin150 hat150 (g := (mkF m 114 #[.val (.ref a), .val (.int p1), .val (.long l1), .second, .val (.double d2), .second, .val (.int p2), .val (.int p3), .val (.double sc), .second, .val (.int (shv p2 p3))] [(.int (0 : Int32)), (.ref s2), (.double za), (.long l1), (.double sc)])) rfl rfl (hb hby d_p15_m5_114) _) ?_
  show Run p e below _ (T149.setTop (mkF m 115 #[.val (.ref a), .val (.int p1), .val (.long l1), .second, .val (.double d2), .second, .val (.int p2), .val (.int p3), .val (.double sc), .second, .val (.int (shv p2 p3))] [(.long ja), (.double za), (.long l1), (.double sc)]))
  refine callSt X149 hx hZ hown (wd hw 73 rfl) (wd hw 74 rfl) (wd hw 52 rfl) (wd hw 75 rfl) (by decide) e149 (argsL := [(.double sc), (.long l1), (.double za), (.long ja)]) (rest := []) (rm_bf l Z a0 hw [] za sc l1 ja (1 : Int32) h148 n0 O0 (Or.inr ⟨hc, rfl⟩)) (W := 0) (by decide) (by decide) (by decide) (by decide) (by rw [hml]; rfl) (lenOf pd_4 rfl) rfl (Nat.le_of_eq rfl) (hb hby d_p15_m5_115) ?_
  intro v151 T151 L151 h151 X151 e151 q151
  obtain ⟨rv, n151, k151⟩ := q151
  replace rv : v151 = some (.int (1 : Int32)) := rv
  subst rv
  have e151 := e151.trans k151
  have N151 := Fr.app N148 n151
  show Run p e below _ (T151.setTop (mkF m 118 #[.val (.ref a), .val (.int p1), .val (.long l1), .second, .val (.double d2), .second, .val (.int p2), .val (.int p3), .val (.double sc), .second, .val (.int (shv p2 p3))] [(.int (1 : Int32))]))
  refine go (fun _ => XS.ifYes X151.here hx rfl (pc0 := 118) (pc' := 149) rfl (hb hby d_p15_m5_118) rfl ((if0 _ _).trans (flt (by decide : ¬ ((1 : Int32) < 0))).2.1) (by decide) (by decide)) ?_
  show Run p e below _ (T151.setTop (mkF m 149 #[.val (.ref a), .val (.int p1), .val (.long l1), .second, .val (.double d2), .second, .val (.int p2), .val (.int p3), .val (.double sc), .second, .val (.int (shv p2 p3))] []))
  refine go (fun _ => XS.aloadN X151.here hx rfl (hb hby d_p15_m5_149) rfl rfl) ?_
  show Run p e below _ (T151.setTop (mkF m 150 #[.val (.ref a), .val (.int p1), .val (.long l1), .second, .val (.double d2), .second, .val (.int p2), .val (.int p3), .val (.double sc), .second, .val (.int (shv p2 p3))] [(.ref a)]))
  refine go (fun _ => XS.dload X151.here hx rfl (hb hby d_p15_m5_150) rfl) ?_
  show Run p e below _ (T151.setTop (mkF m 152 #[.val (.ref a), .val (.int p1), .val (.long l1), .second, .val (.double d2), .second, .val (.int p2), .val (.int p3), .val (.double sc), .second, .val (.int (shv p2 p3))] [(.double sc), (.ref a)]))
  refine callPr X151 hx hZ hown (wd hw 80 rfl) (wd hw 82 rfl) (sel_priv (wd hw 1 rfl) (wd hw 82 rfl) (wd hw 81 rfl) (by decide)) (wd hw 81 rfl) (wd hw 83 rfl) (wd hw 2 rfl) (by decide) e151 E_a (argsL := [(.double sc)]) (rest := []) (rm_lo l Z a0 hw [] a lo al kw (1 : Int32) (1 : Int32) (sd + (1 : Int64)) (0 : Int32) (1 : Int32) s1 s2 s3 s4 sc h148 n0 O0 E_a F_leftOut_a F_slots_a F_published_a F_scores_a F_shares_a F_alpha_a F_keywords_a F_count_a F_size_a F_scored_a F_ordered_a F_heap_a g_a hnx hny hl) (W := 0) (by decide) (by decide) (by decide) (by decide) (by rw [hml]; rfl) (lenOf pd_11 rfl) rfl (Nat.le_of_eq rfl) (hb hby d_p15_m5_152) ?_
  intro v152 T152 L152 h152 X152 e152 q152
  obtain ⟨rv, n152, K152, E_a, F_leftOut_a, F_slots_a, F_published_a, F_scores_a, F_shares_a, F_alpha_a, F_keywords_a, F_count_a, F_size_a, F_scored_a, F_ordered_a, F_heap_a⟩ := q152
  subst rv
  have O0 := O0.keep K152 (allS g_a all0)
  have V_s1 := V_s1.keep K152 (ninS ne_s1_a nin0)
  have V_s2 := V_s2.keep K152 (ninS ne_s2_a nin0)
  have V_s3 := V_s3.keep K152 (ninS ne_s3_a nin0)
  have V_s4 := V_s4.keep K152 (ninS ne_s4_a nin0)
  have K0 := K0.trans K152 (allS (Or.inl (by simp)) all0)
  have N152 := Fr.app N151 n152
  show Run p e below _ (T152.setTop (mkF m 155 #[.val (.ref a), .val (.int p1), .val (.long l1), .second, .val (.double d2), .second, .val (.int p2), .val (.int p3), .val (.double sc), .second, .val (.int (shv p2 p3))] []))
  exact endV X152 hx hlk hret (hb hby d_p15_m5_155) (by rw [e152]; exact ⟨rfl, N152, K0, E_a, F_leftOut_a, F_slots_a, F_published_a, F_scores_a, F_shares_a, F_alpha_a, F_keywords_a, F_count_a, F_size_a, F_scored_a, F_ordered_a, F_heap_a⟩) (by decide) (by decide)
theorem d_p15_m7_0 : decode prog_15_method_7_code 0 = .ok (.aload_n 0, 1) := by decide +kernel
theorem d_p15_m7_1 : decode prog_15_method_7_code 1 = .ok (.getfield 48, 3) := by decide +kernel
theorem d_p15_m7_4 : decode prog_15_method_7_code 4 = .ok (.aload_n 0, 1) := by decide +kernel
theorem d_p15_m7_5 : decode prog_15_method_7_code 5 = .ok (.getfield 45, 3) := by decide +kernel
theorem d_p15_m7_8 : decode prog_15_method_7_code 8 = .ok (.if_icmp .ge 5, 3) := by decide +kernel
theorem d_p15_m7_13 : decode prog_15_method_7_code 13 = .ok (.dload_n 1, 1) := by decide +kernel
theorem d_p15_m7_14 : decode prog_15_method_7_code 14 = .ok (.lload_n 3, 1) := by decide +kernel
theorem d_p15_m7_15 : decode prog_15_method_7_code 15 = .ok (.aload_n 0, 1) := by decide +kernel
theorem d_p15_m7_16 : decode prog_15_method_7_code 16 = .ok (.invokevirtual 111, 3) := by decide +kernel
theorem d_p15_m7_19 : decode prog_15_method_7_code 19 = .ok (.aload_n 0, 1) := by decide +kernel
theorem d_p15_m7_20 : decode prog_15_method_7_code 20 = .ok (.getfield 26, 3) := by decide +kernel
theorem d_p15_m7_23 : decode prog_15_method_7_code 23 = .ok (.iconst 0, 1) := by decide +kernel
theorem d_p15_m7_24 : decode prog_15_method_7_code 24 = .ok (.laload, 1) := by decide +kernel
theorem d_p15_m7_25 : decode prog_15_method_7_code 25 = .ok (.invokestatic 115, 3) := by decide +kernel
theorem d_p15_m7_28 : decode prog_15_method_7_code 28 = .ok (.ifCond .le 7, 3) := by decide +kernel
theorem d_p15_m7_31 : decode prog_15_method_7_code 31 = .ok (.iconst 1, 1) := by decide +kernel
theorem d_p15_m7_32 : decode prog_15_method_7_code 32 = .ok (.goto 4, 3) := by decide +kernel
theorem d_p15_m7_36 : decode prog_15_method_7_code 36 = .ok (.istore 5, 2) := by decide +kernel
theorem d_p15_m7_38 : decode prog_15_method_7_code 38 = .ok (.iload 5, 2) := by decide +kernel
theorem d_p15_m7_40 : decode prog_15_method_7_code 40 = .ok (.ifCond .eq 8, 3) := by decide +kernel
theorem d_p15_m7_43 : decode prog_15_method_7_code 43 = .ok (.aload_n 0, 1) := by decide +kernel
theorem d_p15_m7_44 : decode prog_15_method_7_code 44 = .ok (.dload_n 1, 1) := by decide +kernel
theorem d_p15_m7_45 : decode prog_15_method_7_code 45 = .ok (.invokevirtual 119, 3) := by decide +kernel
theorem d_p15_m7_48 : decode prog_15_method_7_code 48 = .ok (.iload 5, 2) := by decide +kernel
theorem d_p15_m7_50 : decode prog_15_method_7_code 50 = .ok (.ireturn, 1) := by decide +kernel
def Q_rm_r1 (Z : State) (a : Addr) (lo al : UInt64) (kw : Int32) (sd : Int64) (od : Int32) (s1 s2 s3 s4 : Addr) (ks1 ks2 ks3 ks4 : ClassId) (xa xb : Int32) (ja jb : Int64) (za zb : UInt64) (ra rb : Int32) (d2 : UInt64) (l2 : Int64) (h0 : Heap) (n0 : Nat) (v : Option Value) (h : Heap) (L : List Loc) : Prop := v = some (.int 1) ∧ Fr n0 L ∧ Keep h0 h [a] ∧ Exa Z h a "nearcast/engine/Best" ∧ Fld Z h a "nearcast/engine/Best" "leftOut" "D" (.double d2) ∧ Fld Z h a "nearcast/engine/Best" "slots" "[I" (.ref s1) ∧ Fld Z h a "nearcast/engine/Best" "published" "[J" (.ref s2) ∧ Fld Z h a "nearcast/engine/Best" "scores" "[D" (.ref s3) ∧ Fld Z h a "nearcast/engine/Best" "shares" "[C" (.ref s4) ∧ Fld Z h a "nearcast/engine/Best" "alpha" "D" (.double al) ∧ Fld Z h a "nearcast/engine/Best" "keywords" "I" (.int kw) ∧ Fld Z h a "nearcast/engine/Best" "count" "I" (.int (1 : Int32)) ∧ Fld Z h a "nearcast/engine/Best" "size" "I" (.int (1 : Int32)) ∧ Fld Z h a "nearcast/engine/Best" "scored" "J" (.long sd) ∧ Fld Z h a "nearcast/engine/Best" "ordered" "Z" (.int od) ∧ Fld Z h a "nearcast/engine/Best" "heap" "Z" (.int (1 : Int32))
set_option maxRecDepth 65536 in
set_option maxHeartbeats 40000000 in
theorem rm_r1 (l : Launch) (Z : State) (a0 : Array Value) (hw : ∀ d ∈ tables_1, d.before a0 Z = true) (ws : List Jvm.Cond) (a : Addr) (lo al : UInt64) (kw : Int32) (sd : Int64) (od : Int32) (s1 s2 s3 s4 : Addr) (ks1 ks2 ks3 ks4 : ClassId) (xa xb : Int32) (ja jb : Int64) (za zb : UInt64) (ra rb : Int32) (d2 : UInt64) (l2 : Int64) (h0 : Heap) (n0 : Nat) (O0 : Old Z n0 h0) (E_a : Exa Z h0 a "nearcast/engine/Best") (F_leftOut_a : Fld Z h0 a "nearcast/engine/Best" "leftOut" "D" (.double lo)) (F_slots_a : Fld Z h0 a "nearcast/engine/Best" "slots" "[I" (.ref s1)) (F_published_a : Fld Z h0 a "nearcast/engine/Best" "published" "[J" (.ref s2)) (F_scores_a : Fld Z h0 a "nearcast/engine/Best" "scores" "[D" (.ref s3)) (F_shares_a : Fld Z h0 a "nearcast/engine/Best" "shares" "[C" (.ref s4)) (F_alpha_a : Fld Z h0 a "nearcast/engine/Best" "alpha" "D" (.double al)) (F_keywords_a : Fld Z h0 a "nearcast/engine/Best" "keywords" "I" (.int kw)) (F_count_a : Fld Z h0 a "nearcast/engine/Best" "count" "I" (.int (1 : Int32))) (F_size_a : Fld Z h0 a "nearcast/engine/Best" "size" "I" (.int (1 : Int32))) (F_scored_a : Fld Z h0 a "nearcast/engine/Best" "scored" "J" (.long sd)) (F_ordered_a : Fld Z h0 a "nearcast/engine/Best" "ordered" "Z" (.int od)) (F_heap_a : Fld Z h0 a "nearcast/engine/Best" "heap" "Z" (.int (1 : Int32))) (V_s1 : Arv Z h0 s1 ks1 .int (16 : Int32) [(.int xa), (.int xb), (.int (0 : Int32)), (.int (0 : Int32)), (.int (0 : Int32)), (.int (0 : Int32)), (.int (0 : Int32)), (.int (0 : Int32)), (.int (0 : Int32)), (.int (0 : Int32)), (.int (0 : Int32)), (.int (0 : Int32)), (.int (0 : Int32)), (.int (0 : Int32)), (.int (0 : Int32)), (.int (0 : Int32))] (.int (0 : Int32))) (V_s2 : Arv Z h0 s2 ks2 .long (16 : Int32) [(.long ja), (.long jb), (.long (0 : Int64)), (.long (0 : Int64)), (.long (0 : Int64)), (.long (0 : Int64)), (.long (0 : Int64)), (.long (0 : Int64)), (.long (0 : Int64)), (.long (0 : Int64)), (.long (0 : Int64)), (.long (0 : Int64)), (.long (0 : Int64)), (.long (0 : Int64)), (.long (0 : Int64)), (.long (0 : Int64))] (.long (0 : Int64))) (V_s3 : Arv Z h0 s3 ks3 .double (16 : Int32) [(.double za), (.double zb), (.double (0 : UInt64)), (.double (0 : UInt64)), (.double (0 : UInt64)), (.double (0 : UInt64)), (.double (0 : UInt64)), (.double (0 : UInt64)), (.double (0 : UInt64)), (.double (0 : UInt64)), (.double (0 : UInt64)), (.double (0 : UInt64)), (.double (0 : UInt64)), (.double (0 : UInt64)), (.double (0 : UInt64)), (.double (0 : UInt64))] (.double (0 : UInt64))) (V_s4 : Arv Z h0 s4 ks4 .char (16 : Int32) [(.int ra), (.int rb), (.int (0 : Int32)), (.int (0 : Int32)), (.int (0 : Int32)), (.int (0 : Int32)), (.int (0 : Int32)), (.int (0 : Int32)), (.int (0 : Int32)), (.int (0 : Int32)), (.int (0 : Int32)), (.int (0 : Int32)), (.int (0 : Int32)), (.int (0 : Int32)), (.int (0 : Int32)), (.int (0 : Int32))] (.int (0 : Int32))) (ne_s1_s2 : s1 ≠ s2) (ne_s1_s3 : s1 ≠ s3) (ne_s1_s4 : s1 ≠ s4) (ne_s2_s3 : s2 ≠ s3) (ne_s2_s4 : s2 ≠ s4) (ne_s3_s4 : s3 ≠ s4) (g_s1 : n0 ≤ s1) (g_s2 : n0 ≤ s2) (g_s3 : n0 ≤ s3) (g_s4 : n0 ≤ s4) (g_a : n0 ≤ a) (hc : FP.dcmp za d2 = some .gt) (hnx : Jvm.Free.Fl.NoNaN64 lo) (hny : Jvm.Free.Fl.NoNaN64 d2) (hl : FP.dcmp lo d2 = some .lt) :
    Meets l (⟨"nearcast/engine/Best", "rulesOut", "(DJ)Z"⟩ : MethodName) prog_15_method_7_code 6 (some .boolean) ws ({ frames := 2, cells := 0, slots := 0, locals := 39 } : Room) Z #[(.ref a), (.double d2), (.long l2)] h0 (Q_rm_r1 Z a lo al kw sd od s1 s2 s3 s4 ks1 ks2 ks3 ks4 xa xb ja jb za zb ra rb d2 l2 h0 n0) 0 0 := by
  refine enter (Ls := #[.val (.ref a), .val (.double d2), .second, .val (.long l2), .second, .unset]) (plainFor_of_name pn_3) (fun m => by first | (simp [entryFrame, mkF, argsToLocals, Value.category]; done) | rfl) ?_
  intro p e s m below meth c T0 hx hby hml hown hnm hret hlk hZ X0 e0
  have N0 := Fr.nil n0
  replace hown : s.vm.findClass "nearcast/engine/Best" = some m.cls := hown
  show Run p e below _ (T0.setTop (mkF m 0 #[.val (.ref a), .val (.double d2), .second, .val (.long l2), .second, .unset] []))
  have K0 := Keep.refl h0 [a]
  refine go (fun _ => XS.aloadN X0.here hx rfl (hb hby d_p15_m7_0) rfl rfl) ?_
  show Run p e below _ (T0.setTop (mkF m 1 #[.val (.ref a), .val (.double d2), .second, .val (.long l2), .second, .unset] [(.ref a)]))
  obtain ⟨T153, X153, e153, st153⟩ := getF X0 hx hZ hown (host := "") (Or.inl (wd hw 36 rfl)) Via.refl e0 F_size_a (g := (mkF m 1 #[.val (.ref a), .val (.double d2), .second, .val (.long l2), .second, .unset] [(.ref a)])) rfl rfl (hb hby d_p15_m7_1)
  refine go st153 ?_
  show Run p e below _ (T153.setTop (mkF m 4 #[.val (.ref a), .val (.double d2), .second, .val (.long l2), .second, .unset] [(.int (1 : Int32))]))
  refine go (fun _ => XS.aloadN X153.here hx rfl (hb hby d_p15_m7_4) rfl rfl) ?_
  show Run p e below _ (T153.setTop (mkF m 5 #[.val (.ref a), .val (.double d2), .second, .val (.long l2), .second, .unset] [(.ref a), (.int (1 : Int32))]))
  obtain ⟨T154, X154, e154, st154⟩ := getF X153 hx hZ hown (host := "") (Or.inl (wd hw 34 rfl)) Via.refl e153 F_count_a (g := (mkF m 5 #[.val (.ref a), .val (.double d2), .second, .val (.long l2), .second, .unset] [(.ref a), (.int (1 : Int32))])) rfl rfl (hb hby d_p15_m7_5)
  refine go st154 ?_
  show Run p e below _ (T154.setTop (mkF m 8 #[.val (.ref a), .val (.double d2), .second, .val (.long l2), .second, .unset] [(.int (1 : Int32)), (.int (1 : Int32))]))
  refine go (fun _ => XS.icmpYes X154.here hx rfl (pc0 := 8) (pc' := 13) rfl (hb hby d_p15_m7_8) rfl (flt (by decide : ¬ ((1 : Int32) < 1))).2.1 (by decide) (by decide)) ?_
  show Run p e below _ (T154.setTop (mkF m 13 #[.val (.ref a), .val (.double d2), .second, .val (.long l2), .second, .unset] []))
  refine go (fun _ => XS.dloadN X154.here hx rfl (hb hby d_p15_m7_13) rfl) ?_
  show Run p e below _ (T154.setTop (mkF m 14 #[.val (.ref a), .val (.double d2), .second, .val (.long l2), .second, .unset] [(.double d2)]))
  refine go (fun _ => XS.lloadN X154.here hx rfl (hb hby d_p15_m7_14) rfl) ?_
  show Run p e below _ (T154.setTop (mkF m 15 #[.val (.ref a), .val (.double d2), .second, .val (.long l2), .second, .unset] [(.long l2), (.double d2)]))
  refine go (fun _ => XS.aloadN X154.here hx rfl (hb hby d_p15_m7_15) rfl rfl) ?_
  show Run p e below _ (T154.setTop (mkF m 16 #[.val (.ref a), .val (.double d2), .second, .val (.long l2), .second, .unset] [(.ref a), (.long l2), (.double d2)]))
  refine callPr X154 hx hZ hown (wd hw 69 rfl) (wd hw 71 rfl) (sel_priv (wd hw 1 rfl) (wd hw 71 rfl) (wd hw 70 rfl) (by decide)) (wd hw 70 rfl) (wd hw 72 rfl) (wd hw 2 rfl) (by decide) e154 E_a (argsL := []) (rest := [(.long l2), (.double d2)]) (rm_w1h l Z a0 hw [] a lo al kw (1 : Int32) (1 : Int32) sd od s1 s2 s3 s4 ks1 ks2 ks3 ks4 xa xb ja jb za zb ra rb h0 n0 O0 E_a F_leftOut_a F_slots_a F_published_a F_scores_a F_shares_a F_alpha_a F_keywords_a F_count_a F_size_a F_scored_a F_ordered_a F_heap_a V_s1 V_s2 V_s3 V_s4 ne_s1_s2 ne_s1_s3 ne_s1_s4 ne_s2_s3 ne_s2_s4 ne_s3_s4 g_s1 g_s2 g_s3 g_s4 g_a ) (W := 4) (by decide) (by decide) (by decide) (by decide) (by rw [hml]; rfl) (lenOf pd_10 rfl) rfl (Nat.le_of_eq rfl) (hb hby d_p15_m7_16) ?_
  intro v155 T155 L155 h155 X155 e155 q155
  obtain ⟨rv, n155, k155⟩ := q155
  replace rv : v155 = some (.double za) := rv
  subst rv
  have e155 := e155.trans k155
  have N155 := Fr.app N0 n155
  show Run p e below _ (T155.setTop (mkF m 19 #[.val (.ref a), .val (.double d2), .second, .val (.long l2), .second, .unset] [(.double za), (.long l2), (.double d2)]))
  refine go (fun _ => XS.aloadN X155.here hx rfl (hb hby d_p15_m7_19) rfl rfl) ?_
  show Run p e below _ (T155.setTop (mkF m 20 #[.val (.ref a), .val (.double d2), .second, .val (.long l2), .second, .unset] [(.ref a), (.double za), (.long l2), (.double d2)]))
  obtain ⟨T156, X156, e156, st156⟩ := getF X155 hx hZ hown (host := "") (Or.inl (wd hw 16 rfl)) Via.refl e155 F_published_a (g := (mkF m 20 #[.val (.ref a), .val (.double d2), .second, .val (.long l2), .second, .unset] [(.ref a), (.double za), (.long l2), (.double d2)])) rfl rfl (hb hby d_p15_m7_20)
  refine go st156 ?_
  show Run p e below _ (T156.setTop (mkF m 23 #[.val (.ref a), .val (.double d2), .second, .val (.long l2), .second, .unset] [(.ref s2), (.double za), (.long l2), (.double d2)]))
  refine go (fun _ => XS.iconst X156.here hx rfl (hb hby d_p15_m7_23)) ?_
  show Run p e below _ (T156.setTop (mkF m 24 #[.val (.ref a), .val (.double d2), .second, .val (.long l2), .second, .unset] [(.int (0 : Int32)), (.ref s2), (.double za), (.long l2), (.double d2)]))
  obtain ⟨cl157, Ar157, ak157, as157, an157, ah157, ag157⟩ := id V_s2
  have hin157 := inb_of as157 (j := (0 : Int32)) ⟨by decide, by decide⟩
  have hat157 := ah157.at hin157 (v := (.long ja)) rfl
  refine go (fun _ => X156.laload hx (j := (0 : Int32)) (v := (.long ja)) (by rw [e156]; exact Ar157.1) (State.isArrayOf_alike hZ.alike Ar157.2.1) Ar157.2.2 hin157 hat157 (g := (mkF m 24 #[.val (.ref a), .val (.double d2), .second, .val (.long l2), .second, .unset] [(.int (0 : Int32)), (.ref s2), (.double za), (.long l2), (.double d2)])) rfl rfl (hb hby d_p15_m7_24) _) ?_
  show Run p e below _ (T156.setTop (mkF m 25 #[.val (.ref a), .val (.double d2), .second, .val (.long l2), .second, .unset] [(.long ja), (.double za), (.long l2), (.double d2)]))
  refine callSt X156 hx hZ hown (wd hw 73 rfl) (wd hw 74 rfl) (wd hw 52 rfl) (wd hw 75 rfl) (by decide) e156 (argsL := [(.double d2), (.long l2), (.double za), (.long ja)]) (rest := []) (rm_bf l Z a0 hw [] za d2 l2 ja (1 : Int32) h0 n0 O0 (Or.inr ⟨hc, rfl⟩)) (W := 0) (by decide) (by decide) (by decide) (by decide) (by rw [hml]; rfl) (lenOf pd_4 rfl) rfl (Nat.le_of_eq rfl) (hb hby d_p15_m7_25) ?_
  intro v158 T158 L158 h158 X158 e158 q158
  obtain ⟨rv, n158, k158⟩ := q158
  replace rv : v158 = some (.int (1 : Int32)) := rv
  subst rv
  have e158 := e158.trans k158
  have N158 := Fr.app N155 n158
  show Run p e below _ (T158.setTop (mkF m 28 #[.val (.ref a), .val (.double d2), .second, .val (.long l2), .second, .unset] [(.int (1 : Int32))]))
  refine go (fun _ => XS.ifNo X158.here hx rfl (hb hby d_p15_m7_28) rfl ((if0 _ _).trans (tlt (by decide : (0 : Int32) < 1)).2.2.2)) ?_
  show Run p e below _ (T158.setTop (mkF m 31 #[.val (.ref a), .val (.double d2), .second, .val (.long l2), .second, .unset] []))
  refine go (fun _ => XS.iconst X158.here hx rfl (hb hby d_p15_m7_31)) ?_
  show Run p e below _ (T158.setTop (mkF m 32 #[.val (.ref a), .val (.double d2), .second, .val (.long l2), .second, .unset] [(.int (1 : Int32))]))
  refine go (fun _ => XS.goto X158.here hx rfl (pc0 := 32) (pc' := 36) rfl (hb hby d_p15_m7_32) (by decide) (by decide)) ?_
  show Run p e below _ (T158.setTop (mkF m 36 #[.val (.ref a), .val (.double d2), .second, .val (.long l2), .second, .unset] [(.int (1 : Int32))]))
  refine go (fun _ => XS.istore X158.here hx rfl (hb hby d_p15_m7_36) rfl (l' := #[.val (.ref a), .val (.double d2), .second, .val (.long l2), .second, .val (.int (1 : Int32))]) rfl) ?_
  show Run p e below _ (T158.setTop (mkF m 38 #[.val (.ref a), .val (.double d2), .second, .val (.long l2), .second, .val (.int (1 : Int32))] []))
  refine go (fun _ => XS.iload X158.here hx rfl (hb hby d_p15_m7_38) rfl) ?_
  show Run p e below _ (T158.setTop (mkF m 40 #[.val (.ref a), .val (.double d2), .second, .val (.long l2), .second, .val (.int (1 : Int32))] [(.int (1 : Int32))]))
  refine go (fun _ => XS.ifNo X158.here hx rfl (hb hby d_p15_m7_40) rfl ((if0 _ _).trans (feq (by decide : ¬ ((1 : Int32) = 0))).1)) ?_
  show Run p e below _ (T158.setTop (mkF m 43 #[.val (.ref a), .val (.double d2), .second, .val (.long l2), .second, .val (.int (1 : Int32))] []))
  refine go (fun _ => XS.aloadN X158.here hx rfl (hb hby d_p15_m7_43) rfl rfl) ?_
  show Run p e below _ (T158.setTop (mkF m 44 #[.val (.ref a), .val (.double d2), .second, .val (.long l2), .second, .val (.int (1 : Int32))] [(.ref a)]))
  refine go (fun _ => XS.dloadN X158.here hx rfl (hb hby d_p15_m7_44) rfl) ?_
  show Run p e below _ (T158.setTop (mkF m 45 #[.val (.ref a), .val (.double d2), .second, .val (.long l2), .second, .val (.int (1 : Int32))] [(.double d2), (.ref a)]))
  refine callPr X158 hx hZ hown (wd hw 80 rfl) (wd hw 82 rfl) (sel_priv (wd hw 1 rfl) (wd hw 82 rfl) (wd hw 81 rfl) (by decide)) (wd hw 81 rfl) (wd hw 83 rfl) (wd hw 2 rfl) (by decide) e158 E_a (argsL := [(.double d2)]) (rest := []) (rm_lo l Z a0 hw [] a lo al kw (1 : Int32) (1 : Int32) sd od (1 : Int32) s1 s2 s3 s4 d2 h0 n0 O0 E_a F_leftOut_a F_slots_a F_published_a F_scores_a F_shares_a F_alpha_a F_keywords_a F_count_a F_size_a F_scored_a F_ordered_a F_heap_a g_a hnx hny hl) (W := 0) (by decide) (by decide) (by decide) (by decide) (by rw [hml]; rfl) (lenOf pd_11 rfl) rfl (Nat.le_of_eq rfl) (hb hby d_p15_m7_45) ?_
  intro v159 T159 L159 h159 X159 e159 q159
  have ne_s1_a : s1 ≠ a := Ne.symm (Exa.neArv E_a V_s1 (wd hw 1 rfl))
  have ne_s2_a : s2 ≠ a := Ne.symm (Exa.neArv E_a V_s2 (wd hw 1 rfl))
  have ne_s3_a : s3 ≠ a := Ne.symm (Exa.neArv E_a V_s3 (wd hw 1 rfl))
  have ne_s4_a : s4 ≠ a := Ne.symm (Exa.neArv E_a V_s4 (wd hw 1 rfl))
  obtain ⟨rv, n159, K159, E_a, F_leftOut_a, F_slots_a, F_published_a, F_scores_a, F_shares_a, F_alpha_a, F_keywords_a, F_count_a, F_size_a, F_scored_a, F_ordered_a, F_heap_a⟩ := q159
  subst rv
  have O0 := O0.keep K159 (allS g_a all0)
  have V_s1 := V_s1.keep K159 (ninS ne_s1_a nin0)
  have V_s2 := V_s2.keep K159 (ninS ne_s2_a nin0)
  have V_s3 := V_s3.keep K159 (ninS ne_s3_a nin0)
  have V_s4 := V_s4.keep K159 (ninS ne_s4_a nin0)
  have K0 := K0.trans K159 (allS (Or.inl (by simp)) all0)
  have N159 := Fr.app N158 n159
  show Run p e below _ (T159.setTop (mkF m 48 #[.val (.ref a), .val (.double d2), .second, .val (.long l2), .second, .val (.int (1 : Int32))] []))
  refine go (fun _ => XS.iload X159.here hx rfl (hb hby d_p15_m7_48) rfl) ?_
  show Run p e below _ (T159.setTop (mkF m 50 #[.val (.ref a), .val (.double d2), .second, .val (.long l2), .second, .val (.int (1 : Int32))] [(.int (1 : Int32))]))
  exact endN X159 hx hlk (t := .boolean) hret (by simp) (hb hby d_p15_m7_50) (by rw [e159]; exact ⟨rfl, N159, K0, E_a, F_leftOut_a, F_slots_a, F_published_a, F_scores_a, F_shares_a, F_alpha_a, F_keywords_a, F_count_a, F_size_a, F_scored_a, F_ordered_a, F_heap_a⟩) (by decide) (by decide)
theorem d_p15_m7_35 : decode prog_15_method_7_code 35 = .ok (.iconst 0, 1) := by decide +kernel
def Q_rm_r2 (Z : State) (a : Addr) (lo al : UInt64) (kw : Int32) (sd : Int64) (od : Int32) (s1 s2 s3 s4 : Addr) (ks1 ks2 ks3 ks4 : ClassId) (xa xb : Int32) (ja jb : Int64) (za zb : UInt64) (ra rb : Int32) (d2 : UInt64) (l2 : Int64) (h0 : Heap) (n0 : Nat) (v : Option Value) (h : Heap) (L : List Loc) : Prop := v = some (.int 0) ∧ Fr n0 L ∧ Keep h0 h [a, s1, s2, s3, s4] ∧ Exa Z h a "nearcast/engine/Best" ∧ Fld Z h a "nearcast/engine/Best" "leftOut" "D" (.double lo) ∧ Fld Z h a "nearcast/engine/Best" "slots" "[I" (.ref s1) ∧ Fld Z h a "nearcast/engine/Best" "published" "[J" (.ref s2) ∧ Fld Z h a "nearcast/engine/Best" "scores" "[D" (.ref s3) ∧ Fld Z h a "nearcast/engine/Best" "shares" "[C" (.ref s4) ∧ Fld Z h a "nearcast/engine/Best" "alpha" "D" (.double al) ∧ Fld Z h a "nearcast/engine/Best" "keywords" "I" (.int kw) ∧ Fld Z h a "nearcast/engine/Best" "count" "I" (.int (2 : Int32)) ∧ Fld Z h a "nearcast/engine/Best" "size" "I" (.int (2 : Int32)) ∧ Fld Z h a "nearcast/engine/Best" "scored" "J" (.long sd) ∧ Fld Z h a "nearcast/engine/Best" "ordered" "Z" (.int od) ∧ Fld Z h a "nearcast/engine/Best" "heap" "Z" (.int (1 : Int32)) ∧ Arv Z h s1 ks1 .int (16 : Int32) [(.int xb), (.int xa), (.int (0 : Int32)), (.int (0 : Int32)), (.int (0 : Int32)), (.int (0 : Int32)), (.int (0 : Int32)), (.int (0 : Int32)), (.int (0 : Int32)), (.int (0 : Int32)), (.int (0 : Int32)), (.int (0 : Int32)), (.int (0 : Int32)), (.int (0 : Int32)), (.int (0 : Int32)), (.int (0 : Int32))] (.int (0 : Int32)) ∧ Arv Z h s2 ks2 .long (16 : Int32) [(.long jb), (.long ja), (.long (0 : Int64)), (.long (0 : Int64)), (.long (0 : Int64)), (.long (0 : Int64)), (.long (0 : Int64)), (.long (0 : Int64)), (.long (0 : Int64)), (.long (0 : Int64)), (.long (0 : Int64)), (.long (0 : Int64)), (.long (0 : Int64)), (.long (0 : Int64)), (.long (0 : Int64)), (.long (0 : Int64))] (.long (0 : Int64)) ∧ Arv Z h s3 ks3 .double (16 : Int32) [(.double zb), (.double za), (.double (0 : UInt64)), (.double (0 : UInt64)), (.double (0 : UInt64)), (.double (0 : UInt64)), (.double (0 : UInt64)), (.double (0 : UInt64)), (.double (0 : UInt64)), (.double (0 : UInt64)), (.double (0 : UInt64)), (.double (0 : UInt64)), (.double (0 : UInt64)), (.double (0 : UInt64)), (.double (0 : UInt64)), (.double (0 : UInt64))] (.double (0 : UInt64)) ∧ Arv Z h s4 ks4 .char (16 : Int32) [(.int (nar .char rb)), (.int (nar .char ra)), (.int (0 : Int32)), (.int (0 : Int32)), (.int (0 : Int32)), (.int (0 : Int32)), (.int (0 : Int32)), (.int (0 : Int32)), (.int (0 : Int32)), (.int (0 : Int32)), (.int (0 : Int32)), (.int (0 : Int32)), (.int (0 : Int32)), (.int (0 : Int32)), (.int (0 : Int32)), (.int (0 : Int32))] (.int (0 : Int32))
set_option maxRecDepth 65536 in
set_option maxHeartbeats 40000000 in
theorem rm_r2 (l : Launch) (Z : State) (a0 : Array Value) (hw : ∀ d ∈ tables_1, d.before a0 Z = true) (ws : List Jvm.Cond) (a : Addr) (lo al : UInt64) (kw : Int32) (sd : Int64) (od : Int32) (s1 s2 s3 s4 : Addr) (ks1 ks2 ks3 ks4 : ClassId) (xa xb : Int32) (ja jb : Int64) (za zb : UInt64) (ra rb : Int32) (d2 : UInt64) (l2 : Int64) (h0 : Heap) (n0 : Nat) (O0 : Old Z n0 h0) (E_a : Exa Z h0 a "nearcast/engine/Best") (F_leftOut_a : Fld Z h0 a "nearcast/engine/Best" "leftOut" "D" (.double lo)) (F_slots_a : Fld Z h0 a "nearcast/engine/Best" "slots" "[I" (.ref s1)) (F_published_a : Fld Z h0 a "nearcast/engine/Best" "published" "[J" (.ref s2)) (F_scores_a : Fld Z h0 a "nearcast/engine/Best" "scores" "[D" (.ref s3)) (F_shares_a : Fld Z h0 a "nearcast/engine/Best" "shares" "[C" (.ref s4)) (F_alpha_a : Fld Z h0 a "nearcast/engine/Best" "alpha" "D" (.double al)) (F_keywords_a : Fld Z h0 a "nearcast/engine/Best" "keywords" "I" (.int kw)) (F_count_a : Fld Z h0 a "nearcast/engine/Best" "count" "I" (.int (2 : Int32))) (F_size_a : Fld Z h0 a "nearcast/engine/Best" "size" "I" (.int (2 : Int32))) (F_scored_a : Fld Z h0 a "nearcast/engine/Best" "scored" "J" (.long sd)) (F_ordered_a : Fld Z h0 a "nearcast/engine/Best" "ordered" "Z" (.int od)) (F_heap_a : Fld Z h0 a "nearcast/engine/Best" "heap" "Z" (.int (0 : Int32))) (V_s1 : Arv Z h0 s1 ks1 .int (16 : Int32) [(.int xa), (.int xb), (.int (0 : Int32)), (.int (0 : Int32)), (.int (0 : Int32)), (.int (0 : Int32)), (.int (0 : Int32)), (.int (0 : Int32)), (.int (0 : Int32)), (.int (0 : Int32)), (.int (0 : Int32)), (.int (0 : Int32)), (.int (0 : Int32)), (.int (0 : Int32)), (.int (0 : Int32)), (.int (0 : Int32))] (.int (0 : Int32))) (V_s2 : Arv Z h0 s2 ks2 .long (16 : Int32) [(.long ja), (.long jb), (.long (0 : Int64)), (.long (0 : Int64)), (.long (0 : Int64)), (.long (0 : Int64)), (.long (0 : Int64)), (.long (0 : Int64)), (.long (0 : Int64)), (.long (0 : Int64)), (.long (0 : Int64)), (.long (0 : Int64)), (.long (0 : Int64)), (.long (0 : Int64)), (.long (0 : Int64)), (.long (0 : Int64))] (.long (0 : Int64))) (V_s3 : Arv Z h0 s3 ks3 .double (16 : Int32) [(.double za), (.double zb), (.double (0 : UInt64)), (.double (0 : UInt64)), (.double (0 : UInt64)), (.double (0 : UInt64)), (.double (0 : UInt64)), (.double (0 : UInt64)), (.double (0 : UInt64)), (.double (0 : UInt64)), (.double (0 : UInt64)), (.double (0 : UInt64)), (.double (0 : UInt64)), (.double (0 : UInt64)), (.double (0 : UInt64)), (.double (0 : UInt64))] (.double (0 : UInt64))) (V_s4 : Arv Z h0 s4 ks4 .char (16 : Int32) [(.int ra), (.int rb), (.int (0 : Int32)), (.int (0 : Int32)), (.int (0 : Int32)), (.int (0 : Int32)), (.int (0 : Int32)), (.int (0 : Int32)), (.int (0 : Int32)), (.int (0 : Int32)), (.int (0 : Int32)), (.int (0 : Int32)), (.int (0 : Int32)), (.int (0 : Int32)), (.int (0 : Int32)), (.int (0 : Int32))] (.int (0 : Int32))) (ne_s1_s2 : s1 ≠ s2) (ne_s1_s3 : s1 ≠ s3) (ne_s1_s4 : s1 ≠ s4) (ne_s2_s3 : s2 ≠ s3) (ne_s2_s4 : s2 ≠ s4) (ne_s3_s4 : s3 ≠ s4) (g_s1 : n0 ≤ s1) (g_s2 : n0 ≤ s2) (g_s3 : n0 ≤ s3) (g_s4 : n0 ≤ s4) (g_a : n0 ≤ a) (hc0 : FP.dcmp za zb = some .gt) (hc : FP.dcmp zb d2 = some .lt) :
    Meets l (⟨"nearcast/engine/Best", "rulesOut", "(DJ)Z"⟩ : MethodName) prog_15_method_7_code 6 (some .boolean) ws ({ frames := 4, cells := 0, slots := 0, locals := 78 } : Room) Z #[(.ref a), (.double d2), (.long l2)] h0 (Q_rm_r2 Z a lo al kw sd od s1 s2 s3 s4 ks1 ks2 ks3 ks4 xa xb ja jb za zb ra rb d2 l2 h0 n0) 0 0 := by
  refine enter (Ls := #[.val (.ref a), .val (.double d2), .second, .val (.long l2), .second, .unset]) (plainFor_of_name pn_3) (fun m => by first | (simp [entryFrame, mkF, argsToLocals, Value.category]; done) | rfl) ?_
  intro p e s m below meth c T0 hx hby hml hown hnm hret hlk hZ X0 e0
  have N0 := Fr.nil n0
  replace hown : s.vm.findClass "nearcast/engine/Best" = some m.cls := hown
  show Run p e below _ (T0.setTop (mkF m 0 #[.val (.ref a), .val (.double d2), .second, .val (.long l2), .second, .unset] []))
  have K0 := Keep.refl h0 [a, s1, s2, s3, s4]
  refine go (fun _ => XS.aloadN X0.here hx rfl (hb hby d_p15_m7_0) rfl rfl) ?_
  show Run p e below _ (T0.setTop (mkF m 1 #[.val (.ref a), .val (.double d2), .second, .val (.long l2), .second, .unset] [(.ref a)]))
  obtain ⟨T160, X160, e160, st160⟩ := getF X0 hx hZ hown (host := "") (Or.inl (wd hw 36 rfl)) Via.refl e0 F_size_a (g := (mkF m 1 #[.val (.ref a), .val (.double d2), .second, .val (.long l2), .second, .unset] [(.ref a)])) rfl rfl (hb hby d_p15_m7_1)
  refine go st160 ?_
  show Run p e below _ (T160.setTop (mkF m 4 #[.val (.ref a), .val (.double d2), .second, .val (.long l2), .second, .unset] [(.int (2 : Int32))]))
  refine go (fun _ => XS.aloadN X160.here hx rfl (hb hby d_p15_m7_4) rfl rfl) ?_
  show Run p e below _ (T160.setTop (mkF m 5 #[.val (.ref a), .val (.double d2), .second, .val (.long l2), .second, .unset] [(.ref a), (.int (2 : Int32))]))
  obtain ⟨T161, X161, e161, st161⟩ := getF X160 hx hZ hown (host := "") (Or.inl (wd hw 34 rfl)) Via.refl e160 F_count_a (g := (mkF m 5 #[.val (.ref a), .val (.double d2), .second, .val (.long l2), .second, .unset] [(.ref a), (.int (2 : Int32))])) rfl rfl (hb hby d_p15_m7_5)
  refine go st161 ?_
  show Run p e below _ (T161.setTop (mkF m 8 #[.val (.ref a), .val (.double d2), .second, .val (.long l2), .second, .unset] [(.int (2 : Int32)), (.int (2 : Int32))]))
  refine go (fun _ => XS.icmpYes X161.here hx rfl (pc0 := 8) (pc' := 13) rfl (hb hby d_p15_m7_8) rfl (flt (by decide : ¬ ((2 : Int32) < 2))).2.1 (by decide) (by decide)) ?_
  show Run p e below _ (T161.setTop (mkF m 13 #[.val (.ref a), .val (.double d2), .second, .val (.long l2), .second, .unset] []))
  refine go (fun _ => XS.dloadN X161.here hx rfl (hb hby d_p15_m7_13) rfl) ?_
  show Run p e below _ (T161.setTop (mkF m 14 #[.val (.ref a), .val (.double d2), .second, .val (.long l2), .second, .unset] [(.double d2)]))
  refine go (fun _ => XS.lloadN X161.here hx rfl (hb hby d_p15_m7_14) rfl) ?_
  show Run p e below _ (T161.setTop (mkF m 15 #[.val (.ref a), .val (.double d2), .second, .val (.long l2), .second, .unset] [(.long l2), (.double d2)]))
  refine go (fun _ => XS.aloadN X161.here hx rfl (hb hby d_p15_m7_15) rfl rfl) ?_
  show Run p e below _ (T161.setTop (mkF m 16 #[.val (.ref a), .val (.double d2), .second, .val (.long l2), .second, .unset] [(.ref a), (.long l2), (.double d2)]))
  refine callPr X161 hx hZ hown (wd hw 69 rfl) (wd hw 71 rfl) (sel_priv (wd hw 1 rfl) (wd hw 71 rfl) (wd hw 70 rfl) (by decide)) (wd hw 70 rfl) (wd hw 72 rfl) (wd hw 2 rfl) (by decide) e161 E_a (argsL := []) (rest := [(.long l2), (.double d2)]) (rm_w2 l Z a0 hw [] a lo al kw (2 : Int32) sd od s1 s2 s3 s4 ks1 ks2 ks3 ks4 xa xb ja jb za zb ra rb h0 n0 O0 E_a F_leftOut_a F_slots_a F_published_a F_scores_a F_shares_a F_alpha_a F_keywords_a F_count_a F_size_a F_scored_a F_ordered_a F_heap_a V_s1 V_s2 V_s3 V_s4 ne_s1_s2 ne_s1_s3 ne_s1_s4 ne_s2_s3 ne_s2_s4 ne_s3_s4 g_s1 g_s2 g_s3 g_s4 g_a hc0) (W := 4) (by decide) (by decide) (by decide) (by decide) (by rw [hml]; rfl) (lenOf pd_10 rfl) rfl (Nat.le_of_eq rfl) (hb hby d_p15_m7_16) ?_
  intro v162 T162 L162 h162 X162 e162 q162
  obtain ⟨rv, n162, K162, E_a, F_leftOut_a, F_slots_a, F_published_a, F_scores_a, F_shares_a, F_alpha_a, F_keywords_a, F_count_a, F_size_a, F_scored_a, F_ordered_a, F_heap_a, V_s1, V_s2, V_s3, V_s4⟩ := q162
  replace rv : v162 = some (.double zb) := rv
  subst rv
  have O0 := O0.keep K162 (allS g_a (allS g_s1 (allS g_s2 (allS g_s3 (allS g_s4 all0)))))
  have K0 := K0.trans K162 (allS (Or.inl (by simp)) (allS (Or.inl (by simp)) (allS (Or.inl (by simp)) (allS (Or.inl (by simp)) (allS (Or.inl (by simp)) all0)))))
  have N162 := Fr.app N0 n162
  show Run p e below _ (T162.setTop (mkF m 19 #[.val (.ref a), .val (.double d2), .second, .val (.long l2), .second, .unset] [(.double zb), (.long l2), (.double d2)]))
  refine go (fun _ => XS.aloadN X162.here hx rfl (hb hby d_p15_m7_19) rfl rfl) ?_
  show Run p e below _ (T162.setTop (mkF m 20 #[.val (.ref a), .val (.double d2), .second, .val (.long l2), .second, .unset] [(.ref a), (.double zb), (.long l2), (.double d2)]))
  obtain ⟨T163, X163, e163, st163⟩ := getF X162 hx hZ hown (host := "") (Or.inl (wd hw 16 rfl)) Via.refl e162 F_published_a (g := (mkF m 20 #[.val (.ref a), .val (.double d2), .second, .val (.long l2), .second, .unset] [(.ref a), (.double zb), (.long l2), (.double d2)])) rfl rfl (hb hby d_p15_m7_20)
  refine go st163 ?_
  show Run p e below _ (T163.setTop (mkF m 23 #[.val (.ref a), .val (.double d2), .second, .val (.long l2), .second, .unset] [(.ref s2), (.double zb), (.long l2), (.double d2)]))
  refine go (fun _ => XS.iconst X163.here hx rfl (hb hby d_p15_m7_23)) ?_
  show Run p e below _ (T163.setTop (mkF m 24 #[.val (.ref a), .val (.double d2), .second, .val (.long l2), .second, .unset] [(.int (0 : Int32)), (.ref s2), (.double zb), (.long l2), (.double d2)]))
  obtain ⟨cl164, Ar164, ak164, as164, an164, ah164, ag164⟩ := id V_s2
  have hin164 := inb_of as164 (j := (0 : Int32)) ⟨by decide, by decide⟩
  have hat164 := ah164.at hin164 (v := (.long jb)) rfl
  refine go (fun _ => X163.laload hx (j := (0 : Int32)) (v := (.long jb)) (by rw [e163]; exact Ar164.1) (State.isArrayOf_alike hZ.alike Ar164.2.1) Ar164.2.2 hin164 hat164 (g := (mkF m 24 #[.val (.ref a), .val (.double d2), .second, .val (.long l2), .second, .unset] [(.int (0 : Int32)), (.ref s2), (.double zb), (.long l2), (.double d2)])) rfl rfl (hb hby d_p15_m7_24) _) ?_
  show Run p e below _ (T163.setTop (mkF m 25 #[.val (.ref a), .val (.double d2), .second, .val (.long l2), .second, .unset] [(.long jb), (.double zb), (.long l2), (.double d2)]))
  refine callSt X163 hx hZ hown (wd hw 73 rfl) (wd hw 74 rfl) (wd hw 52 rfl) (wd hw 75 rfl) (by decide) e163 (argsL := [(.double d2), (.long l2), (.double zb), (.long jb)]) (rest := []) (rm_bf l Z a0 hw [] zb d2 l2 jb (-1 : Int32) h162 n0 O0 (Or.inl ⟨hc, rfl⟩)) (W := 0) (by decide) (by decide) (by decide) (by decide) (by rw [hml]; rfl) (lenOf pd_4 rfl) rfl (Nat.le_of_eq rfl) (hb hby d_p15_m7_25) ?_
  intro v165 T165 L165 h165 X165 e165 q165
  obtain ⟨rv, n165, k165⟩ := q165
  replace rv : v165 = some (.int (-1 : Int32)) := rv
  subst rv
  have e165 := e165.trans k165
  have N165 := Fr.app N162 n165
  show Run p e below _ (T165.setTop (mkF m 28 #[.val (.ref a), .val (.double d2), .second, .val (.long l2), .second, .unset] [(.int (-1 : Int32))]))
  refine go (fun _ => XS.ifYes X165.here hx rfl (pc0 := 28) (pc' := 35) rfl (hb hby d_p15_m7_28) rfl ((if0 _ _).trans (flt (by decide : ¬ ((0 : Int32) < -1))).2.2.2) (by decide) (by decide)) ?_
  show Run p e below _ (T165.setTop (mkF m 35 #[.val (.ref a), .val (.double d2), .second, .val (.long l2), .second, .unset] []))
  refine go (fun _ => XS.iconst X165.here hx rfl (hb hby d_p15_m7_35)) ?_
  show Run p e below _ (T165.setTop (mkF m 36 #[.val (.ref a), .val (.double d2), .second, .val (.long l2), .second, .unset] [(.int (0 : Int32))]))
  refine go (fun _ => XS.istore X165.here hx rfl (hb hby d_p15_m7_36) rfl (l' := #[.val (.ref a), .val (.double d2), .second, .val (.long l2), .second, .val (.int (0 : Int32))]) rfl) ?_
  show Run p e below _ (T165.setTop (mkF m 38 #[.val (.ref a), .val (.double d2), .second, .val (.long l2), .second, .val (.int (0 : Int32))] []))
  refine go (fun _ => XS.iload X165.here hx rfl (hb hby d_p15_m7_38) rfl) ?_
  show Run p e below _ (T165.setTop (mkF m 40 #[.val (.ref a), .val (.double d2), .second, .val (.long l2), .second, .val (.int (0 : Int32))] [(.int (0 : Int32))]))
  refine go (fun _ => XS.ifYes X165.here hx rfl (pc0 := 40) (pc' := 48) rfl (hb hby d_p15_m7_40) rfl ((if0 _ _).trans (teq (by decide : (0 : Int32) = 0)).1) (by decide) (by decide)) ?_
  show Run p e below _ (T165.setTop (mkF m 48 #[.val (.ref a), .val (.double d2), .second, .val (.long l2), .second, .val (.int (0 : Int32))] []))
  refine go (fun _ => XS.iload X165.here hx rfl (hb hby d_p15_m7_48) rfl) ?_
  show Run p e below _ (T165.setTop (mkF m 50 #[.val (.ref a), .val (.double d2), .second, .val (.long l2), .second, .val (.int (0 : Int32))] [(.int (0 : Int32))]))
  exact endN X165 hx hlk (t := .boolean) hret (by simp) (hb hby d_p15_m7_50) (by rw [e165]; exact ⟨rfl, N165, K0, E_a, F_leftOut_a, F_slots_a, F_published_a, F_scores_a, F_shares_a, F_alpha_a, F_keywords_a, F_count_a, F_size_a, F_scored_a, F_ordered_a, F_heap_a, V_s1, V_s2, V_s3, V_s4⟩) (by decide) (by decide)
theorem d_p15_m9_0 : decode prog_15_method_9_code 0 = .ok (.aload_n 0, 1) := by decide +kernel
theorem d_p15_m9_1 : decode prog_15_method_9_code 1 = .ok (.getfield 51, 3) := by decide +kernel
theorem d_p15_m9_4 : decode prog_15_method_9_code 4 = .ok (.lreturn, 1) := by decide +kernel
def Q_rm_scs (a : Addr) (lo al : UInt64) (kw ct sz : Int32) (sd : Int64) (od hp : Int32) (s1 s2 s3 s4 : Addr) (h0 : Heap) (n0 : Nat) (v : Option Value) (h : Heap) (L : List Loc) : Prop := v = some (.long sd) ∧ Fr n0 L ∧ h = h0
set_option maxRecDepth 65536 in
set_option maxHeartbeats 40000000 in
theorem rm_scs (l : Launch) (Z : State) (a0 : Array Value) (hw : ∀ d ∈ tables_1, d.before a0 Z = true) (ws : List Jvm.Cond) (a : Addr) (lo al : UInt64) (kw ct sz : Int32) (sd : Int64) (od hp : Int32) (s1 s2 s3 s4 : Addr) (h0 : Heap) (n0 : Nat) (O0 : Old Z n0 h0) (E_a : Exa Z h0 a "nearcast/engine/Best") (F_leftOut_a : Fld Z h0 a "nearcast/engine/Best" "leftOut" "D" (.double lo)) (F_slots_a : Fld Z h0 a "nearcast/engine/Best" "slots" "[I" (.ref s1)) (F_published_a : Fld Z h0 a "nearcast/engine/Best" "published" "[J" (.ref s2)) (F_scores_a : Fld Z h0 a "nearcast/engine/Best" "scores" "[D" (.ref s3)) (F_shares_a : Fld Z h0 a "nearcast/engine/Best" "shares" "[C" (.ref s4)) (F_alpha_a : Fld Z h0 a "nearcast/engine/Best" "alpha" "D" (.double al)) (F_keywords_a : Fld Z h0 a "nearcast/engine/Best" "keywords" "I" (.int kw)) (F_count_a : Fld Z h0 a "nearcast/engine/Best" "count" "I" (.int ct)) (F_size_a : Fld Z h0 a "nearcast/engine/Best" "size" "I" (.int sz)) (F_scored_a : Fld Z h0 a "nearcast/engine/Best" "scored" "J" (.long sd)) (F_ordered_a : Fld Z h0 a "nearcast/engine/Best" "ordered" "Z" (.int od)) (F_heap_a : Fld Z h0 a "nearcast/engine/Best" "heap" "Z" (.int hp)) (g_a : n0 ≤ a)  :
    Meets l (⟨"nearcast/engine/Best", "scores", "()J"⟩ : MethodName) prog_15_method_9_code 1 (some .long) ws ({ frames := 0, cells := 0, slots := 0, locals := 0 } : Room) Z #[(.ref a)] h0 (Q_rm_scs a lo al kw ct sz sd od hp s1 s2 s3 s4 h0 n0) 0 0 := by
  refine enter (Ls := #[.val (.ref a)]) (plainFor_of_name pn_3) (fun m => by first | (simp [entryFrame, mkF, argsToLocals, Value.category]; done) | rfl) ?_
  intro p e s m below meth c T0 hx hby hml hown hnm hret hlk hZ X0 e0
  have N0 := Fr.nil n0
  replace hown : s.vm.findClass "nearcast/engine/Best" = some m.cls := hown
  show Run p e below _ (T0.setTop (mkF m 0 #[.val (.ref a)] []))
  refine go (fun _ => XS.aloadN X0.here hx rfl (hb hby d_p15_m9_0) rfl rfl) ?_
  show Run p e below _ (T0.setTop (mkF m 1 #[.val (.ref a)] [(.ref a)]))
  obtain ⟨T166, X166, e166, st166⟩ := getF X0 hx hZ hown (host := "") (Or.inl (wd hw 38 rfl)) Via.refl e0 F_scored_a (g := (mkF m 1 #[.val (.ref a)] [(.ref a)])) rfl rfl (hb hby d_p15_m9_1)
  refine go st166 ?_
  show Run p e below _ (T166.setTop (mkF m 4 #[.val (.ref a)] [(.long sd)]))
  exact endJ X166 hx hlk hret (hb hby d_p15_m9_4) (⟨rfl, N0, e166⟩) (by decide) (by decide)
theorem d_p15_m8_0 : decode prog_15_method_8_code 0 = .ok (.aload_n 0, 1) := by decide +kernel
theorem d_p15_m8_1 : decode prog_15_method_8_code 1 = .ok (.getfield 18, 3) := by decide +kernel
theorem d_p15_m8_4 : decode prog_15_method_8_code 4 = .ok (.ldc2_w 16, 3) := by decide +kernel
theorem d_p15_m8_7 : decode prog_15_method_8_code 7 = .ok (.dcmp .l, 1) := by decide +kernel
theorem d_p15_m8_8 : decode prog_15_method_8_code 8 = .ok (.ifCond .ne 9, 3) := by decide +kernel
theorem d_p15_m8_11 : decode prog_15_method_8_code 11 = .ok (.ldc2_w 129, 3) := by decide +kernel
theorem d_p15_m8_14 : decode prog_15_method_8_code 14 = .ok (.goto 7, 3) := by decide +kernel
theorem d_p15_m8_21 : decode prog_15_method_8_code 21 = .ok (.dreturn, 1) := by decide +kernel
def Q_rm_l1 (a : Addr) (al : UInt64) (kw ct sz : Int32) (sd : Int64) (od hp : Int32) (s1 s2 s3 s4 : Addr) (h0 : Heap) (n0 : Nat) (v : Option Value) (h : Heap) (L : List Loc) : Prop := v = some (.double (9218868437227405312 : UInt64)) ∧ Fr n0 L ∧ h = h0
set_option maxRecDepth 65536 in
set_option maxHeartbeats 40000000 in
theorem rm_l1 (l : Launch) (Z : State) (a0 : Array Value) (hw : ∀ d ∈ tables_1, d.before a0 Z = true) (ws : List Jvm.Cond) (a : Addr) (al : UInt64) (kw ct sz : Int32) (sd : Int64) (od hp : Int32) (s1 s2 s3 s4 : Addr) (h0 : Heap) (n0 : Nat) (O0 : Old Z n0 h0) (E_a : Exa Z h0 a "nearcast/engine/Best") (F_leftOut_a : Fld Z h0 a "nearcast/engine/Best" "leftOut" "D" (.double (18442240474082181120 : UInt64))) (F_slots_a : Fld Z h0 a "nearcast/engine/Best" "slots" "[I" (.ref s1)) (F_published_a : Fld Z h0 a "nearcast/engine/Best" "published" "[J" (.ref s2)) (F_scores_a : Fld Z h0 a "nearcast/engine/Best" "scores" "[D" (.ref s3)) (F_shares_a : Fld Z h0 a "nearcast/engine/Best" "shares" "[C" (.ref s4)) (F_alpha_a : Fld Z h0 a "nearcast/engine/Best" "alpha" "D" (.double al)) (F_keywords_a : Fld Z h0 a "nearcast/engine/Best" "keywords" "I" (.int kw)) (F_count_a : Fld Z h0 a "nearcast/engine/Best" "count" "I" (.int ct)) (F_size_a : Fld Z h0 a "nearcast/engine/Best" "size" "I" (.int sz)) (F_scored_a : Fld Z h0 a "nearcast/engine/Best" "scored" "J" (.long sd)) (F_ordered_a : Fld Z h0 a "nearcast/engine/Best" "ordered" "Z" (.int od)) (F_heap_a : Fld Z h0 a "nearcast/engine/Best" "heap" "Z" (.int hp)) (g_a : n0 ≤ a)  :
    Meets l (⟨"nearcast/engine/Best", "leftOut", "()D"⟩ : MethodName) prog_15_method_8_code 1 (some .double) ws ({ frames := 0, cells := 0, slots := 0, locals := 0 } : Room) Z #[(.ref a)] h0 (Q_rm_l1 a al kw ct sz sd od hp s1 s2 s3 s4 h0 n0) 0 0 := by
  refine enter (Ls := #[.val (.ref a)]) (plainFor_of_name pn_3) (fun m => by first | (simp [entryFrame, mkF, argsToLocals, Value.category]; done) | rfl) ?_
  intro p e s m below meth c T0 hx hby hml hown hnm hret hlk hZ X0 e0
  have N0 := Fr.nil n0
  replace hown : s.vm.findClass "nearcast/engine/Best" = some m.cls := hown
  show Run p e below _ (T0.setTop (mkF m 0 #[.val (.ref a)] []))
  refine go (fun _ => XS.aloadN X0.here hx rfl (hb hby d_p15_m8_0) rfl rfl) ?_
  show Run p e below _ (T0.setTop (mkF m 1 #[.val (.ref a)] [(.ref a)]))
  obtain ⟨T167, X167, e167, st167⟩ := getF X0 hx hZ hown (host := "") (Or.inl (wd hw 10 rfl)) Via.refl e0 F_leftOut_a (g := (mkF m 1 #[.val (.ref a)] [(.ref a)])) rfl rfl (hb hby d_p15_m8_1)
  refine go st167 ?_
  show Run p e below _ (T167.setTop (mkF m 4 #[.val (.ref a)] [(.double (18442240474082181120 : UInt64))]))
  refine go (fun _ => X167.ldc2DoubleC hx hown (mvT hZ (wd hw 9 rfl)) (g := (mkF m 4 #[.val (.ref a)] [(.double (18442240474082181120 : UInt64))])) rfl (hb hby d_p15_m8_4) _) ?_
  show Run p e below _ (T167.setTop (mkF m 7 #[.val (.ref a)] [(.double (18442240474082181120 : UInt64)), (.double (18442240474082181120 : UInt64))]))
  refine go (fun _ => XS.dcmpS X167.here hx rfl (hb hby d_p15_m8_7) rfl (v := (0 : Int32)) (by decide +kernel)) ?_
  show Run p e below _ (T167.setTop (mkF m 8 #[.val (.ref a)] [(.int (0 : Int32))]))
  refine go (fun _ => XS.ifNo X167.here hx rfl (hb hby d_p15_m8_8) rfl ((if0 _ _).trans (teq (by decide : (0 : Int32) = 0)).2)) ?_
  show Run p e below _ (T167.setTop (mkF m 11 #[.val (.ref a)] []))
  refine go (fun _ => X167.ldc2DoubleC hx hown (mvT hZ (wd hw 118 rfl)) (g := (mkF m 11 #[.val (.ref a)] [])) rfl (hb hby d_p15_m8_11) _) ?_
  show Run p e below _ (T167.setTop (mkF m 14 #[.val (.ref a)] [(.double (9218868437227405312 : UInt64))]))
  refine go (fun _ => XS.goto X167.here hx rfl (pc0 := 14) (pc' := 21) rfl (hb hby d_p15_m8_14) (by decide) (by decide)) ?_
  show Run p e below _ (T167.setTop (mkF m 21 #[.val (.ref a)] [(.double (9218868437227405312 : UInt64))]))
  exact endD X167 hx hlk hret (hb hby d_p15_m8_21) (⟨rfl, N0, e167⟩) (by decide) (by decide)
theorem d_p15_m8_17 : decode prog_15_method_8_code 17 = .ok (.aload_n 0, 1) := by decide +kernel
theorem d_p15_m8_18 : decode prog_15_method_8_code 18 = .ok (.getfield 18, 3) := by decide +kernel
def Q_rm_l2 (a : Addr) (lo al : UInt64) (kw ct sz : Int32) (sd : Int64) (od hp : Int32) (s1 s2 s3 s4 : Addr) (h0 : Heap) (n0 : Nat) (v : Option Value) (h : Heap) (L : List Loc) : Prop := v = some (.double lo) ∧ Fr n0 L ∧ h = h0
set_option maxRecDepth 65536 in
set_option maxHeartbeats 40000000 in
theorem rm_l2 (l : Launch) (Z : State) (a0 : Array Value) (hw : ∀ d ∈ tables_1, d.before a0 Z = true) (ws : List Jvm.Cond) (a : Addr) (lo al : UInt64) (kw ct sz : Int32) (sd : Int64) (od hp : Int32) (s1 s2 s3 s4 : Addr) (h0 : Heap) (n0 : Nat) (O0 : Old Z n0 h0) (E_a : Exa Z h0 a "nearcast/engine/Best") (F_leftOut_a : Fld Z h0 a "nearcast/engine/Best" "leftOut" "D" (.double lo)) (F_slots_a : Fld Z h0 a "nearcast/engine/Best" "slots" "[I" (.ref s1)) (F_published_a : Fld Z h0 a "nearcast/engine/Best" "published" "[J" (.ref s2)) (F_scores_a : Fld Z h0 a "nearcast/engine/Best" "scores" "[D" (.ref s3)) (F_shares_a : Fld Z h0 a "nearcast/engine/Best" "shares" "[C" (.ref s4)) (F_alpha_a : Fld Z h0 a "nearcast/engine/Best" "alpha" "D" (.double al)) (F_keywords_a : Fld Z h0 a "nearcast/engine/Best" "keywords" "I" (.int kw)) (F_count_a : Fld Z h0 a "nearcast/engine/Best" "count" "I" (.int ct)) (F_size_a : Fld Z h0 a "nearcast/engine/Best" "size" "I" (.int sz)) (F_scored_a : Fld Z h0 a "nearcast/engine/Best" "scored" "J" (.long sd)) (F_ordered_a : Fld Z h0 a "nearcast/engine/Best" "ordered" "Z" (.int od)) (F_heap_a : Fld Z h0 a "nearcast/engine/Best" "heap" "Z" (.int hp)) (g_a : n0 ≤ a) (hc : FP.dcmp lo (18442240474082181120 : UInt64) = some .gt) :
    Meets l (⟨"nearcast/engine/Best", "leftOut", "()D"⟩ : MethodName) prog_15_method_8_code 1 (some .double) ws ({ frames := 0, cells := 0, slots := 0, locals := 0 } : Room) Z #[(.ref a)] h0 (Q_rm_l2 a lo al kw ct sz sd od hp s1 s2 s3 s4 h0 n0) 0 0 := by
  refine enter (Ls := #[.val (.ref a)]) (plainFor_of_name pn_3) (fun m => by first | (simp [entryFrame, mkF, argsToLocals, Value.category]; done) | rfl) ?_
  intro p e s m below meth c T0 hx hby hml hown hnm hret hlk hZ X0 e0
  have N0 := Fr.nil n0
  replace hown : s.vm.findClass "nearcast/engine/Best" = some m.cls := hown
  show Run p e below _ (T0.setTop (mkF m 0 #[.val (.ref a)] []))
  refine go (fun _ => XS.aloadN X0.here hx rfl (hb hby d_p15_m8_0) rfl rfl) ?_
  show Run p e below _ (T0.setTop (mkF m 1 #[.val (.ref a)] [(.ref a)]))
  obtain ⟨T168, X168, e168, st168⟩ := getF X0 hx hZ hown (host := "") (Or.inl (wd hw 10 rfl)) Via.refl e0 F_leftOut_a (g := (mkF m 1 #[.val (.ref a)] [(.ref a)])) rfl rfl (hb hby d_p15_m8_1)
  refine go st168 ?_
  show Run p e below _ (T168.setTop (mkF m 4 #[.val (.ref a)] [(.double lo)]))
  refine go (fun _ => X168.ldc2DoubleC hx hown (mvT hZ (wd hw 9 rfl)) (g := (mkF m 4 #[.val (.ref a)] [(.double lo)])) rfl (hb hby d_p15_m8_4) _) ?_
  show Run p e below _ (T168.setTop (mkF m 7 #[.val (.ref a)] [(.double (18442240474082181120 : UInt64)), (.double lo)]))
  refine go (fun _ => XS.dcmpS X168.here hx rfl (hb hby d_p15_m8_7) rfl (v := (1 : Int32)) (by rw [hc]; rfl)) ?_
  show Run p e below _ (T168.setTop (mkF m 8 #[.val (.ref a)] [(.int (1 : Int32))]))
  refine go (fun _ => XS.ifYes X168.here hx rfl (pc0 := 8) (pc' := 17) rfl (hb hby d_p15_m8_8) rfl ((if0 _ _).trans (feq (by decide : ¬ ((1 : Int32) = 0))).2) (by decide) (by decide)) ?_
  show Run p e below _ (T168.setTop (mkF m 17 #[.val (.ref a)] []))
  refine go (fun _ => XS.aloadN X168.here hx rfl (hb hby d_p15_m8_17) rfl rfl) ?_
  show Run p e below _ (T168.setTop (mkF m 18 #[.val (.ref a)] [(.ref a)]))
  obtain ⟨T169, X169, e169, st169⟩ := getF X168 hx hZ hown (host := "") (Or.inl (wd hw 10 rfl)) Via.refl e168 F_leftOut_a (g := (mkF m 18 #[.val (.ref a)] [(.ref a)])) rfl rfl (hb hby d_p15_m8_18)
  refine go st169 ?_
  show Run p e below _ (T169.setTop (mkF m 21 #[.val (.ref a)] [(.double lo)]))
  exact endD X169 hx hlk hret (hb hby d_p15_m8_21) (⟨rfl, N0, e169⟩) (by decide) (by decide)
theorem d_p15_m13_0 : decode prog_15_method_13_code 0 = .ok (.aload_n 0, 1) := by decide +kernel
theorem d_p15_m13_1 : decode prog_15_method_13_code 1 = .ok (.getfield 30, 3) := by decide +kernel
theorem d_p15_m13_4 : decode prog_15_method_13_code 4 = .ok (.iload_n 1, 1) := by decide +kernel
theorem d_p15_m13_5 : decode prog_15_method_13_code 5 = .ok (.daload, 1) := by decide +kernel
theorem d_p15_m13_6 : decode prog_15_method_13_code 6 = .ok (.dreturn, 1) := by decide +kernel
def Q_rm_s0 (a : Addr) (lo al : UInt64) (kw ct sz : Int32) (sd : Int64) (od hp : Int32) (s1 s2 s3 s4 : Addr) (ks1 ks2 ks3 ks4 : ClassId) (xa xb : Int32) (ja jb : Int64) (za zb : UInt64) (ra rb : Int32) (h0 : Heap) (n0 : Nat) (v : Option Value) (h : Heap) (L : List Loc) : Prop := v = some (.double za) ∧ Fr n0 L ∧ h = h0
set_option maxRecDepth 65536 in
set_option maxHeartbeats 40000000 in
theorem rm_s0 (l : Launch) (Z : State) (a0 : Array Value) (hw : ∀ d ∈ tables_1, d.before a0 Z = true) (ws : List Jvm.Cond) (a : Addr) (lo al : UInt64) (kw ct sz : Int32) (sd : Int64) (od hp : Int32) (s1 s2 s3 s4 : Addr) (ks1 ks2 ks3 ks4 : ClassId) (xa xb : Int32) (ja jb : Int64) (za zb : UInt64) (ra rb : Int32) (h0 : Heap) (n0 : Nat) (O0 : Old Z n0 h0) (E_a : Exa Z h0 a "nearcast/engine/Best") (F_leftOut_a : Fld Z h0 a "nearcast/engine/Best" "leftOut" "D" (.double lo)) (F_slots_a : Fld Z h0 a "nearcast/engine/Best" "slots" "[I" (.ref s1)) (F_published_a : Fld Z h0 a "nearcast/engine/Best" "published" "[J" (.ref s2)) (F_scores_a : Fld Z h0 a "nearcast/engine/Best" "scores" "[D" (.ref s3)) (F_shares_a : Fld Z h0 a "nearcast/engine/Best" "shares" "[C" (.ref s4)) (F_alpha_a : Fld Z h0 a "nearcast/engine/Best" "alpha" "D" (.double al)) (F_keywords_a : Fld Z h0 a "nearcast/engine/Best" "keywords" "I" (.int kw)) (F_count_a : Fld Z h0 a "nearcast/engine/Best" "count" "I" (.int ct)) (F_size_a : Fld Z h0 a "nearcast/engine/Best" "size" "I" (.int sz)) (F_scored_a : Fld Z h0 a "nearcast/engine/Best" "scored" "J" (.long sd)) (F_ordered_a : Fld Z h0 a "nearcast/engine/Best" "ordered" "Z" (.int od)) (F_heap_a : Fld Z h0 a "nearcast/engine/Best" "heap" "Z" (.int hp)) (V_s1 : Arv Z h0 s1 ks1 .int (16 : Int32) [(.int xa), (.int xb), (.int (0 : Int32)), (.int (0 : Int32)), (.int (0 : Int32)), (.int (0 : Int32)), (.int (0 : Int32)), (.int (0 : Int32)), (.int (0 : Int32)), (.int (0 : Int32)), (.int (0 : Int32)), (.int (0 : Int32)), (.int (0 : Int32)), (.int (0 : Int32)), (.int (0 : Int32)), (.int (0 : Int32))] (.int (0 : Int32))) (V_s2 : Arv Z h0 s2 ks2 .long (16 : Int32) [(.long ja), (.long jb), (.long (0 : Int64)), (.long (0 : Int64)), (.long (0 : Int64)), (.long (0 : Int64)), (.long (0 : Int64)), (.long (0 : Int64)), (.long (0 : Int64)), (.long (0 : Int64)), (.long (0 : Int64)), (.long (0 : Int64)), (.long (0 : Int64)), (.long (0 : Int64)), (.long (0 : Int64)), (.long (0 : Int64))] (.long (0 : Int64))) (V_s3 : Arv Z h0 s3 ks3 .double (16 : Int32) [(.double za), (.double zb), (.double (0 : UInt64)), (.double (0 : UInt64)), (.double (0 : UInt64)), (.double (0 : UInt64)), (.double (0 : UInt64)), (.double (0 : UInt64)), (.double (0 : UInt64)), (.double (0 : UInt64)), (.double (0 : UInt64)), (.double (0 : UInt64)), (.double (0 : UInt64)), (.double (0 : UInt64)), (.double (0 : UInt64)), (.double (0 : UInt64))] (.double (0 : UInt64))) (V_s4 : Arv Z h0 s4 ks4 .char (16 : Int32) [(.int ra), (.int rb), (.int (0 : Int32)), (.int (0 : Int32)), (.int (0 : Int32)), (.int (0 : Int32)), (.int (0 : Int32)), (.int (0 : Int32)), (.int (0 : Int32)), (.int (0 : Int32)), (.int (0 : Int32)), (.int (0 : Int32)), (.int (0 : Int32)), (.int (0 : Int32)), (.int (0 : Int32)), (.int (0 : Int32))] (.int (0 : Int32))) (ne_s1_s2 : s1 ≠ s2) (ne_s1_s3 : s1 ≠ s3) (ne_s1_s4 : s1 ≠ s4) (ne_s2_s3 : s2 ≠ s3) (ne_s2_s4 : s2 ≠ s4) (ne_s3_s4 : s3 ≠ s4) (g_s1 : n0 ≤ s1) (g_s2 : n0 ≤ s2) (g_s3 : n0 ≤ s3) (g_s4 : n0 ≤ s4) (g_a : n0 ≤ a)  :
    Meets l (⟨"nearcast/engine/Best", "score", "(I)D"⟩ : MethodName) prog_15_method_13_code 2 (some .double) ws ({ frames := 0, cells := 0, slots := 0, locals := 0 } : Room) Z #[(.ref a), (.int (0 : Int32))] h0 (Q_rm_s0 a lo al kw ct sz sd od hp s1 s2 s3 s4 ks1 ks2 ks3 ks4 xa xb ja jb za zb ra rb h0 n0) 0 0 := by
  refine enter (Ls := #[.val (.ref a), .val (.int (0 : Int32))]) (plainFor_of_name pn_3) (fun m => by first | (simp [entryFrame, mkF, argsToLocals, Value.category]; done) | rfl) ?_
  intro p e s m below meth c T0 hx hby hml hown hnm hret hlk hZ X0 e0
  have N0 := Fr.nil n0
  replace hown : s.vm.findClass "nearcast/engine/Best" = some m.cls := hown
  show Run p e below _ (T0.setTop (mkF m 0 #[.val (.ref a), .val (.int (0 : Int32))] []))
  refine go (fun _ => XS.aloadN X0.here hx rfl (hb hby d_p15_m13_0) rfl rfl) ?_
  show Run p e below _ (T0.setTop (mkF m 1 #[.val (.ref a), .val (.int (0 : Int32))] [(.ref a)]))
  obtain ⟨T170, X170, e170, st170⟩ := getF X0 hx hZ hown (host := "") (Or.inl (wd hw 19 rfl)) Via.refl e0 F_scores_a (g := (mkF m 1 #[.val (.ref a), .val (.int (0 : Int32))] [(.ref a)])) rfl rfl (hb hby d_p15_m13_1)
  refine go st170 ?_
  show Run p e below _ (T170.setTop (mkF m 4 #[.val (.ref a), .val (.int (0 : Int32))] [(.ref s3)]))
  refine go (fun _ => XS.iloadN X170.here hx rfl (hb hby d_p15_m13_4) rfl) ?_
  show Run p e below _ (T170.setTop (mkF m 5 #[.val (.ref a), .val (.int (0 : Int32))] [(.int (0 : Int32)), (.ref s3)]))
  obtain ⟨cl171, Ar171, ak171, as171, an171, ah171, ag171⟩ := id V_s3
  have hin171 := inb_of as171 (j := (0 : Int32)) ⟨by decide, by decide⟩
  have hat171 := ah171.at hin171 (v := (.double za)) rfl
  refine go (fun _ => X170.daload hx (j := (0 : Int32)) (v := (.double za)) (by rw [e170]; exact Ar171.1) (State.isArrayOf_alike hZ.alike Ar171.2.1) Ar171.2.2 hin171 hat171 (g := (mkF m 5 #[.val (.ref a), .val (.int (0 : Int32))] [(.int (0 : Int32)), (.ref s3)])) rfl rfl (hb hby d_p15_m13_5) _) ?_
  show Run p e below _ (T170.setTop (mkF m 6 #[.val (.ref a), .val (.int (0 : Int32))] [(.double za)]))
  exact endD X170 hx hlk hret (hb hby d_p15_m13_6) (⟨rfl, N0, e170⟩) (by decide) (by decide)
def Q_rm_s1 (a : Addr) (lo al : UInt64) (kw ct sz : Int32) (sd : Int64) (od hp : Int32) (s1 s2 s3 s4 : Addr) (ks1 ks2 ks3 ks4 : ClassId) (xa xb : Int32) (ja jb : Int64) (za zb : UInt64) (ra rb : Int32) (h0 : Heap) (n0 : Nat) (v : Option Value) (h : Heap) (L : List Loc) : Prop := v = some (.double zb) ∧ Fr n0 L ∧ h = h0
set_option maxRecDepth 65536 in
set_option maxHeartbeats 40000000 in
theorem rm_s1 (l : Launch) (Z : State) (a0 : Array Value) (hw : ∀ d ∈ tables_1, d.before a0 Z = true) (ws : List Jvm.Cond) (a : Addr) (lo al : UInt64) (kw ct sz : Int32) (sd : Int64) (od hp : Int32) (s1 s2 s3 s4 : Addr) (ks1 ks2 ks3 ks4 : ClassId) (xa xb : Int32) (ja jb : Int64) (za zb : UInt64) (ra rb : Int32) (h0 : Heap) (n0 : Nat) (O0 : Old Z n0 h0) (E_a : Exa Z h0 a "nearcast/engine/Best") (F_leftOut_a : Fld Z h0 a "nearcast/engine/Best" "leftOut" "D" (.double lo)) (F_slots_a : Fld Z h0 a "nearcast/engine/Best" "slots" "[I" (.ref s1)) (F_published_a : Fld Z h0 a "nearcast/engine/Best" "published" "[J" (.ref s2)) (F_scores_a : Fld Z h0 a "nearcast/engine/Best" "scores" "[D" (.ref s3)) (F_shares_a : Fld Z h0 a "nearcast/engine/Best" "shares" "[C" (.ref s4)) (F_alpha_a : Fld Z h0 a "nearcast/engine/Best" "alpha" "D" (.double al)) (F_keywords_a : Fld Z h0 a "nearcast/engine/Best" "keywords" "I" (.int kw)) (F_count_a : Fld Z h0 a "nearcast/engine/Best" "count" "I" (.int ct)) (F_size_a : Fld Z h0 a "nearcast/engine/Best" "size" "I" (.int sz)) (F_scored_a : Fld Z h0 a "nearcast/engine/Best" "scored" "J" (.long sd)) (F_ordered_a : Fld Z h0 a "nearcast/engine/Best" "ordered" "Z" (.int od)) (F_heap_a : Fld Z h0 a "nearcast/engine/Best" "heap" "Z" (.int hp)) (V_s1 : Arv Z h0 s1 ks1 .int (16 : Int32) [(.int xa), (.int xb), (.int (0 : Int32)), (.int (0 : Int32)), (.int (0 : Int32)), (.int (0 : Int32)), (.int (0 : Int32)), (.int (0 : Int32)), (.int (0 : Int32)), (.int (0 : Int32)), (.int (0 : Int32)), (.int (0 : Int32)), (.int (0 : Int32)), (.int (0 : Int32)), (.int (0 : Int32)), (.int (0 : Int32))] (.int (0 : Int32))) (V_s2 : Arv Z h0 s2 ks2 .long (16 : Int32) [(.long ja), (.long jb), (.long (0 : Int64)), (.long (0 : Int64)), (.long (0 : Int64)), (.long (0 : Int64)), (.long (0 : Int64)), (.long (0 : Int64)), (.long (0 : Int64)), (.long (0 : Int64)), (.long (0 : Int64)), (.long (0 : Int64)), (.long (0 : Int64)), (.long (0 : Int64)), (.long (0 : Int64)), (.long (0 : Int64))] (.long (0 : Int64))) (V_s3 : Arv Z h0 s3 ks3 .double (16 : Int32) [(.double za), (.double zb), (.double (0 : UInt64)), (.double (0 : UInt64)), (.double (0 : UInt64)), (.double (0 : UInt64)), (.double (0 : UInt64)), (.double (0 : UInt64)), (.double (0 : UInt64)), (.double (0 : UInt64)), (.double (0 : UInt64)), (.double (0 : UInt64)), (.double (0 : UInt64)), (.double (0 : UInt64)), (.double (0 : UInt64)), (.double (0 : UInt64))] (.double (0 : UInt64))) (V_s4 : Arv Z h0 s4 ks4 .char (16 : Int32) [(.int ra), (.int rb), (.int (0 : Int32)), (.int (0 : Int32)), (.int (0 : Int32)), (.int (0 : Int32)), (.int (0 : Int32)), (.int (0 : Int32)), (.int (0 : Int32)), (.int (0 : Int32)), (.int (0 : Int32)), (.int (0 : Int32)), (.int (0 : Int32)), (.int (0 : Int32)), (.int (0 : Int32)), (.int (0 : Int32))] (.int (0 : Int32))) (ne_s1_s2 : s1 ≠ s2) (ne_s1_s3 : s1 ≠ s3) (ne_s1_s4 : s1 ≠ s4) (ne_s2_s3 : s2 ≠ s3) (ne_s2_s4 : s2 ≠ s4) (ne_s3_s4 : s3 ≠ s4) (g_s1 : n0 ≤ s1) (g_s2 : n0 ≤ s2) (g_s3 : n0 ≤ s3) (g_s4 : n0 ≤ s4) (g_a : n0 ≤ a)  :
    Meets l (⟨"nearcast/engine/Best", "score", "(I)D"⟩ : MethodName) prog_15_method_13_code 2 (some .double) ws ({ frames := 0, cells := 0, slots := 0, locals := 0 } : Room) Z #[(.ref a), (.int (1 : Int32))] h0 (Q_rm_s1 a lo al kw ct sz sd od hp s1 s2 s3 s4 ks1 ks2 ks3 ks4 xa xb ja jb za zb ra rb h0 n0) 0 0 := by
  refine enter (Ls := #[.val (.ref a), .val (.int (1 : Int32))]) (plainFor_of_name pn_3) (fun m => by first | (simp [entryFrame, mkF, argsToLocals, Value.category]; done) | rfl) ?_
  intro p e s m below meth c T0 hx hby hml hown hnm hret hlk hZ X0 e0
  have N0 := Fr.nil n0
  replace hown : s.vm.findClass "nearcast/engine/Best" = some m.cls := hown
  show Run p e below _ (T0.setTop (mkF m 0 #[.val (.ref a), .val (.int (1 : Int32))] []))
  refine go (fun _ => XS.aloadN X0.here hx rfl (hb hby d_p15_m13_0) rfl rfl) ?_
  show Run p e below _ (T0.setTop (mkF m 1 #[.val (.ref a), .val (.int (1 : Int32))] [(.ref a)]))
  obtain ⟨T172, X172, e172, st172⟩ := getF X0 hx hZ hown (host := "") (Or.inl (wd hw 19 rfl)) Via.refl e0 F_scores_a (g := (mkF m 1 #[.val (.ref a), .val (.int (1 : Int32))] [(.ref a)])) rfl rfl (hb hby d_p15_m13_1)
  refine go st172 ?_
  show Run p e below _ (T172.setTop (mkF m 4 #[.val (.ref a), .val (.int (1 : Int32))] [(.ref s3)]))
  refine go (fun _ => XS.iloadN X172.here hx rfl (hb hby d_p15_m13_4) rfl) ?_
  show Run p e below _ (T172.setTop (mkF m 5 #[.val (.ref a), .val (.int (1 : Int32))] [(.int (1 : Int32)), (.ref s3)]))
  obtain ⟨cl173, Ar173, ak173, as173, an173, ah173, ag173⟩ := id V_s3
  have hin173 := inb_of as173 (j := (1 : Int32)) ⟨by decide, by decide⟩
  have hat173 := ah173.at hin173 (v := (.double zb)) rfl
  refine go (fun _ => X172.daload hx (j := (1 : Int32)) (v := (.double zb)) (by rw [e172]; exact Ar173.1) (State.isArrayOf_alike hZ.alike Ar173.2.1) Ar173.2.2 hin173 hat173 (g := (mkF m 5 #[.val (.ref a), .val (.int (1 : Int32))] [(.int (1 : Int32)), (.ref s3)])) rfl rfl (hb hby d_p15_m13_5) _) ?_
  show Run p e below _ (T172.setTop (mkF m 6 #[.val (.ref a), .val (.int (1 : Int32))] [(.double zb)]))
  exact endD X172 hx hlk hret (hb hby d_p15_m13_6) (⟨rfl, N0, e172⟩) (by decide) (by decide)
theorem d_p15_m2_0 : decode prog_15_method_2_code 0 = .ok (.aload_n 0, 1) := by decide +kernel
theorem d_p15_m2_1 : decode prog_15_method_2_code 1 = .ok (.invokespecial 11, 3) := by decide +kernel
theorem d_p15_m2_4 : decode prog_15_method_2_code 4 = .ok (.aload_n 0, 1) := by decide +kernel
theorem d_p15_m2_5 : decode prog_15_method_2_code 5 = .ok (.ldc2_w 16, 3) := by decide +kernel
theorem d_p15_m2_8 : decode prog_15_method_2_code 8 = .ok (.putfield 18, 3) := by decide +kernel
theorem d_p15_m2_11 : decode prog_15_method_2_code 11 = .ok (.aload_n 0, 1) := by decide +kernel
theorem d_p15_m2_12 : decode prog_15_method_2_code 12 = .ok (.bipush 16, 2) := by decide +kernel
theorem d_p15_m2_14 : decode prog_15_method_2_code 14 = .ok (.newarray .int, 2) := by decide +kernel
theorem d_p15_m2_16 : decode prog_15_method_2_code 16 = .ok (.putfield 22, 3) := by decide +kernel
theorem d_p15_m2_19 : decode prog_15_method_2_code 19 = .ok (.aload_n 0, 1) := by decide +kernel
theorem d_p15_m2_20 : decode prog_15_method_2_code 20 = .ok (.bipush 16, 2) := by decide +kernel
theorem d_p15_m2_22 : decode prog_15_method_2_code 22 = .ok (.newarray .long, 2) := by decide +kernel
theorem d_p15_m2_24 : decode prog_15_method_2_code 24 = .ok (.putfield 26, 3) := by decide +kernel
theorem d_p15_m2_27 : decode prog_15_method_2_code 27 = .ok (.aload_n 0, 1) := by decide +kernel
theorem d_p15_m2_28 : decode prog_15_method_2_code 28 = .ok (.bipush 16, 2) := by decide +kernel
theorem d_p15_m2_30 : decode prog_15_method_2_code 30 = .ok (.newarray .double, 2) := by decide +kernel
theorem d_p15_m2_32 : decode prog_15_method_2_code 32 = .ok (.putfield 30, 3) := by decide +kernel
theorem d_p15_m2_35 : decode prog_15_method_2_code 35 = .ok (.aload_n 0, 1) := by decide +kernel
theorem d_p15_m2_36 : decode prog_15_method_2_code 36 = .ok (.bipush 16, 2) := by decide +kernel
theorem d_p15_m2_38 : decode prog_15_method_2_code 38 = .ok (.newarray .char, 2) := by decide +kernel
theorem d_p15_m2_40 : decode prog_15_method_2_code 40 = .ok (.putfield 34, 3) := by decide +kernel
theorem d_p15_m2_43 : decode prog_15_method_2_code 43 = .ok (.return_, 1) := by decide +kernel
def Q_rm_init (Z : State) (a : Addr) (h0 : Heap) (n0 : Nat) (v : Option Value) (h : Heap) (L : List Loc) : Prop := ∃ (s1 s2 s3 s4 : Addr) (ks1 ks2 ks3 ks4 : ClassId), v = none ∧ Fr n0 L ∧ Keep h0 h [a] ∧ n0 ≤ s1 ∧ n0 ≤ s2 ∧ n0 ≤ s3 ∧ n0 ≤ s4 ∧ s1 ≠ s2 ∧ s1 ≠ s3 ∧ s1 ≠ s4 ∧ s2 ≠ s3 ∧ s2 ≠ s4 ∧ s3 ≠ s4 ∧ Exa Z h a "nearcast/engine/Best" ∧ Fld Z h a "nearcast/engine/Best" "leftOut" "D" (.double (18442240474082181120 : UInt64)) ∧ Fld Z h a "nearcast/engine/Best" "slots" "[I" (.ref s1) ∧ Fld Z h a "nearcast/engine/Best" "published" "[J" (.ref s2) ∧ Fld Z h a "nearcast/engine/Best" "scores" "[D" (.ref s3) ∧ Fld Z h a "nearcast/engine/Best" "shares" "[C" (.ref s4) ∧ Fld Z h a "nearcast/engine/Best" "alpha" "D" (.double (0 : UInt64)) ∧ Fld Z h a "nearcast/engine/Best" "keywords" "I" (.int (0 : Int32)) ∧ Fld Z h a "nearcast/engine/Best" "count" "I" (.int (0 : Int32)) ∧ Fld Z h a "nearcast/engine/Best" "size" "I" (.int (0 : Int32)) ∧ Fld Z h a "nearcast/engine/Best" "scored" "J" (.long (0 : Int64)) ∧ Fld Z h a "nearcast/engine/Best" "ordered" "Z" (.int (0 : Int32)) ∧ Fld Z h a "nearcast/engine/Best" "heap" "Z" (.int (0 : Int32)) ∧ Arv Z h s1 ks1 .int (16 : Int32) [(.int (0 : Int32)), (.int (0 : Int32)), (.int (0 : Int32)), (.int (0 : Int32)), (.int (0 : Int32)), (.int (0 : Int32)), (.int (0 : Int32)), (.int (0 : Int32)), (.int (0 : Int32)), (.int (0 : Int32)), (.int (0 : Int32)), (.int (0 : Int32)), (.int (0 : Int32)), (.int (0 : Int32)), (.int (0 : Int32)), (.int (0 : Int32))] (.int (0 : Int32)) ∧ Arv Z h s2 ks2 .long (16 : Int32) [(.long (0 : Int64)), (.long (0 : Int64)), (.long (0 : Int64)), (.long (0 : Int64)), (.long (0 : Int64)), (.long (0 : Int64)), (.long (0 : Int64)), (.long (0 : Int64)), (.long (0 : Int64)), (.long (0 : Int64)), (.long (0 : Int64)), (.long (0 : Int64)), (.long (0 : Int64)), (.long (0 : Int64)), (.long (0 : Int64)), (.long (0 : Int64))] (.long (0 : Int64)) ∧ Arv Z h s3 ks3 .double (16 : Int32) [(.double (0 : UInt64)), (.double (0 : UInt64)), (.double (0 : UInt64)), (.double (0 : UInt64)), (.double (0 : UInt64)), (.double (0 : UInt64)), (.double (0 : UInt64)), (.double (0 : UInt64)), (.double (0 : UInt64)), (.double (0 : UInt64)), (.double (0 : UInt64)), (.double (0 : UInt64)), (.double (0 : UInt64)), (.double (0 : UInt64)), (.double (0 : UInt64)), (.double (0 : UInt64))] (.double (0 : UInt64)) ∧ Arv Z h s4 ks4 .char (16 : Int32) [(.int (0 : Int32)), (.int (0 : Int32)), (.int (0 : Int32)), (.int (0 : Int32)), (.int (0 : Int32)), (.int (0 : Int32)), (.int (0 : Int32)), (.int (0 : Int32)), (.int (0 : Int32)), (.int (0 : Int32)), (.int (0 : Int32)), (.int (0 : Int32)), (.int (0 : Int32)), (.int (0 : Int32)), (.int (0 : Int32)), (.int (0 : Int32))] (.int (0 : Int32))
set_option maxRecDepth 65536 in
set_option maxHeartbeats 40000000 in
theorem rm_init (l : Launch) (Z : State) (a0 : Array Value) (hw : ∀ d ∈ tables_1, d.before a0 Z = true) (ws : List Jvm.Cond) (a : Addr) (h0 : Heap) (n0 : Nat) (O0 : Old Z n0 h0) (E_a : Exa Z h0 a "nearcast/engine/Best") (F_leftOut_a : Fld Z h0 a "nearcast/engine/Best" "leftOut" "D" (.double (0 : UInt64))) (F_slots_a : Fld Z h0 a "nearcast/engine/Best" "slots" "[I" .null) (F_published_a : Fld Z h0 a "nearcast/engine/Best" "published" "[J" .null) (F_scores_a : Fld Z h0 a "nearcast/engine/Best" "scores" "[D" .null) (F_shares_a : Fld Z h0 a "nearcast/engine/Best" "shares" "[C" .null) (F_alpha_a : Fld Z h0 a "nearcast/engine/Best" "alpha" "D" (.double (0 : UInt64))) (F_keywords_a : Fld Z h0 a "nearcast/engine/Best" "keywords" "I" (.int (0 : Int32))) (F_count_a : Fld Z h0 a "nearcast/engine/Best" "count" "I" (.int (0 : Int32))) (F_size_a : Fld Z h0 a "nearcast/engine/Best" "size" "I" (.int (0 : Int32))) (F_scored_a : Fld Z h0 a "nearcast/engine/Best" "scored" "J" (.long (0 : Int64))) (F_ordered_a : Fld Z h0 a "nearcast/engine/Best" "ordered" "Z" (.int (0 : Int32))) (F_heap_a : Fld Z h0 a "nearcast/engine/Best" "heap" "Z" (.int (0 : Int32))) (g_a : n0 ≤ a) :
    Meets l (⟨"nearcast/engine/Best", "<init>", "()V"⟩ : MethodName) prog_15_method_2_code 1 none ws ({ frames := 1, cells := 4, slots := 64, locals := 12 } : Room) Z #[(.ref a)] h0 (Q_rm_init Z a h0 n0) 4 64 := by
  refine enter (Ls := #[.val (.ref a)]) (plainFor_of_name pn_3) (fun m => by first | (simp [entryFrame, mkF, argsToLocals, Value.category]; done) | rfl) ?_
  intro p e s m below meth c T0 hx hby hml hown hnm hret hlk hZ X0 e0
  have N0 := Fr.nil n0
  replace hown : s.vm.findClass "nearcast/engine/Best" = some m.cls := hown
  show Run p e below _ (T0.setTop (mkF m 0 #[.val (.ref a)] []))
  have K0 := Keep.refl h0 [a]
  refine go (fun _ => XS.aloadN X0.here hx rfl (hb hby d_p15_m2_0) rfl rfl) ?_
  show Run p e below _ (T0.setTop (mkF m 1 #[.val (.ref a)] [(.ref a)]))
  obtain ⟨T174, X174, e174, st174⟩ := initO X0 hx hZ hown (wd hw 6 rfl) (wd hw 7 rfl) (wd hw 8 rfl) e0 (g := (mkF m 1 #[.val (.ref a)] [(.ref a)])) rfl (by rw [hml]; rfl) rfl (hb hby d_p15_m2_1) (by decide) (W := 0) (by show 2 * 0 + _ ≤ _; exact Nat.le_of_eq rfl) (by decide)
  refine go st174 ?_
  show Run p e below _ (T174.setTop (mkF m 4 #[.val (.ref a)] []))
  refine go (fun _ => XS.aloadN X174.here hx rfl (hb hby d_p15_m2_4) rfl rfl) ?_
  show Run p e below _ (T174.setTop (mkF m 5 #[.val (.ref a)] [(.ref a)]))
  refine go (fun _ => X174.ldc2DoubleC hx hown (mvT hZ (wd hw 9 rfl)) (g := (mkF m 5 #[.val (.ref a)] [(.ref a)])) rfl (hb hby d_p15_m2_5) _) ?_
  show Run p e below _ (T174.setTop (mkF m 8 #[.val (.ref a)] [(.double (18442240474082181120 : UInt64)), (.ref a)]))
  obtain ⟨T175, h175, X175, e175, W175, st175⟩ := putF X174 hx hZ hown (host := "") (Or.inl (wd hw 10 rfl)) Via.refl e174 F_leftOut_a E_a (Or.inl (wd hw 11 rfl)) (wd hw 1 rfl) (ty := .double) (by decide) rfl rfl (g := (mkF m 8 #[.val (.ref a)] [(.double (18442240474082181120 : UInt64)), (.ref a)])) rfl rfl (hb hby d_p15_m2_8)
  have O0 := O0.wr W175 g_a
  have E_a := E_a.wr W175
  have F_leftOut_a := F_leftOut_a.same W175
  have F_slots_a := F_slots_a.other W175 (Or.inr (slot_ne (Or.inl (wd hw 14 rfl)) (Or.inl (wd hw 11 rfl)) (by decide) (t := (.array .int)) (t' := .double) (by decide) (by decide)))
  have F_published_a := F_published_a.other W175 (Or.inr (slot_ne (Or.inl (wd hw 17 rfl)) (Or.inl (wd hw 11 rfl)) (by decide) (t := (.array .long)) (t' := .double) (by decide) (by decide)))
  have F_scores_a := F_scores_a.other W175 (Or.inr (slot_ne (Or.inl (wd hw 20 rfl)) (Or.inl (wd hw 11 rfl)) (by decide) (t := (.array .double)) (t' := .double) (by decide) (by decide)))
  have F_shares_a := F_shares_a.other W175 (Or.inr (slot_ne (Or.inl (wd hw 23 rfl)) (Or.inl (wd hw 11 rfl)) (by decide) (t := (.array .char)) (t' := .double) (by decide) (by decide)))
  have F_alpha_a := F_alpha_a.other W175 (Or.inr (slot_ne (Or.inl (wd hw 31 rfl)) (Or.inl (wd hw 11 rfl)) (by decide) (t := .double) (t' := .double) (by decide) (by decide)))
  have F_keywords_a := F_keywords_a.other W175 (Or.inr (slot_ne (Or.inl (wd hw 33 rfl)) (Or.inl (wd hw 11 rfl)) (by decide) (t := .int) (t' := .double) (by decide) (by decide)))
  have F_count_a := F_count_a.other W175 (Or.inr (slot_ne (Or.inl (wd hw 35 rfl)) (Or.inl (wd hw 11 rfl)) (by decide) (t := .int) (t' := .double) (by decide) (by decide)))
  have F_size_a := F_size_a.other W175 (Or.inr (slot_ne (Or.inl (wd hw 37 rfl)) (Or.inl (wd hw 11 rfl)) (by decide) (t := .int) (t' := .double) (by decide) (by decide)))
  have F_scored_a := F_scored_a.other W175 (Or.inr (slot_ne (Or.inl (wd hw 39 rfl)) (Or.inl (wd hw 11 rfl)) (by decide) (t := .long) (t' := .double) (by decide) (by decide)))
  have F_ordered_a := F_ordered_a.other W175 (Or.inr (slot_ne (Or.inl (wd hw 41 rfl)) (Or.inl (wd hw 11 rfl)) (by decide) (t := .boolean) (t' := .double) (by decide) (by decide)))
  have F_heap_a := F_heap_a.other W175 (Or.inr (slot_ne (Or.inl (wd hw 43 rfl)) (Or.inl (wd hw 11 rfl)) (by decide) (t := .boolean) (t' := .double) (by decide) (by decide)))
  have K0 := K0.wr W175 (Or.inl (by simp))
  have N175 := Fr.snoc X175 N0 g_a
  refine go st175 ?_
  show Run p e below _ (T175.setTop (mkF m 11 #[.val (.ref a)] []))
  refine go (fun _ => XS.aloadN X175.here hx rfl (hb hby d_p15_m2_11) rfl rfl) ?_
  show Run p e below _ (T175.setTop (mkF m 12 #[.val (.ref a)] [(.ref a)]))
  refine go (fun _ => XS.bipush X175.here hx rfl (hb hby d_p15_m2_12)) ?_
  show Run p e below _ (T175.setTop (mkF m 14 #[.val (.ref a)] [(.int (16 : Int32)), (.ref a)]))
  obtain ⟨T176, h176, k176, X176, e176, E176, A176, st176⟩ := newP X175 hx hZ (wd hw 12 rfl) e175 (g := (mkF m 14 #[.val (.ref a)] [(.int (16 : Int32)), (.ref a)])) rfl (hb hby d_p15_m2_14) rfl (by decide) (cap := 16) (by decide) (by decide) (by decide) (by decide)
  obtain ⟨b176, y176⟩ : ∃ z, z = h175.size := ⟨_, rfl⟩
  rw [← y176] at A176 st176
  have g_b176 : n0 ≤ b176 := y176.symm ▸ old_sz O0
  have sz_b176 : h0.size ≤ b176 := y176.symm ▸ K0.1
  have ne_a_b176 : a ≠ b176 := Nat.ne_of_lt (y176.symm ▸ E_a.lt)
  have O0 := O0.ext E176
  have E_a := E_a.ext E176
  have F_leftOut_a := F_leftOut_a.ext E176
  have F_slots_a := F_slots_a.ext E176
  have F_published_a := F_published_a.ext E176
  have F_scores_a := F_scores_a.ext E176
  have F_shares_a := F_shares_a.ext E176
  have F_alpha_a := F_alpha_a.ext E176
  have F_keywords_a := F_keywords_a.ext E176
  have F_count_a := F_count_a.ext E176
  have F_size_a := F_size_a.ext E176
  have F_scored_a := F_scored_a.ext E176
  have F_ordered_a := F_ordered_a.ext E176
  have F_heap_a := F_heap_a.ext E176
  have K0 := K0.ext E176
  have V_b176 : Arv Z h176 b176 k176 .int (16 : Int32) [(.int (0 : Int32)), (.int (0 : Int32)), (.int (0 : Int32)), (.int (0 : Int32)), (.int (0 : Int32)), (.int (0 : Int32)), (.int (0 : Int32)), (.int (0 : Int32)), (.int (0 : Int32)), (.int (0 : Int32)), (.int (0 : Int32)), (.int (0 : Int32)), (.int (0 : Int32)), (.int (0 : Int32)), (.int (0 : Int32)), (.int (0 : Int32))] (.int (0 : Int32)) := (Arv.new A176 (by decide)).pad (pad_rep [] (.int (0 : Int32)) 16)
  refine go st176 ?_
  show Run p e below _ (T176.setTop (mkF m 16 #[.val (.ref a)] [(.ref b176), (.ref a)]))
  obtain ⟨T177, h177, X177, e177, W177, st177⟩ := putF X176 hx hZ hown (host := "") (Or.inl (wd hw 13 rfl)) Via.refl e176 F_slots_a E_a (Or.inl (wd hw 14 rfl)) (wd hw 1 rfl) (ty := (.array .int)) (by decide) rfl rfl (g := (mkF m 16 #[.val (.ref a)] [(.ref b176), (.ref a)])) rfl rfl (hb hby d_p15_m2_16)
  have O0 := O0.wr W177 g_a
  have E_a := E_a.wr W177
  have F_leftOut_a := F_leftOut_a.other W177 (Or.inr (slot_ne (Or.inl (wd hw 11 rfl)) (Or.inl (wd hw 14 rfl)) (by decide) (t := .double) (t' := (.array .int)) (by decide) (by decide)))
  have F_slots_a := F_slots_a.same W177
  have F_published_a := F_published_a.other W177 (Or.inr (slot_ne (Or.inl (wd hw 17 rfl)) (Or.inl (wd hw 14 rfl)) (by decide) (t := (.array .long)) (t' := (.array .int)) (by decide) (by decide)))
  have F_scores_a := F_scores_a.other W177 (Or.inr (slot_ne (Or.inl (wd hw 20 rfl)) (Or.inl (wd hw 14 rfl)) (by decide) (t := (.array .double)) (t' := (.array .int)) (by decide) (by decide)))
  have F_shares_a := F_shares_a.other W177 (Or.inr (slot_ne (Or.inl (wd hw 23 rfl)) (Or.inl (wd hw 14 rfl)) (by decide) (t := (.array .char)) (t' := (.array .int)) (by decide) (by decide)))
  have F_alpha_a := F_alpha_a.other W177 (Or.inr (slot_ne (Or.inl (wd hw 31 rfl)) (Or.inl (wd hw 14 rfl)) (by decide) (t := .double) (t' := (.array .int)) (by decide) (by decide)))
  have F_keywords_a := F_keywords_a.other W177 (Or.inr (slot_ne (Or.inl (wd hw 33 rfl)) (Or.inl (wd hw 14 rfl)) (by decide) (t := .int) (t' := (.array .int)) (by decide) (by decide)))
  have F_count_a := F_count_a.other W177 (Or.inr (slot_ne (Or.inl (wd hw 35 rfl)) (Or.inl (wd hw 14 rfl)) (by decide) (t := .int) (t' := (.array .int)) (by decide) (by decide)))
  have F_size_a := F_size_a.other W177 (Or.inr (slot_ne (Or.inl (wd hw 37 rfl)) (Or.inl (wd hw 14 rfl)) (by decide) (t := .int) (t' := (.array .int)) (by decide) (by decide)))
  have F_scored_a := F_scored_a.other W177 (Or.inr (slot_ne (Or.inl (wd hw 39 rfl)) (Or.inl (wd hw 14 rfl)) (by decide) (t := .long) (t' := (.array .int)) (by decide) (by decide)))
  have F_ordered_a := F_ordered_a.other W177 (Or.inr (slot_ne (Or.inl (wd hw 41 rfl)) (Or.inl (wd hw 14 rfl)) (by decide) (t := .boolean) (t' := (.array .int)) (by decide) (by decide)))
  have F_heap_a := F_heap_a.other W177 (Or.inr (slot_ne (Or.inl (wd hw 43 rfl)) (Or.inl (wd hw 14 rfl)) (by decide) (t := .boolean) (t' := (.array .int)) (by decide) (by decide)))
  have K0 := K0.wr W177 (Or.inl (by simp))
  have V_b176 := V_b176.other W177 (Ne.symm ne_a_b176)
  have N177 := Fr.snoc X177 N175 g_a
  refine go st177 ?_
  show Run p e below _ (T177.setTop (mkF m 19 #[.val (.ref a)] []))
  refine go (fun _ => XS.aloadN X177.here hx rfl (hb hby d_p15_m2_19) rfl rfl) ?_
  show Run p e below _ (T177.setTop (mkF m 20 #[.val (.ref a)] [(.ref a)]))
  refine go (fun _ => XS.bipush X177.here hx rfl (hb hby d_p15_m2_20)) ?_
  show Run p e below _ (T177.setTop (mkF m 22 #[.val (.ref a)] [(.int (16 : Int32)), (.ref a)]))
  obtain ⟨T178, h178, k178, X178, e178, E178, A178, st178⟩ := newP X177 hx hZ (wd hw 15 rfl) e177 (g := (mkF m 22 #[.val (.ref a)] [(.int (16 : Int32)), (.ref a)])) rfl (hb hby d_p15_m2_22) rfl (by decide) (cap := 16) (by decide) (by decide) (by decide) (by decide)
  obtain ⟨b178, y178⟩ : ∃ z, z = h177.size := ⟨_, rfl⟩
  rw [← y178] at A178 st178
  have g_b178 : n0 ≤ b178 := y178.symm ▸ old_sz O0
  have sz_b178 : h0.size ≤ b178 := y178.symm ▸ K0.1
  have ne_a_b178 : a ≠ b178 := Nat.ne_of_lt (y178.symm ▸ E_a.lt)
  have ne_b176_b178 : b176 ≠ b178 := Nat.ne_of_lt (y178.symm ▸ V_b176.lt)
  have O0 := O0.ext E178
  have E_a := E_a.ext E178
  have F_leftOut_a := F_leftOut_a.ext E178
  have F_slots_a := F_slots_a.ext E178
  have F_published_a := F_published_a.ext E178
  have F_scores_a := F_scores_a.ext E178
  have F_shares_a := F_shares_a.ext E178
  have F_alpha_a := F_alpha_a.ext E178
  have F_keywords_a := F_keywords_a.ext E178
  have F_count_a := F_count_a.ext E178
  have F_size_a := F_size_a.ext E178
  have F_scored_a := F_scored_a.ext E178
  have F_ordered_a := F_ordered_a.ext E178
  have F_heap_a := F_heap_a.ext E178
  have K0 := K0.ext E178
  have V_b176 := V_b176.ext E178
  have V_b178 : Arv Z h178 b178 k178 .long (16 : Int32) [(.long (0 : Int64)), (.long (0 : Int64)), (.long (0 : Int64)), (.long (0 : Int64)), (.long (0 : Int64)), (.long (0 : Int64)), (.long (0 : Int64)), (.long (0 : Int64)), (.long (0 : Int64)), (.long (0 : Int64)), (.long (0 : Int64)), (.long (0 : Int64)), (.long (0 : Int64)), (.long (0 : Int64)), (.long (0 : Int64)), (.long (0 : Int64))] (.long (0 : Int64)) := (Arv.new A178 (by decide)).pad (pad_rep [] (.long (0 : Int64)) 16)
  refine go st178 ?_
  show Run p e below _ (T178.setTop (mkF m 24 #[.val (.ref a)] [(.ref b178), (.ref a)]))
  obtain ⟨T179, h179, X179, e179, W179, st179⟩ := putF X178 hx hZ hown (host := "") (Or.inl (wd hw 16 rfl)) Via.refl e178 F_published_a E_a (Or.inl (wd hw 17 rfl)) (wd hw 1 rfl) (ty := (.array .long)) (by decide) rfl rfl (g := (mkF m 24 #[.val (.ref a)] [(.ref b178), (.ref a)])) rfl rfl (hb hby d_p15_m2_24)
  have O0 := O0.wr W179 g_a
  have E_a := E_a.wr W179
  have F_leftOut_a := F_leftOut_a.other W179 (Or.inr (slot_ne (Or.inl (wd hw 11 rfl)) (Or.inl (wd hw 17 rfl)) (by decide) (t := .double) (t' := (.array .long)) (by decide) (by decide)))
  have F_slots_a := F_slots_a.other W179 (Or.inr (slot_ne (Or.inl (wd hw 14 rfl)) (Or.inl (wd hw 17 rfl)) (by decide) (t := (.array .int)) (t' := (.array .long)) (by decide) (by decide)))
  have F_published_a := F_published_a.same W179
  have F_scores_a := F_scores_a.other W179 (Or.inr (slot_ne (Or.inl (wd hw 20 rfl)) (Or.inl (wd hw 17 rfl)) (by decide) (t := (.array .double)) (t' := (.array .long)) (by decide) (by decide)))
  have F_shares_a := F_shares_a.other W179 (Or.inr (slot_ne (Or.inl (wd hw 23 rfl)) (Or.inl (wd hw 17 rfl)) (by decide) (t := (.array .char)) (t' := (.array .long)) (by decide) (by decide)))
  have F_alpha_a := F_alpha_a.other W179 (Or.inr (slot_ne (Or.inl (wd hw 31 rfl)) (Or.inl (wd hw 17 rfl)) (by decide) (t := .double) (t' := (.array .long)) (by decide) (by decide)))
  have F_keywords_a := F_keywords_a.other W179 (Or.inr (slot_ne (Or.inl (wd hw 33 rfl)) (Or.inl (wd hw 17 rfl)) (by decide) (t := .int) (t' := (.array .long)) (by decide) (by decide)))
  have F_count_a := F_count_a.other W179 (Or.inr (slot_ne (Or.inl (wd hw 35 rfl)) (Or.inl (wd hw 17 rfl)) (by decide) (t := .int) (t' := (.array .long)) (by decide) (by decide)))
  have F_size_a := F_size_a.other W179 (Or.inr (slot_ne (Or.inl (wd hw 37 rfl)) (Or.inl (wd hw 17 rfl)) (by decide) (t := .int) (t' := (.array .long)) (by decide) (by decide)))
  have F_scored_a := F_scored_a.other W179 (Or.inr (slot_ne (Or.inl (wd hw 39 rfl)) (Or.inl (wd hw 17 rfl)) (by decide) (t := .long) (t' := (.array .long)) (by decide) (by decide)))
  have F_ordered_a := F_ordered_a.other W179 (Or.inr (slot_ne (Or.inl (wd hw 41 rfl)) (Or.inl (wd hw 17 rfl)) (by decide) (t := .boolean) (t' := (.array .long)) (by decide) (by decide)))
  have F_heap_a := F_heap_a.other W179 (Or.inr (slot_ne (Or.inl (wd hw 43 rfl)) (Or.inl (wd hw 17 rfl)) (by decide) (t := .boolean) (t' := (.array .long)) (by decide) (by decide)))
  have K0 := K0.wr W179 (Or.inl (by simp))
  have V_b176 := V_b176.other W179 (Ne.symm ne_a_b176)
  have V_b178 := V_b178.other W179 (Ne.symm ne_a_b178)
  have N179 := Fr.snoc X179 N177 g_a
  refine go st179 ?_
  show Run p e below _ (T179.setTop (mkF m 27 #[.val (.ref a)] []))
  refine go (fun _ => XS.aloadN X179.here hx rfl (hb hby d_p15_m2_27) rfl rfl) ?_
  show Run p e below _ (T179.setTop (mkF m 28 #[.val (.ref a)] [(.ref a)]))
  refine go (fun _ => XS.bipush X179.here hx rfl (hb hby d_p15_m2_28)) ?_
  show Run p e below _ (T179.setTop (mkF m 30 #[.val (.ref a)] [(.int (16 : Int32)), (.ref a)]))
  obtain ⟨T180, h180, k180, X180, e180, E180, A180, st180⟩ := newP X179 hx hZ (wd hw 18 rfl) e179 (g := (mkF m 30 #[.val (.ref a)] [(.int (16 : Int32)), (.ref a)])) rfl (hb hby d_p15_m2_30) rfl (by decide) (cap := 16) (by decide) (by decide) (by decide) (by decide)
  obtain ⟨b180, y180⟩ : ∃ z, z = h179.size := ⟨_, rfl⟩
  rw [← y180] at A180 st180
  have g_b180 : n0 ≤ b180 := y180.symm ▸ old_sz O0
  have sz_b180 : h0.size ≤ b180 := y180.symm ▸ K0.1
  have ne_a_b180 : a ≠ b180 := Nat.ne_of_lt (y180.symm ▸ E_a.lt)
  have ne_b176_b180 : b176 ≠ b180 := Nat.ne_of_lt (y180.symm ▸ V_b176.lt)
  have ne_b178_b180 : b178 ≠ b180 := Nat.ne_of_lt (y180.symm ▸ V_b178.lt)
  have O0 := O0.ext E180
  have E_a := E_a.ext E180
  have F_leftOut_a := F_leftOut_a.ext E180
  have F_slots_a := F_slots_a.ext E180
  have F_published_a := F_published_a.ext E180
  have F_scores_a := F_scores_a.ext E180
  have F_shares_a := F_shares_a.ext E180
  have F_alpha_a := F_alpha_a.ext E180
  have F_keywords_a := F_keywords_a.ext E180
  have F_count_a := F_count_a.ext E180
  have F_size_a := F_size_a.ext E180
  have F_scored_a := F_scored_a.ext E180
  have F_ordered_a := F_ordered_a.ext E180
  have F_heap_a := F_heap_a.ext E180
  have K0 := K0.ext E180
  have V_b176 := V_b176.ext E180
  have V_b178 := V_b178.ext E180
  have V_b180 : Arv Z h180 b180 k180 .double (16 : Int32) [(.double (0 : UInt64)), (.double (0 : UInt64)), (.double (0 : UInt64)), (.double (0 : UInt64)), (.double (0 : UInt64)), (.double (0 : UInt64)), (.double (0 : UInt64)), (.double (0 : UInt64)), (.double (0 : UInt64)), (.double (0 : UInt64)), (.double (0 : UInt64)), (.double (0 : UInt64)), (.double (0 : UInt64)), (.double (0 : UInt64)), (.double (0 : UInt64)), (.double (0 : UInt64))] (.double (0 : UInt64)) := (Arv.new A180 (by decide)).pad (pad_rep [] (.double (0 : UInt64)) 16)
  refine go st180 ?_
  show Run p e below _ (T180.setTop (mkF m 32 #[.val (.ref a)] [(.ref b180), (.ref a)]))
  obtain ⟨T181, h181, X181, e181, W181, st181⟩ := putF X180 hx hZ hown (host := "") (Or.inl (wd hw 19 rfl)) Via.refl e180 F_scores_a E_a (Or.inl (wd hw 20 rfl)) (wd hw 1 rfl) (ty := (.array .double)) (by decide) rfl rfl (g := (mkF m 32 #[.val (.ref a)] [(.ref b180), (.ref a)])) rfl rfl (hb hby d_p15_m2_32)
  have O0 := O0.wr W181 g_a
  have E_a := E_a.wr W181
  have F_leftOut_a := F_leftOut_a.other W181 (Or.inr (slot_ne (Or.inl (wd hw 11 rfl)) (Or.inl (wd hw 20 rfl)) (by decide) (t := .double) (t' := (.array .double)) (by decide) (by decide)))
  have F_slots_a := F_slots_a.other W181 (Or.inr (slot_ne (Or.inl (wd hw 14 rfl)) (Or.inl (wd hw 20 rfl)) (by decide) (t := (.array .int)) (t' := (.array .double)) (by decide) (by decide)))
  have F_published_a := F_published_a.other W181 (Or.inr (slot_ne (Or.inl (wd hw 17 rfl)) (Or.inl (wd hw 20 rfl)) (by decide) (t := (.array .long)) (t' := (.array .double)) (by decide) (by decide)))
  have F_scores_a := F_scores_a.same W181
  have F_shares_a := F_shares_a.other W181 (Or.inr (slot_ne (Or.inl (wd hw 23 rfl)) (Or.inl (wd hw 20 rfl)) (by decide) (t := (.array .char)) (t' := (.array .double)) (by decide) (by decide)))
  have F_alpha_a := F_alpha_a.other W181 (Or.inr (slot_ne (Or.inl (wd hw 31 rfl)) (Or.inl (wd hw 20 rfl)) (by decide) (t := .double) (t' := (.array .double)) (by decide) (by decide)))
  have F_keywords_a := F_keywords_a.other W181 (Or.inr (slot_ne (Or.inl (wd hw 33 rfl)) (Or.inl (wd hw 20 rfl)) (by decide) (t := .int) (t' := (.array .double)) (by decide) (by decide)))
  have F_count_a := F_count_a.other W181 (Or.inr (slot_ne (Or.inl (wd hw 35 rfl)) (Or.inl (wd hw 20 rfl)) (by decide) (t := .int) (t' := (.array .double)) (by decide) (by decide)))
  have F_size_a := F_size_a.other W181 (Or.inr (slot_ne (Or.inl (wd hw 37 rfl)) (Or.inl (wd hw 20 rfl)) (by decide) (t := .int) (t' := (.array .double)) (by decide) (by decide)))
  have F_scored_a := F_scored_a.other W181 (Or.inr (slot_ne (Or.inl (wd hw 39 rfl)) (Or.inl (wd hw 20 rfl)) (by decide) (t := .long) (t' := (.array .double)) (by decide) (by decide)))
  have F_ordered_a := F_ordered_a.other W181 (Or.inr (slot_ne (Or.inl (wd hw 41 rfl)) (Or.inl (wd hw 20 rfl)) (by decide) (t := .boolean) (t' := (.array .double)) (by decide) (by decide)))
  have F_heap_a := F_heap_a.other W181 (Or.inr (slot_ne (Or.inl (wd hw 43 rfl)) (Or.inl (wd hw 20 rfl)) (by decide) (t := .boolean) (t' := (.array .double)) (by decide) (by decide)))
  have K0 := K0.wr W181 (Or.inl (by simp))
  have V_b176 := V_b176.other W181 (Ne.symm ne_a_b176)
  have V_b178 := V_b178.other W181 (Ne.symm ne_a_b178)
  have V_b180 := V_b180.other W181 (Ne.symm ne_a_b180)
  have N181 := Fr.snoc X181 N179 g_a
  refine go st181 ?_
  show Run p e below _ (T181.setTop (mkF m 35 #[.val (.ref a)] []))
  refine go (fun _ => XS.aloadN X181.here hx rfl (hb hby d_p15_m2_35) rfl rfl) ?_
  show Run p e below _ (T181.setTop (mkF m 36 #[.val (.ref a)] [(.ref a)]))
  refine go (fun _ => XS.bipush X181.here hx rfl (hb hby d_p15_m2_36)) ?_
  show Run p e below _ (T181.setTop (mkF m 38 #[.val (.ref a)] [(.int (16 : Int32)), (.ref a)]))
  obtain ⟨T182, h182, k182, X182, e182, E182, A182, st182⟩ := newP X181 hx hZ (wd hw 21 rfl) e181 (g := (mkF m 38 #[.val (.ref a)] [(.int (16 : Int32)), (.ref a)])) rfl (hb hby d_p15_m2_38) rfl (by decide) (cap := 16) (by decide) (by decide) (by decide) (by decide)
  obtain ⟨b182, y182⟩ : ∃ z, z = h181.size := ⟨_, rfl⟩
  rw [← y182] at A182 st182
  have g_b182 : n0 ≤ b182 := y182.symm ▸ old_sz O0
  have sz_b182 : h0.size ≤ b182 := y182.symm ▸ K0.1
  have ne_a_b182 : a ≠ b182 := Nat.ne_of_lt (y182.symm ▸ E_a.lt)
  have ne_b176_b182 : b176 ≠ b182 := Nat.ne_of_lt (y182.symm ▸ V_b176.lt)
  have ne_b178_b182 : b178 ≠ b182 := Nat.ne_of_lt (y182.symm ▸ V_b178.lt)
  have ne_b180_b182 : b180 ≠ b182 := Nat.ne_of_lt (y182.symm ▸ V_b180.lt)
  have O0 := O0.ext E182
  have E_a := E_a.ext E182
  have F_leftOut_a := F_leftOut_a.ext E182
  have F_slots_a := F_slots_a.ext E182
  have F_published_a := F_published_a.ext E182
  have F_scores_a := F_scores_a.ext E182
  have F_shares_a := F_shares_a.ext E182
  have F_alpha_a := F_alpha_a.ext E182
  have F_keywords_a := F_keywords_a.ext E182
  have F_count_a := F_count_a.ext E182
  have F_size_a := F_size_a.ext E182
  have F_scored_a := F_scored_a.ext E182
  have F_ordered_a := F_ordered_a.ext E182
  have F_heap_a := F_heap_a.ext E182
  have K0 := K0.ext E182
  have V_b176 := V_b176.ext E182
  have V_b178 := V_b178.ext E182
  have V_b180 := V_b180.ext E182
  have V_b182 : Arv Z h182 b182 k182 .char (16 : Int32) [(.int (0 : Int32)), (.int (0 : Int32)), (.int (0 : Int32)), (.int (0 : Int32)), (.int (0 : Int32)), (.int (0 : Int32)), (.int (0 : Int32)), (.int (0 : Int32)), (.int (0 : Int32)), (.int (0 : Int32)), (.int (0 : Int32)), (.int (0 : Int32)), (.int (0 : Int32)), (.int (0 : Int32)), (.int (0 : Int32)), (.int (0 : Int32))] (.int (0 : Int32)) := (Arv.new A182 (by decide)).pad (pad_rep [] (.int (0 : Int32)) 16)
  refine go st182 ?_
  show Run p e below _ (T182.setTop (mkF m 40 #[.val (.ref a)] [(.ref b182), (.ref a)]))
  obtain ⟨T183, h183, X183, e183, W183, st183⟩ := putF X182 hx hZ hown (host := "") (Or.inl (wd hw 22 rfl)) Via.refl e182 F_shares_a E_a (Or.inl (wd hw 23 rfl)) (wd hw 1 rfl) (ty := (.array .char)) (by decide) rfl rfl (g := (mkF m 40 #[.val (.ref a)] [(.ref b182), (.ref a)])) rfl rfl (hb hby d_p15_m2_40)
  have O0 := O0.wr W183 g_a
  have E_a := E_a.wr W183
  have F_leftOut_a := F_leftOut_a.other W183 (Or.inr (slot_ne (Or.inl (wd hw 11 rfl)) (Or.inl (wd hw 23 rfl)) (by decide) (t := .double) (t' := (.array .char)) (by decide) (by decide)))
  have F_slots_a := F_slots_a.other W183 (Or.inr (slot_ne (Or.inl (wd hw 14 rfl)) (Or.inl (wd hw 23 rfl)) (by decide) (t := (.array .int)) (t' := (.array .char)) (by decide) (by decide)))
  have F_published_a := F_published_a.other W183 (Or.inr (slot_ne (Or.inl (wd hw 17 rfl)) (Or.inl (wd hw 23 rfl)) (by decide) (t := (.array .long)) (t' := (.array .char)) (by decide) (by decide)))
  have F_scores_a := F_scores_a.other W183 (Or.inr (slot_ne (Or.inl (wd hw 20 rfl)) (Or.inl (wd hw 23 rfl)) (by decide) (t := (.array .double)) (t' := (.array .char)) (by decide) (by decide)))
  have F_shares_a := F_shares_a.same W183
  have F_alpha_a := F_alpha_a.other W183 (Or.inr (slot_ne (Or.inl (wd hw 31 rfl)) (Or.inl (wd hw 23 rfl)) (by decide) (t := .double) (t' := (.array .char)) (by decide) (by decide)))
  have F_keywords_a := F_keywords_a.other W183 (Or.inr (slot_ne (Or.inl (wd hw 33 rfl)) (Or.inl (wd hw 23 rfl)) (by decide) (t := .int) (t' := (.array .char)) (by decide) (by decide)))
  have F_count_a := F_count_a.other W183 (Or.inr (slot_ne (Or.inl (wd hw 35 rfl)) (Or.inl (wd hw 23 rfl)) (by decide) (t := .int) (t' := (.array .char)) (by decide) (by decide)))
  have F_size_a := F_size_a.other W183 (Or.inr (slot_ne (Or.inl (wd hw 37 rfl)) (Or.inl (wd hw 23 rfl)) (by decide) (t := .int) (t' := (.array .char)) (by decide) (by decide)))
  have F_scored_a := F_scored_a.other W183 (Or.inr (slot_ne (Or.inl (wd hw 39 rfl)) (Or.inl (wd hw 23 rfl)) (by decide) (t := .long) (t' := (.array .char)) (by decide) (by decide)))
  have F_ordered_a := F_ordered_a.other W183 (Or.inr (slot_ne (Or.inl (wd hw 41 rfl)) (Or.inl (wd hw 23 rfl)) (by decide) (t := .boolean) (t' := (.array .char)) (by decide) (by decide)))
  have F_heap_a := F_heap_a.other W183 (Or.inr (slot_ne (Or.inl (wd hw 43 rfl)) (Or.inl (wd hw 23 rfl)) (by decide) (t := .boolean) (t' := (.array .char)) (by decide) (by decide)))
  have K0 := K0.wr W183 (Or.inl (by simp))
  have V_b176 := V_b176.other W183 (Ne.symm ne_a_b176)
  have V_b178 := V_b178.other W183 (Ne.symm ne_a_b178)
  have V_b180 := V_b180.other W183 (Ne.symm ne_a_b180)
  have V_b182 := V_b182.other W183 (Ne.symm ne_a_b182)
  have N183 := Fr.snoc X183 N181 g_a
  refine go st183 ?_
  show Run p e below _ (T183.setTop (mkF m 43 #[.val (.ref a)] []))
  exact endV X183 hx hlk hret (hb hby d_p15_m2_43) (by rw [e183]; exact ⟨b176, b178, b180, b182, k176, k178, k180, k182, rfl, N183, K0, g_b176, g_b178, g_b180, g_b182, ne_b176_b178, ne_b176_b180, ne_b176_b182, ne_b178_b180, ne_b178_b182, ne_b180_b182, E_a, F_leftOut_a, F_slots_a, F_published_a, F_scores_a, F_shares_a, F_alpha_a, F_keywords_a, F_count_a, F_size_a, F_scored_a, F_ordered_a, F_heap_a, V_b176, V_b178, V_b180, V_b182⟩) (by decide) (by decide)
theorem kc_1 : Jvm.Free.Fl.NoNaN64 (4607182418800017408 : UInt64) := by unfold Jvm.Free.Fl.NoNaN64; decide +kernel
theorem kc_2 : (4607182418800017408 : UInt64) = (FP.dadd (FP.dmul (4598175219545276416 : UInt64) (4607182418800017408 : UInt64)) (FP.dmul (FP.dsub (4607182418800017408 : UInt64) (4598175219545276416 : UInt64)) (4607182418800017408 : UInt64))) := by decide +kernel
theorem kc_3 : Jvm.Free.Fl.NoNaN64 (FP.dmul (4598175219545276416 : UInt64) (4607182418800017408 : UInt64)) := by unfold Jvm.Free.Fl.NoNaN64; decide +kernel
theorem kc_4 : Jvm.Free.Fl.NoNaN64 (FP.dsub (4607182418800017408 : UInt64) (4598175219545276416 : UInt64)) := by unfold Jvm.Free.Fl.NoNaN64; decide +kernel
theorem kc_5 : Jvm.Free.Fl.NoNaN64 (FP.dmul (FP.dsub (4607182418800017408 : UInt64) (4598175219545276416 : UInt64)) (4607182418800017408 : UInt64)) := by unfold Jvm.Free.Fl.NoNaN64; decide +kernel
theorem kc_6 : Jvm.Free.Fl.NoNaN64 (FP.dadd (FP.dmul (4598175219545276416 : UInt64) (4607182418800017408 : UInt64)) (FP.dmul (FP.dsub (4607182418800017408 : UInt64) (4598175219545276416 : UInt64)) (4607182418800017408 : UInt64))) := by unfold Jvm.Free.Fl.NoNaN64; decide +kernel
theorem kc_7 : Jvm.Free.Fl.NoNaN64 (4607182418800017408 : UInt64) := by unfold Jvm.Free.Fl.NoNaN64; decide +kernel
theorem kc_8 : (4604930618986332160 : UInt64) = (FP.dadd (FP.dmul (4598175219545276416 : UInt64) (0 : UInt64)) (FP.dmul (FP.dsub (4607182418800017408 : UInt64) (4598175219545276416 : UInt64)) (4607182418800017408 : UInt64))) := by decide +kernel
theorem kc_9 : Jvm.Free.Fl.NoNaN64 (FP.dmul (4598175219545276416 : UInt64) (0 : UInt64)) := by unfold Jvm.Free.Fl.NoNaN64; decide +kernel
theorem kc_10 : Jvm.Free.Fl.NoNaN64 (FP.dsub (4607182418800017408 : UInt64) (4598175219545276416 : UInt64)) := by unfold Jvm.Free.Fl.NoNaN64; decide +kernel
theorem kc_11 : Jvm.Free.Fl.NoNaN64 (FP.dmul (FP.dsub (4607182418800017408 : UInt64) (4598175219545276416 : UInt64)) (4607182418800017408 : UInt64)) := by unfold Jvm.Free.Fl.NoNaN64; decide +kernel
theorem kc_12 : Jvm.Free.Fl.NoNaN64 (FP.dadd (FP.dmul (4598175219545276416 : UInt64) (0 : UInt64)) (FP.dmul (FP.dsub (4607182418800017408 : UInt64) (4598175219545276416 : UInt64)) (4607182418800017408 : UInt64))) := by unfold Jvm.Free.Fl.NoNaN64; decide +kernel
theorem kc_13 : Jvm.Free.Fl.NoNaN64 (18442240474082181120 : UInt64) := by unfold Jvm.Free.Fl.NoNaN64; decide +kernel
theorem kc_14 : Jvm.Free.Fl.NoNaN64 (4604930618986332160 : UInt64) := by unfold Jvm.Free.Fl.NoNaN64; decide +kernel
theorem kc_15 : FP.dcmp (4607182418800017408 : UInt64) (4604930618986332160 : UInt64) = some .gt := by decide +kernel
theorem kc_16 : FP.dcmp (18442240474082181120 : UInt64) (4604930618986332160 : UInt64) = some .lt := by decide +kernel
theorem kc_17 : FP.dcmp (18442240474082181120 : UInt64) (0 : UInt64) = some .lt := by decide +kernel
theorem kc_18 : cmpValue (FP.dcmp (0 : UInt64) (0 : UInt64)) .l = (0 : Int32) := by decide +kernel
theorem kc_19 : cmpValue (FP.dcmp (9218868437227405312 : UInt64) (9218868437227405312 : UInt64)) .l = (0 : Int32) := by decide +kernel
theorem pd_12 : parseMethodDescriptor "()V" = some ⟨[], none⟩ := by decide +kernel
theorem pd_13 : parseMethodDescriptor "(DII)V" = some ⟨[.double, .int, .int], none⟩ := by decide +kernel
theorem pd_14 : parseMethodDescriptor "(IJDII)V" = some ⟨[.int, .long, .double, .int, .int], none⟩ := by decide +kernel
theorem pd_15 : parseMethodDescriptor "(DJ)Z" = some ⟨[.double, .long], some .boolean⟩ := by decide +kernel
theorem pd_16 : parseMethodDescriptor "()J" = some ⟨[], some .long⟩ := by decide +kernel
theorem pd_17 : parseMethodDescriptor "(I)D" = some ⟨[.int], some .double⟩ := by decide +kernel
theorem pn_4 : plainName "nearcast/engine/BestResetPinLaw" = true := by first | (simp [plainName, overriddenIn]; done) | decide +kernel
def Q_rmlaw (p0 p1 p2 : Int32) (l1 l2 l3 : Int64) (h0 : Heap) (n0 : Nat) (v : Option Value) (h : Heap) (L : List Loc) : Prop := v = some (.int 1) ∧ Fr n0 L
set_option maxRecDepth 65536 in
set_option maxHeartbeats 40000000 in
theorem rmlaw (l : Launch) (Z : State) (a0 : Array Value) (hw : ∀ d ∈ tables_1, d.before a0 Z = true) (ws : List Jvm.Cond) (p0 p1 p2 : Int32) (l1 l2 l3 : Int64) (h0 : Heap) (n0 : Nat) (O0 : Old Z n0 h0)  :
    Meets l x code maxLocals ret ws room_1 Z #[(.int p0), (.int p1), (.int p2), (.long l1), (.long l2), (.long l3)] h0 (Q_rmlaw p0 p1 p2 l1 l2 l3 h0 n0) 24 256 := by
  refine enter (Ls := #[.val (.int p0), .val (.int p1), .val (.int p2), .val (.long l1), .second, .val (.long l2), .second, .val (.long l3), .second, .unset, .unset, .unset, .unset, .unset, .unset, .unset, .unset, .unset, .unset, .unset, .unset, .unset, .unset, .unset]) (plainFor_of_name pn_4) (fun m => by first | (simp [entryFrame, mkF, argsToLocals, Value.category, maxLocals]; done) | rfl) ?_
  intro p e s m below meth c T0 hx hby hml hown hnm hret hlk hZ X0 e0
  have N0 := Fr.nil n0
  replace hown : s.vm.findClass "nearcast/engine/BestResetPinLaw" = some m.cls := hown
  show Run p e below _ (T0.setTop (mkF m 0 #[.val (.int p0), .val (.int p1), .val (.int p2), .val (.long l1), .second, .val (.long l2), .second, .val (.long l3), .second, .unset, .unset, .unset, .unset, .unset, .unset, .unset, .unset, .unset, .unset, .unset, .unset, .unset, .unset, .unset] []))
  obtain ⟨T184, h184, X184, e184, E184, A184, D184, -, st184⟩ := newO X0 hx hZ hown (wd hw 0 rfl) (wd hw 1 rfl) (wd hw 2 rfl) e0 (g := (mkF m 0 #[.val (.int p0), .val (.int p1), .val (.int p2), .val (.long l1), .second, .val (.long l2), .second, .val (.long l3), .second, .unset, .unset, .unset, .unset, .unset, .unset, .unset, .unset, .unset, .unset, .unset, .unset, .unset, .unset, .unset] [])) rfl (hb hby at_0) (by decide) (by decide)
  obtain ⟨b184, y184⟩ : ∃ z, z = h0.size := ⟨_, rfl⟩
  rw [← y184] at A184 D184 st184
  have g_b184 : n0 ≤ b184 := y184.symm ▸ old_sz O0
  have O0 := O0.ext E184
  have E_b184 := A184
  have F_leftOut_b184 : Fld Z h184 b184 "nearcast/engine/Best" "leftOut" "D" (.double (0 : UInt64)) := D184 (Or.inl (wd hw 11 rfl)) (ty := .double) (by decide)
  have F_slots_b184 : Fld Z h184 b184 "nearcast/engine/Best" "slots" "[I" .null := D184 (Or.inl (wd hw 14 rfl)) (ty := (.array .int)) (by decide)
  have F_published_b184 : Fld Z h184 b184 "nearcast/engine/Best" "published" "[J" .null := D184 (Or.inl (wd hw 17 rfl)) (ty := (.array .long)) (by decide)
  have F_scores_b184 : Fld Z h184 b184 "nearcast/engine/Best" "scores" "[D" .null := D184 (Or.inl (wd hw 20 rfl)) (ty := (.array .double)) (by decide)
  have F_shares_b184 : Fld Z h184 b184 "nearcast/engine/Best" "shares" "[C" .null := D184 (Or.inl (wd hw 23 rfl)) (ty := (.array .char)) (by decide)
  have F_alpha_b184 : Fld Z h184 b184 "nearcast/engine/Best" "alpha" "D" (.double (0 : UInt64)) := D184 (Or.inl (wd hw 31 rfl)) (ty := .double) (by decide)
  have F_keywords_b184 : Fld Z h184 b184 "nearcast/engine/Best" "keywords" "I" (.int (0 : Int32)) := D184 (Or.inl (wd hw 33 rfl)) (ty := .int) (by decide)
  have F_count_b184 : Fld Z h184 b184 "nearcast/engine/Best" "count" "I" (.int (0 : Int32)) := D184 (Or.inl (wd hw 35 rfl)) (ty := .int) (by decide)
  have F_size_b184 : Fld Z h184 b184 "nearcast/engine/Best" "size" "I" (.int (0 : Int32)) := D184 (Or.inl (wd hw 37 rfl)) (ty := .int) (by decide)
  have F_scored_b184 : Fld Z h184 b184 "nearcast/engine/Best" "scored" "J" (.long (0 : Int64)) := D184 (Or.inl (wd hw 39 rfl)) (ty := .long) (by decide)
  have F_ordered_b184 : Fld Z h184 b184 "nearcast/engine/Best" "ordered" "Z" (.int (0 : Int32)) := D184 (Or.inl (wd hw 41 rfl)) (ty := .boolean) (by decide)
  have F_heap_b184 : Fld Z h184 b184 "nearcast/engine/Best" "heap" "Z" (.int (0 : Int32)) := D184 (Or.inl (wd hw 43 rfl)) (ty := .boolean) (by decide)
  refine go st184 ?_
  show Run p e below _ (T184.setTop (mkF m 3 #[.val (.int p0), .val (.int p1), .val (.int p2), .val (.long l1), .second, .val (.long l2), .second, .val (.long l3), .second, .unset, .unset, .unset, .unset, .unset, .unset, .unset, .unset, .unset, .unset, .unset, .unset, .unset, .unset, .unset] [(.ref b184)]))
  refine go (fun _ => XS.dup X184.here hx rfl (hb hby at_3) rfl rfl) ?_
  show Run p e below _ (T184.setTop (mkF m 4 #[.val (.int p0), .val (.int p1), .val (.int p2), .val (.long l1), .second, .val (.long l2), .second, .val (.long l3), .second, .unset, .unset, .unset, .unset, .unset, .unset, .unset, .unset, .unset, .unset, .unset, .unset, .unset, .unset, .unset] [(.ref b184), (.ref b184)]))
  refine callSp X184 hx hZ rfl hown (wd hw 3 rfl) (wd hw 4 rfl) (wd hw 5 rfl) (wd hw 2 rfl) (by decide) e184 (a := b184) (argsL := []) (rest := [(.ref b184)]) (rm_init l Z a0 hw [] b184 h184 n0 O0 E_b184 F_leftOut_b184 F_slots_b184 F_published_b184 F_scores_b184 F_shares_b184 F_alpha_b184 F_keywords_b184 F_count_b184 F_size_b184 F_scored_b184 F_ordered_b184 F_heap_b184 g_b184) (W := 1) (by decide) (by decide) (by decide) (by decide) (by rw [hml]; rfl) (lenOf pd_12 rfl) rfl (Nat.le_of_eq rfl) (hb hby at_4) ?_
  intro v185 T185 L185 h185 X185 e185 q185
  obtain ⟨s1, s2, s3, s4, ks1, ks2, ks3, ks4, rfl, n185, K185, g_s1, g_s2, g_s3, g_s4, ne_s1_s2, ne_s1_s3, ne_s1_s4, ne_s2_s3, ne_s2_s4, ne_s3_s4, E_b184, F_leftOut_b184, F_slots_b184, F_published_b184, F_scores_b184, F_shares_b184, F_alpha_b184, F_keywords_b184, F_count_b184, F_size_b184, F_scored_b184, F_ordered_b184, F_heap_b184, V_s1, V_s2, V_s3, V_s4⟩ := q185
  have O0 := O0.keep K185 (allS g_b184 all0)
  have N185 := Fr.app N0 n185
  show Run p e below _ (T185.setTop (mkF m 7 #[.val (.int p0), .val (.int p1), .val (.int p2), .val (.long l1), .second, .val (.long l2), .second, .val (.long l3), .second, .unset, .unset, .unset, .unset, .unset, .unset, .unset, .unset, .unset, .unset, .unset, .unset, .unset, .unset, .unset] [(.ref b184)]))
  refine go (fun _ => XS.astore X185.here hx rfl (hb hby at_7) rfl rfl (l' := #[.val (.int p0), .val (.int p1), .val (.int p2), .val (.long l1), .second, .val (.long l2), .second, .val (.long l3), .second, .val (.ref b184), .unset, .unset, .unset, .unset, .unset, .unset, .unset, .unset, .unset, .unset, .unset, .unset, .unset, .unset]) rfl) ?_
  show Run p e below _ (T185.setTop (mkF m 9 #[.val (.int p0), .val (.int p1), .val (.int p2), .val (.long l1), .second, .val (.long l2), .second, .val (.long l3), .second, .val (.ref b184), .unset, .unset, .unset, .unset, .unset, .unset, .unset, .unset, .unset, .unset, .unset, .unset, .unset, .unset] []))
  refine go (fun _ => XS.aload X185.here hx rfl (hb hby at_9) rfl rfl) ?_
  show Run p e below _ (T185.setTop (mkF m 11 #[.val (.int p0), .val (.int p1), .val (.int p2), .val (.long l1), .second, .val (.long l2), .second, .val (.long l3), .second, .val (.ref b184), .unset, .unset, .unset, .unset, .unset, .unset, .unset, .unset, .unset, .unset, .unset, .unset, .unset, .unset] [(.ref b184)]))
  refine go (fun _ => X185.ldc2DoubleC hx hown (mvT hZ (wd hw 24 rfl)) (g := (mkF m 11 #[.val (.int p0), .val (.int p1), .val (.int p2), .val (.long l1), .second, .val (.long l2), .second, .val (.long l3), .second, .val (.ref b184), .unset, .unset, .unset, .unset, .unset, .unset, .unset, .unset, .unset, .unset, .unset, .unset, .unset, .unset] [(.ref b184)])) rfl (hb hby at_11) _) ?_
  show Run p e below _ (T185.setTop (mkF m 14 #[.val (.int p0), .val (.int p1), .val (.int p2), .val (.long l1), .second, .val (.long l2), .second, .val (.long l3), .second, .val (.ref b184), .unset, .unset, .unset, .unset, .unset, .unset, .unset, .unset, .unset, .unset, .unset, .unset, .unset, .unset] [(.double (4598175219545276416 : UInt64)), (.ref b184)]))
  refine go (fun _ => XS.iconst X185.here hx rfl (hb hby at_14)) ?_
  show Run p e below _ (T185.setTop (mkF m 15 #[.val (.int p0), .val (.int p1), .val (.int p2), .val (.long l1), .second, .val (.long l2), .second, .val (.long l3), .second, .val (.ref b184), .unset, .unset, .unset, .unset, .unset, .unset, .unset, .unset, .unset, .unset, .unset, .unset, .unset, .unset] [(.int (3 : Int32)), (.double (4598175219545276416 : UInt64)), (.ref b184)]))
  refine go (fun _ => XS.iconst X185.here hx rfl (hb hby at_15)) ?_
  show Run p e below _ (T185.setTop (mkF m 16 #[.val (.int p0), .val (.int p1), .val (.int p2), .val (.long l1), .second, .val (.long l2), .second, .val (.long l3), .second, .val (.ref b184), .unset, .unset, .unset, .unset, .unset, .unset, .unset, .unset, .unset, .unset, .unset, .unset, .unset, .unset] [(.int (1 : Int32)), (.int (3 : Int32)), (.double (4598175219545276416 : UInt64)), (.ref b184)]))
  refine callVi X185 hx hZ hown (wd hw 25 rfl) (wd hw 26 rfl) (notFace_of_selects (args := #[]) (mvT hZ (wd hw 28 rfl))) (wd hw 28 rfl) (wd hw 27 rfl) (wd hw 29 rfl) (wd hw 2 rfl) (by decide) e185 E_b184 (argsL := [(.double (4598175219545276416 : UInt64)), (.int (3 : Int32)), (.int (1 : Int32))]) (rest := []) (rm_rs l Z a0 hw [] b184 (18442240474082181120 : UInt64) (0 : UInt64) (0 : Int32) (0 : Int32) (0 : Int32) (0 : Int64) (0 : Int32) (0 : Int32) s1 s2 s3 s4 (4598175219545276416 : UInt64) (3 : Int32) (1 : Int32) h185 n0 O0 E_b184 F_leftOut_b184 F_slots_b184 F_published_b184 F_scores_b184 F_shares_b184 F_alpha_b184 F_keywords_b184 F_count_b184 F_size_b184 F_scored_b184 F_ordered_b184 F_heap_b184 g_b184 ) (W := 0) (by decide) (by decide) (by decide) (by decide) (by rw [hml]; rfl) (lenOf pd_13 rfl) rfl (Nat.le_of_eq rfl) (hb hby at_16) ?_
  intro v186 T186 L186 h186 X186 e186 q186
  have ne_s1_b184 : s1 ≠ b184 := Ne.symm (Exa.neArv E_b184 V_s1 (wd hw 1 rfl))
  have ne_s2_b184 : s2 ≠ b184 := Ne.symm (Exa.neArv E_b184 V_s2 (wd hw 1 rfl))
  have ne_s3_b184 : s3 ≠ b184 := Ne.symm (Exa.neArv E_b184 V_s3 (wd hw 1 rfl))
  have ne_s4_b184 : s4 ≠ b184 := Ne.symm (Exa.neArv E_b184 V_s4 (wd hw 1 rfl))
  obtain ⟨rv, n186, K186, E_b184, F_leftOut_b184, F_slots_b184, F_published_b184, F_scores_b184, F_shares_b184, F_alpha_b184, F_keywords_b184, F_count_b184, F_size_b184, F_scored_b184, F_ordered_b184, F_heap_b184⟩ := q186
  subst rv
  have O0 := O0.keep K186 (allS g_b184 all0)
  have V_s1 := V_s1.keep K186 (ninS ne_s1_b184 nin0)
  have V_s2 := V_s2.keep K186 (ninS ne_s2_b184 nin0)
  have V_s3 := V_s3.keep K186 (ninS ne_s3_b184 nin0)
  have V_s4 := V_s4.keep K186 (ninS ne_s4_b184 nin0)
  have N186 := Fr.app N185 n186
  show Run p e below _ (T186.setTop (mkF m 19 #[.val (.int p0), .val (.int p1), .val (.int p2), .val (.long l1), .second, .val (.long l2), .second, .val (.long l3), .second, .val (.ref b184), .unset, .unset, .unset, .unset, .unset, .unset, .unset, .unset, .unset, .unset, .unset, .unset, .unset, .unset] []))
  refine go (fun _ => XS.aload X186.here hx rfl (hb hby at_19) rfl rfl) ?_
  show Run p e below _ (T186.setTop (mkF m 21 #[.val (.int p0), .val (.int p1), .val (.int p2), .val (.long l1), .second, .val (.long l2), .second, .val (.long l3), .second, .val (.ref b184), .unset, .unset, .unset, .unset, .unset, .unset, .unset, .unset, .unset, .unset, .unset, .unset, .unset, .unset] [(.ref b184)]))
  refine go (fun _ => XS.iconst X186.here hx rfl (hb hby at_21)) ?_
  show Run p e below _ (T186.setTop (mkF m 22 #[.val (.int p0), .val (.int p1), .val (.int p2), .val (.long l1), .second, .val (.long l2), .second, .val (.long l3), .second, .val (.ref b184), .unset, .unset, .unset, .unset, .unset, .unset, .unset, .unset, .unset, .unset, .unset, .unset, .unset, .unset] [(.int (1 : Int32)), (.ref b184)]))
  refine go (fun _ => X186.ldc2J hx hown (mvT hZ (wd hw 44 rfl)) rfl (hb hby at_22)) ?_
  show Run p e below _ (T186.setTop (mkF m 25 #[.val (.int p0), .val (.int p1), .val (.int p2), .val (.long l1), .second, .val (.long l2), .second, .val (.long l3), .second, .val (.ref b184), .unset, .unset, .unset, .unset, .unset, .unset, .unset, .unset, .unset, .unset, .unset, .unset, .unset, .unset] [(.long (100 : Int64)), (.int (1 : Int32)), (.ref b184)]))
  refine go (fun _ => XS.dconst1 X186.here hx rfl (hb hby at_25) (v := (4607182418800017408 : UInt64)) rfl) ?_
  show Run p e below _ (T186.setTop (mkF m 26 #[.val (.int p0), .val (.int p1), .val (.int p2), .val (.long l1), .second, .val (.long l2), .second, .val (.long l3), .second, .val (.ref b184), .unset, .unset, .unset, .unset, .unset, .unset, .unset, .unset, .unset, .unset, .unset, .unset, .unset, .unset] [(.double (4607182418800017408 : UInt64)), (.long (100 : Int64)), (.int (1 : Int32)), (.ref b184)]))
  refine go (fun _ => XS.iconst X186.here hx rfl (hb hby at_26)) ?_
  show Run p e below _ (T186.setTop (mkF m 27 #[.val (.int p0), .val (.int p1), .val (.int p2), .val (.long l1), .second, .val (.long l2), .second, .val (.long l3), .second, .val (.ref b184), .unset, .unset, .unset, .unset, .unset, .unset, .unset, .unset, .unset, .unset, .unset, .unset, .unset, .unset] [(.int (1 : Int32)), (.double (4607182418800017408 : UInt64)), (.long (100 : Int64)), (.int (1 : Int32)), (.ref b184)]))
  refine go (fun _ => XS.iconst X186.here hx rfl (hb hby at_27)) ?_
  show Run p e below _ (T186.setTop (mkF m 28 #[.val (.int p0), .val (.int p1), .val (.int p2), .val (.long l1), .second, .val (.long l2), .second, .val (.long l3), .second, .val (.ref b184), .unset, .unset, .unset, .unset, .unset, .unset, .unset, .unset, .unset, .unset, .unset, .unset, .unset, .unset] [(.int (1 : Int32)), (.int (1 : Int32)), (.double (4607182418800017408 : UInt64)), (.long (100 : Int64)), (.int (1 : Int32)), (.ref b184)]))
  refine callVi X186 hx hZ hown (wd hw 45 rfl) (wd hw 46 rfl) (notFace_of_selects (args := #[]) (mvT hZ (wd hw 48 rfl))) (wd hw 48 rfl) (wd hw 47 rfl) (wd hw 49 rfl) (wd hw 2 rfl) (by decide) e186 E_b184 (argsL := [(.int (1 : Int32)), (.long (100 : Int64)), (.double (4607182418800017408 : UInt64)), (.int (1 : Int32)), (.int (1 : Int32))]) (rest := []) (rm_of10 l Z a0 hw [] b184 (18442240474082181120 : UInt64) (4598175219545276416 : UInt64) (3 : Int32) (1 : Int32) (0 : Int64) (0 : Int32) s1 s2 s3 s4 ks1 ks2 ks3 ks4 (0 : Int32) (0 : Int32) (0 : Int64) (0 : Int64) (0 : UInt64) (0 : UInt64) (0 : Int32) (0 : Int32) (1 : Int32) (100 : Int64) (4607182418800017408 : UInt64) (4607182418800017408 : UInt64) (4607182418800017408 : UInt64) (1 : Int32) (1 : Int32) h186 n0 O0 E_b184 F_leftOut_b184 F_slots_b184 F_published_b184 F_scores_b184 F_shares_b184 F_alpha_b184 F_keywords_b184 F_count_b184 F_size_b184 F_scored_b184 F_ordered_b184 F_heap_b184 V_s1 V_s2 V_s3 V_s4 ne_s1_s2 ne_s1_s3 ne_s1_s4 ne_s2_s3 ne_s2_s4 ne_s3_s4 g_s1 g_s2 g_s3 g_s4 g_b184 (by decide) kc_1 OwnB.j11.symm kc_2 kc_3 kc_4 kc_5 kc_6) (W := 0) (by decide) (by decide) (by decide) (by decide) (by rw [hml]; rfl) (lenOf pd_14 rfl) rfl (Nat.le_of_eq rfl) (hb hby at_28) ?_
  intro v187 T187 L187 h187 X187 e187 q187
  obtain ⟨rv, n187, K187, E_b184, F_leftOut_b184, F_slots_b184, F_published_b184, F_scores_b184, F_shares_b184, F_alpha_b184, F_keywords_b184, F_count_b184, F_size_b184, F_scored_b184, F_ordered_b184, F_heap_b184, V_s1, V_s2, V_s3, V_s4⟩ := q187
  subst rv
  have O0 := O0.keep K187 (allS g_b184 (allS g_s1 (allS g_s2 (allS g_s3 (allS g_s4 all0)))))
  have N187 := Fr.app N186 n187
  show Run p e below _ (T187.setTop (mkF m 31 #[.val (.int p0), .val (.int p1), .val (.int p2), .val (.long l1), .second, .val (.long l2), .second, .val (.long l3), .second, .val (.ref b184), .unset, .unset, .unset, .unset, .unset, .unset, .unset, .unset, .unset, .unset, .unset, .unset, .unset, .unset] []))
  refine go (fun _ => XS.aload X187.here hx rfl (hb hby at_31) rfl rfl) ?_
  show Run p e below _ (T187.setTop (mkF m 33 #[.val (.int p0), .val (.int p1), .val (.int p2), .val (.long l1), .second, .val (.long l2), .second, .val (.long l3), .second, .val (.ref b184), .unset, .unset, .unset, .unset, .unset, .unset, .unset, .unset, .unset, .unset, .unset, .unset, .unset, .unset] [(.ref b184)]))
  refine go (fun _ => XS.iconst X187.here hx rfl (hb hby at_33)) ?_
  show Run p e below _ (T187.setTop (mkF m 34 #[.val (.int p0), .val (.int p1), .val (.int p2), .val (.long l1), .second, .val (.long l2), .second, .val (.long l3), .second, .val (.ref b184), .unset, .unset, .unset, .unset, .unset, .unset, .unset, .unset, .unset, .unset, .unset, .unset, .unset, .unset] [(.int (2 : Int32)), (.ref b184)]))
  refine go (fun _ => X187.ldc2J hx hown (mvT hZ (wd hw 68 rfl)) rfl (hb hby at_34)) ?_
  show Run p e below _ (T187.setTop (mkF m 37 #[.val (.int p0), .val (.int p1), .val (.int p2), .val (.long l1), .second, .val (.long l2), .second, .val (.long l3), .second, .val (.ref b184), .unset, .unset, .unset, .unset, .unset, .unset, .unset, .unset, .unset, .unset, .unset, .unset, .unset, .unset] [(.long (200 : Int64)), (.int (2 : Int32)), (.ref b184)]))
  refine go (fun _ => XS.dconst0 X187.here hx rfl (hb hby at_37) (v := (0 : UInt64)) rfl) ?_
  show Run p e below _ (T187.setTop (mkF m 38 #[.val (.int p0), .val (.int p1), .val (.int p2), .val (.long l1), .second, .val (.long l2), .second, .val (.long l3), .second, .val (.ref b184), .unset, .unset, .unset, .unset, .unset, .unset, .unset, .unset, .unset, .unset, .unset, .unset, .unset, .unset] [(.double (0 : UInt64)), (.long (200 : Int64)), (.int (2 : Int32)), (.ref b184)]))
  refine go (fun _ => XS.iconst X187.here hx rfl (hb hby at_38)) ?_
  show Run p e below _ (T187.setTop (mkF m 39 #[.val (.int p0), .val (.int p1), .val (.int p2), .val (.long l1), .second, .val (.long l2), .second, .val (.long l3), .second, .val (.ref b184), .unset, .unset, .unset, .unset, .unset, .unset, .unset, .unset, .unset, .unset, .unset, .unset, .unset, .unset] [(.int (1 : Int32)), (.double (0 : UInt64)), (.long (200 : Int64)), (.int (2 : Int32)), (.ref b184)]))
  refine go (fun _ => XS.iconst X187.here hx rfl (hb hby at_39)) ?_
  show Run p e below _ (T187.setTop (mkF m 40 #[.val (.int p0), .val (.int p1), .val (.int p2), .val (.long l1), .second, .val (.long l2), .second, .val (.long l3), .second, .val (.ref b184), .unset, .unset, .unset, .unset, .unset, .unset, .unset, .unset, .unset, .unset, .unset, .unset, .unset, .unset] [(.int (1 : Int32)), (.int (1 : Int32)), (.double (0 : UInt64)), (.long (200 : Int64)), (.int (2 : Int32)), (.ref b184)]))
  refine callVi X187 hx hZ hown (wd hw 45 rfl) (wd hw 46 rfl) (notFace_of_selects (args := #[]) (mvT hZ (wd hw 48 rfl))) (wd hw 48 rfl) (wd hw 47 rfl) (wd hw 49 rfl) (wd hw 2 rfl) (by decide) e187 E_b184 (argsL := [(.int (2 : Int32)), (.long (200 : Int64)), (.double (0 : UInt64)), (.int (1 : Int32)), (.int (1 : Int32))]) (rest := []) (rm_ofB l Z a0 hw [] b184 (18442240474082181120 : UInt64) (4598175219545276416 : UInt64) (3 : Int32) ((0 : Int64) + (1 : Int64)) s1 s2 s3 s4 ks1 ks2 ks3 ks4 (1 : Int32) (0 : Int32) (100 : Int64) (0 : Int64) (4607182418800017408 : UInt64) (0 : UInt64) (nar .char (shv (1 : Int32) (1 : Int32))) (0 : Int32) (2 : Int32) (200 : Int64) (0 : UInt64) (4607182418800017408 : UInt64) (4604930618986332160 : UInt64) (1 : Int32) (1 : Int32) h187 n0 O0 E_b184 F_leftOut_b184 F_slots_b184 F_published_b184 F_scores_b184 F_shares_b184 F_alpha_b184 F_keywords_b184 F_count_b184 F_size_b184 F_scored_b184 F_ordered_b184 F_heap_b184 V_s1 V_s2 V_s3 V_s4 ne_s1_s2 ne_s1_s3 ne_s1_s4 ne_s2_s3 ne_s2_s4 ne_s3_s4 g_s1 g_s2 g_s3 g_s4 g_b184 kc_15 kc_13 kc_14 kc_16 kc_7 OwnB.j11.symm kc_8 kc_9 kc_10 kc_11 kc_12) (W := 0) (by decide) (by decide) (by decide) (by decide) (by rw [hml]; rfl) (lenOf pd_14 rfl) rfl (Nat.le_of_eq rfl) (hb hby at_40) ?_
  intro v188 T188 L188 h188 X188 e188 q188
  obtain ⟨rv, n188, K188, E_b184, F_leftOut_b184, F_slots_b184, F_published_b184, F_scores_b184, F_shares_b184, F_alpha_b184, F_keywords_b184, F_count_b184, F_size_b184, F_scored_b184, F_ordered_b184, F_heap_b184⟩ := q188
  subst rv
  have O0 := O0.keep K188 (allS g_b184 all0)
  have V_s1 := V_s1.keep K188 (ninS ne_s1_b184 nin0)
  have V_s2 := V_s2.keep K188 (ninS ne_s2_b184 nin0)
  have V_s3 := V_s3.keep K188 (ninS ne_s3_b184 nin0)
  have V_s4 := V_s4.keep K188 (ninS ne_s4_b184 nin0)
  have N188 := Fr.app N187 n188
  show Run p e below _ (T188.setTop (mkF m 43 #[.val (.int p0), .val (.int p1), .val (.int p2), .val (.long l1), .second, .val (.long l2), .second, .val (.long l3), .second, .val (.ref b184), .unset, .unset, .unset, .unset, .unset, .unset, .unset, .unset, .unset, .unset, .unset, .unset, .unset, .unset] []))
  refine go (fun _ => XS.aload X188.here hx rfl (hb hby at_43) rfl rfl) ?_
  show Run p e below _ (T188.setTop (mkF m 45 #[.val (.int p0), .val (.int p1), .val (.int p2), .val (.long l1), .second, .val (.long l2), .second, .val (.long l3), .second, .val (.ref b184), .unset, .unset, .unset, .unset, .unset, .unset, .unset, .unset, .unset, .unset, .unset, .unset, .unset, .unset] [(.ref b184)]))
  refine callVi X188 hx hZ hown (wd hw 88 rfl) (wd hw 89 rfl) (notFace_of_selects (args := #[]) (mvT hZ (wd hw 91 rfl))) (wd hw 91 rfl) (wd hw 90 rfl) (wd hw 92 rfl) (wd hw 2 rfl) (by decide) e188 E_b184 (argsL := []) (rest := []) (rm_o1 l Z a0 hw [] b184 (4604930618986332160 : UInt64) (4598175219545276416 : UInt64) (3 : Int32) (1 : Int32) (((0 : Int64) + (1 : Int64)) + (1 : Int64)) s1 s2 s3 s4 h188 n0 O0 E_b184 F_leftOut_b184 F_slots_b184 F_published_b184 F_scores_b184 F_shares_b184 F_alpha_b184 F_keywords_b184 F_count_b184 F_size_b184 F_scored_b184 F_ordered_b184 F_heap_b184 g_b184 ) (W := 0) (by decide) (by decide) (by decide) (by decide) (by rw [hml]; rfl) (lenOf pd_12 rfl) rfl (Nat.le_of_eq rfl) (hb hby at_45) ?_
  intro v189 T189 L189 h189 X189 e189 q189
  obtain ⟨rv, n189, K189, E_b184, F_leftOut_b184, F_slots_b184, F_published_b184, F_scores_b184, F_shares_b184, F_alpha_b184, F_keywords_b184, F_count_b184, F_size_b184, F_scored_b184, F_ordered_b184, F_heap_b184⟩ := q189
  subst rv
  have O0 := O0.keep K189 (allS g_b184 all0)
  have V_s1 := V_s1.keep K189 (ninS ne_s1_b184 nin0)
  have V_s2 := V_s2.keep K189 (ninS ne_s2_b184 nin0)
  have V_s3 := V_s3.keep K189 (ninS ne_s3_b184 nin0)
  have V_s4 := V_s4.keep K189 (ninS ne_s4_b184 nin0)
  have N189 := Fr.app N188 n189
  show Run p e below _ (T189.setTop (mkF m 48 #[.val (.int p0), .val (.int p1), .val (.int p2), .val (.long l1), .second, .val (.long l2), .second, .val (.long l3), .second, .val (.ref b184), .unset, .unset, .unset, .unset, .unset, .unset, .unset, .unset, .unset, .unset, .unset, .unset, .unset, .unset] []))
  refine go (fun _ => XS.iloadN X189.here hx rfl (hb hby at_48) rfl) ?_
  show Run p e below _ (T189.setTop (mkF m 49 #[.val (.int p0), .val (.int p1), .val (.int p2), .val (.long l1), .second, .val (.long l2), .second, .val (.long l3), .second, .val (.ref b184), .unset, .unset, .unset, .unset, .unset, .unset, .unset, .unset, .unset, .unset, .unset, .unset, .unset, .unset] [(.int p1)]))
  refine go (fun _ => XS.iconst X189.here hx rfl (hb hby at_49)) ?_
  show Run p e below _ (T189.setTop (mkF m 50 #[.val (.int p0), .val (.int p1), .val (.int p2), .val (.long l1), .second, .val (.long l2), .second, .val (.long l3), .second, .val (.ref b184), .unset, .unset, .unset, .unset, .unset, .unset, .unset, .unset, .unset, .unset, .unset, .unset, .unset, .unset] [(.int (1 : Int32)), (.int p1)]))
  refine go (fun _ => XS.iand X189.here hx rfl (hb hby at_50) rfl) ?_
  show Run p e below _ (T189.setTop (mkF m 51 #[.val (.int p0), .val (.int p1), .val (.int p2), .val (.long l1), .second, .val (.long l2), .second, .val (.long l3), .second, .val (.ref b184), .unset, .unset, .unset, .unset, .unset, .unset, .unset, .unset, .unset, .unset, .unset, .unset, .unset, .unset] [(.int (p1 &&& (1 : Int32)))]))
  by_cases c190 : (p1 &&& (1 : Int32)) = 0
  · skip
    refine go (fun _ => XS.ifYes X189.here hx rfl (pc0 := 51) (pc' := 58) rfl (hb hby at_51) rfl ((if0 _ _).trans (teq c190).1) (by decide) (by decide)) ?_
    show Run p e below _ (T189.setTop (mkF m 58 #[.val (.int p0), .val (.int p1), .val (.int p2), .val (.long l1), .second, .val (.long l2), .second, .val (.long l3), .second, .val (.ref b184), .unset, .unset, .unset, .unset, .unset, .unset, .unset, .unset, .unset, .unset, .unset, .unset, .unset, .unset] []))
    refine go (fun _ => XS.iconst X189.here hx rfl (hb hby at_58)) ?_
    show Run p e below _ (T189.setTop (mkF m 59 #[.val (.int p0), .val (.int p1), .val (.int p2), .val (.long l1), .second, .val (.long l2), .second, .val (.long l3), .second, .val (.ref b184), .unset, .unset, .unset, .unset, .unset, .unset, .unset, .unset, .unset, .unset, .unset, .unset, .unset, .unset] [(.int (0 : Int32))]))
    refine go (fun _ => XS.istore X189.here hx rfl (hb hby at_59) rfl (l' := #[.val (.int p0), .val (.int p1), .val (.int p2), .val (.long l1), .second, .val (.long l2), .second, .val (.long l3), .second, .val (.ref b184), .val (.int (0 : Int32)), .unset, .unset, .unset, .unset, .unset, .unset, .unset, .unset, .unset, .unset, .unset, .unset, .unset]) rfl) ?_
    show Run p e below _ (T189.setTop (mkF m 61 #[.val (.int p0), .val (.int p1), .val (.int p2), .val (.long l1), .second, .val (.long l2), .second, .val (.long l3), .second, .val (.ref b184), .val (.int (0 : Int32)), .unset, .unset, .unset, .unset, .unset, .unset, .unset, .unset, .unset, .unset, .unset, .unset, .unset] []))
    refine go (fun _ => XS.iload X189.here hx rfl (hb hby at_61) rfl) ?_
    show Run p e below _ (T189.setTop (mkF m 63 #[.val (.int p0), .val (.int p1), .val (.int p2), .val (.long l1), .second, .val (.long l2), .second, .val (.long l3), .second, .val (.ref b184), .val (.int (0 : Int32)), .unset, .unset, .unset, .unset, .unset, .unset, .unset, .unset, .unset, .unset, .unset, .unset, .unset] [(.int (0 : Int32))]))
    refine go (fun _ => XS.ifYes X189.here hx rfl (pc0 := 63) (pc' := 70) rfl (hb hby at_63) rfl ((if0 _ _).trans (teq (by decide : (0 : Int32) = 0)).1) (by decide) (by decide)) ?_
    show Run p e below _ (T189.setTop (mkF m 70 #[.val (.int p0), .val (.int p1), .val (.int p2), .val (.long l1), .second, .val (.long l2), .second, .val (.long l3), .second, .val (.ref b184), .val (.int (0 : Int32)), .unset, .unset, .unset, .unset, .unset, .unset, .unset, .unset, .unset, .unset, .unset, .unset, .unset] []))
    refine go (fun _ => XS.iconst X189.here hx rfl (hb hby at_70)) ?_
    show Run p e below _ (T189.setTop (mkF m 71 #[.val (.int p0), .val (.int p1), .val (.int p2), .val (.long l1), .second, .val (.long l2), .second, .val (.long l3), .second, .val (.ref b184), .val (.int (0 : Int32)), .unset, .unset, .unset, .unset, .unset, .unset, .unset, .unset, .unset, .unset, .unset, .unset, .unset] [(.int (1 : Int32))]))
    refine go (fun _ => XS.istore X189.here hx rfl (hb hby at_71) rfl (l' := #[.val (.int p0), .val (.int p1), .val (.int p2), .val (.long l1), .second, .val (.long l2), .second, .val (.long l3), .second, .val (.ref b184), .val (.int (0 : Int32)), .val (.int (1 : Int32)), .unset, .unset, .unset, .unset, .unset, .unset, .unset, .unset, .unset, .unset, .unset, .unset]) rfl) ?_
    show Run p e below _ (T189.setTop (mkF m 73 #[.val (.int p0), .val (.int p1), .val (.int p2), .val (.long l1), .second, .val (.long l2), .second, .val (.long l3), .second, .val (.ref b184), .val (.int (0 : Int32)), .val (.int (1 : Int32)), .unset, .unset, .unset, .unset, .unset, .unset, .unset, .unset, .unset, .unset, .unset, .unset] []))
    refine go (fun _ => XS.iloadN X189.here hx rfl (hb hby at_73) rfl) ?_
    show Run p e below _ (T189.setTop (mkF m 74 #[.val (.int p0), .val (.int p1), .val (.int p2), .val (.long l1), .second, .val (.long l2), .second, .val (.long l3), .second, .val (.ref b184), .val (.int (0 : Int32)), .val (.int (1 : Int32)), .unset, .unset, .unset, .unset, .unset, .unset, .unset, .unset, .unset, .unset, .unset, .unset] [(.int p0)]))
    refine go (fun _ => XS.sipush X189.here hx rfl (hb hby at_74)) ?_
    show Run p e below _ (T189.setTop (mkF m 77 #[.val (.int p0), .val (.int p1), .val (.int p2), .val (.long l1), .second, .val (.long l2), .second, .val (.long l3), .second, .val (.ref b184), .val (.int (0 : Int32)), .val (.int (1 : Int32)), .unset, .unset, .unset, .unset, .unset, .unset, .unset, .unset, .unset, .unset, .unset, .unset] [(.int (1023 : Int32)), (.int p0)]))
    refine go (fun _ => XS.iand X189.here hx rfl (hb hby at_77) rfl) ?_
    show Run p e below _ (T189.setTop (mkF m 78 #[.val (.int p0), .val (.int p1), .val (.int p2), .val (.long l1), .second, .val (.long l2), .second, .val (.long l3), .second, .val (.ref b184), .val (.int (0 : Int32)), .val (.int (1 : Int32)), .unset, .unset, .unset, .unset, .unset, .unset, .unset, .unset, .unset, .unset, .unset, .unset] [(.int (p0 &&& (1023 : Int32)))]))
    refine go (fun _ => XS.iconst X189.here hx rfl (hb hby at_78)) ?_
    show Run p e below _ (T189.setTop (mkF m 79 #[.val (.int p0), .val (.int p1), .val (.int p2), .val (.long l1), .second, .val (.long l2), .second, .val (.long l3), .second, .val (.ref b184), .val (.int (0 : Int32)), .val (.int (1 : Int32)), .unset, .unset, .unset, .unset, .unset, .unset, .unset, .unset, .unset, .unset, .unset, .unset] [(.int (1 : Int32)), (.int (p0 &&& (1023 : Int32)))]))
    refine go (fun _ => XS.iadd X189.here hx rfl (hb hby at_79) rfl) ?_
    show Run p e below _ (T189.setTop (mkF m 80 #[.val (.int p0), .val (.int p1), .val (.int p2), .val (.long l1), .second, .val (.long l2), .second, .val (.long l3), .second, .val (.ref b184), .val (.int (0 : Int32)), .val (.int (1 : Int32)), .unset, .unset, .unset, .unset, .unset, .unset, .unset, .unset, .unset, .unset, .unset, .unset] [(.int ((p0 &&& (1023 : Int32)) + (1 : Int32)))]))
    refine go (fun _ => XS.i2dS X189.here hx rfl (hb hby at_80) rfl (i2d_w ((p0 &&& (1023 : Int32)) + (1 : Int32)))) ?_
    show Run p e below _ (T189.setTop (mkF m 81 #[.val (.int p0), .val (.int p1), .val (.int p2), .val (.long l1), .second, .val (.long l2), .second, .val (.long l3), .second, .val (.ref b184), .val (.int (0 : Int32)), .val (.int (1 : Int32)), .unset, .unset, .unset, .unset, .unset, .unset, .unset, .unset, .unset, .unset, .unset, .unset] [(.double (FP.l2d ((p0 &&& (1023 : Int32)) + (1 : Int32)).toInt64))]))
    refine go (fun _ => X189.ldc2DoubleC hx hown (mvT hZ (wd hw 93 rfl)) (g := (mkF m 81 #[.val (.int p0), .val (.int p1), .val (.int p2), .val (.long l1), .second, .val (.long l2), .second, .val (.long l3), .second, .val (.ref b184), .val (.int (0 : Int32)), .val (.int (1 : Int32)), .unset, .unset, .unset, .unset, .unset, .unset, .unset, .unset, .unset, .unset, .unset, .unset] [(.double (FP.l2d ((p0 &&& (1023 : Int32)) + (1 : Int32)).toInt64))])) rfl (hb hby at_81) _) ?_
    show Run p e below _ (T189.setTop (mkF m 84 #[.val (.int p0), .val (.int p1), .val (.int p2), .val (.long l1), .second, .val (.long l2), .second, .val (.long l3), .second, .val (.ref b184), .val (.int (0 : Int32)), .val (.int (1 : Int32)), .unset, .unset, .unset, .unset, .unset, .unset, .unset, .unset, .unset, .unset, .unset, .unset] [(.double (4652222813120233472 : UInt64)), (.double (FP.l2d ((p0 &&& (1023 : Int32)) + (1 : Int32)).toInt64))]))
    obtain ⟨AL, hAL⟩ : ∃ z, z = (FP.ddiv (FP.l2d ((p0 &&& (1023 : Int32)) + (1 : Int32)).toInt64) (4652222813120233472 : UInt64)) := ⟨_, rfl⟩
    have FA : OwnB.Fa AL := hAL ▸ OwnB.al_eq p0
    have pA : 0 < AL := UInt64.lt_trans FA.2.2.2.2.2.2.1 FA.2.2.2.2.2.2.2
    refine go (fun _ => XS.ddivS X189.here hx rfl (hb hby at_84) rfl (hAL ▸ (OwnB.fa_nn FA)) hAL.symm) ?_
    show Run p e below _ (T189.setTop (mkF m 85 #[.val (.int p0), .val (.int p1), .val (.int p2), .val (.long l1), .second, .val (.long l2), .second, .val (.long l3), .second, .val (.ref b184), .val (.int (0 : Int32)), .val (.int (1 : Int32)), .unset, .unset, .unset, .unset, .unset, .unset, .unset, .unset, .unset, .unset, .unset, .unset] [(.double AL)]))
    refine go (fun _ => XS.dstore X189.here hx rfl (hb hby at_85) rfl (l' := #[.val (.int p0), .val (.int p1), .val (.int p2), .val (.long l1), .second, .val (.long l2), .second, .val (.long l3), .second, .val (.ref b184), .val (.int (0 : Int32)), .val (.int (1 : Int32)), .val (.double AL), .second, .unset, .unset, .unset, .unset, .unset, .unset, .unset, .unset, .unset, .unset]) rfl) ?_
    show Run p e below _ (T189.setTop (mkF m 87 #[.val (.int p0), .val (.int p1), .val (.int p2), .val (.long l1), .second, .val (.long l2), .second, .val (.long l3), .second, .val (.ref b184), .val (.int (0 : Int32)), .val (.int (1 : Int32)), .val (.double AL), .second, .unset, .unset, .unset, .unset, .unset, .unset, .unset, .unset, .unset, .unset] []))
    refine go (fun _ => XS.aload X189.here hx rfl (hb hby at_87) rfl rfl) ?_
    show Run p e below _ (T189.setTop (mkF m 89 #[.val (.int p0), .val (.int p1), .val (.int p2), .val (.long l1), .second, .val (.long l2), .second, .val (.long l3), .second, .val (.ref b184), .val (.int (0 : Int32)), .val (.int (1 : Int32)), .val (.double AL), .second, .unset, .unset, .unset, .unset, .unset, .unset, .unset, .unset, .unset, .unset] [(.ref b184)]))
    refine go (fun _ => XS.dload X189.here hx rfl (hb hby at_89) rfl) ?_
    show Run p e below _ (T189.setTop (mkF m 91 #[.val (.int p0), .val (.int p1), .val (.int p2), .val (.long l1), .second, .val (.long l2), .second, .val (.long l3), .second, .val (.ref b184), .val (.int (0 : Int32)), .val (.int (1 : Int32)), .val (.double AL), .second, .unset, .unset, .unset, .unset, .unset, .unset, .unset, .unset, .unset, .unset] [(.double AL), (.ref b184)]))
    refine go (fun _ => XS.iloadN X189.here hx rfl (hb hby at_91) rfl) ?_
    show Run p e below _ (T189.setTop (mkF m 92 #[.val (.int p0), .val (.int p1), .val (.int p2), .val (.long l1), .second, .val (.long l2), .second, .val (.long l3), .second, .val (.ref b184), .val (.int (0 : Int32)), .val (.int (1 : Int32)), .val (.double AL), .second, .unset, .unset, .unset, .unset, .unset, .unset, .unset, .unset, .unset, .unset] [(.int p2), (.double AL), (.ref b184)]))
    refine go (fun _ => XS.iload X189.here hx rfl (hb hby at_92) rfl) ?_
    show Run p e below _ (T189.setTop (mkF m 94 #[.val (.int p0), .val (.int p1), .val (.int p2), .val (.long l1), .second, .val (.long l2), .second, .val (.long l3), .second, .val (.ref b184), .val (.int (0 : Int32)), .val (.int (1 : Int32)), .val (.double AL), .second, .unset, .unset, .unset, .unset, .unset, .unset, .unset, .unset, .unset, .unset] [(.int (1 : Int32)), (.int p2), (.double AL), (.ref b184)]))
    refine callVi X189 hx hZ hown (wd hw 25 rfl) (wd hw 26 rfl) (notFace_of_selects (args := #[]) (mvT hZ (wd hw 28 rfl))) (wd hw 28 rfl) (wd hw 27 rfl) (wd hw 29 rfl) (wd hw 2 rfl) (by decide) e189 E_b184 (argsL := [(.double AL), (.int p2), (.int (1 : Int32))]) (rest := []) (rm_rs l Z a0 hw [] b184 (4604930618986332160 : UInt64) (4598175219545276416 : UInt64) (3 : Int32) (1 : Int32) (1 : Int32) (((0 : Int64) + (1 : Int64)) + (1 : Int64)) (1 : Int32) (1 : Int32) s1 s2 s3 s4 AL p2 (1 : Int32) h189 n0 O0 E_b184 F_leftOut_b184 F_slots_b184 F_published_b184 F_scores_b184 F_shares_b184 F_alpha_b184 F_keywords_b184 F_count_b184 F_size_b184 F_scored_b184 F_ordered_b184 F_heap_b184 g_b184 ) (W := 0) (by decide) (by decide) (by decide) (by decide) (by rw [hml]; rfl) (lenOf pd_13 rfl) rfl (Nat.le_of_eq rfl) (hb hby at_94) ?_
    intro v191 T191 L191 h191 X191 e191 q191
    obtain ⟨rv, n191, K191, E_b184, F_leftOut_b184, F_slots_b184, F_published_b184, F_scores_b184, F_shares_b184, F_alpha_b184, F_keywords_b184, F_count_b184, F_size_b184, F_scored_b184, F_ordered_b184, F_heap_b184⟩ := q191
    subst rv
    have O0 := O0.keep K191 (allS g_b184 all0)
    have V_s1 := V_s1.keep K191 (ninS ne_s1_b184 nin0)
    have V_s2 := V_s2.keep K191 (ninS ne_s2_b184 nin0)
    have V_s3 := V_s3.keep K191 (ninS ne_s3_b184 nin0)
    have V_s4 := V_s4.keep K191 (ninS ne_s4_b184 nin0)
    have N191 := Fr.app N189 n191
    show Run p e below _ (T191.setTop (mkF m 97 #[.val (.int p0), .val (.int p1), .val (.int p2), .val (.long l1), .second, .val (.long l2), .second, .val (.long l3), .second, .val (.ref b184), .val (.int (0 : Int32)), .val (.int (1 : Int32)), .val (.double AL), .second, .unset, .unset, .unset, .unset, .unset, .unset, .unset, .unset, .unset, .unset] []))
    refine go (fun _ => XS.aload X191.here hx rfl (hb hby at_97) rfl rfl) ?_
    show Run p e below _ (T191.setTop (mkF m 99 #[.val (.int p0), .val (.int p1), .val (.int p2), .val (.long l1), .second, .val (.long l2), .second, .val (.long l3), .second, .val (.ref b184), .val (.int (0 : Int32)), .val (.int (1 : Int32)), .val (.double AL), .second, .unset, .unset, .unset, .unset, .unset, .unset, .unset, .unset, .unset, .unset] [(.ref b184)]))
    refine go (fun _ => XS.bipush X191.here hx rfl (hb hby at_99)) ?_
    show Run p e below _ (T191.setTop (mkF m 101 #[.val (.int p0), .val (.int p1), .val (.int p2), .val (.long l1), .second, .val (.long l2), .second, .val (.long l3), .second, .val (.ref b184), .val (.int (0 : Int32)), .val (.int (1 : Int32)), .val (.double AL), .second, .unset, .unset, .unset, .unset, .unset, .unset, .unset, .unset, .unset, .unset] [(.int (10 : Int32)), (.ref b184)]))
    refine go (fun _ => XS.lloadN X191.here hx rfl (hb hby at_101) rfl) ?_
    show Run p e below _ (T191.setTop (mkF m 102 #[.val (.int p0), .val (.int p1), .val (.int p2), .val (.long l1), .second, .val (.long l2), .second, .val (.long l3), .second, .val (.ref b184), .val (.int (0 : Int32)), .val (.int (1 : Int32)), .val (.double AL), .second, .unset, .unset, .unset, .unset, .unset, .unset, .unset, .unset, .unset, .unset] [(.long l1), (.int (10 : Int32)), (.ref b184)]))
    refine go (fun _ => XS.dconst1 X191.here hx rfl (hb hby at_102) (v := (4607182418800017408 : UInt64)) rfl) ?_
    show Run p e below _ (T191.setTop (mkF m 103 #[.val (.int p0), .val (.int p1), .val (.int p2), .val (.long l1), .second, .val (.long l2), .second, .val (.long l3), .second, .val (.ref b184), .val (.int (0 : Int32)), .val (.int (1 : Int32)), .val (.double AL), .second, .unset, .unset, .unset, .unset, .unset, .unset, .unset, .unset, .unset, .unset] [(.double (4607182418800017408 : UInt64)), (.long l1), (.int (10 : Int32)), (.ref b184)]))
    refine go (fun _ => XS.iconst X191.here hx rfl (hb hby at_103)) ?_
    show Run p e below _ (T191.setTop (mkF m 104 #[.val (.int p0), .val (.int p1), .val (.int p2), .val (.long l1), .second, .val (.long l2), .second, .val (.long l3), .second, .val (.ref b184), .val (.int (0 : Int32)), .val (.int (1 : Int32)), .val (.double AL), .second, .unset, .unset, .unset, .unset, .unset, .unset, .unset, .unset, .unset, .unset] [(.int (0 : Int32)), (.double (4607182418800017408 : UInt64)), (.long l1), (.int (10 : Int32)), (.ref b184)]))
    refine go (fun _ => XS.iconst X191.here hx rfl (hb hby at_104)) ?_
    show Run p e below _ (T191.setTop (mkF m 105 #[.val (.int p0), .val (.int p1), .val (.int p2), .val (.long l1), .second, .val (.long l2), .second, .val (.long l3), .second, .val (.ref b184), .val (.int (0 : Int32)), .val (.int (1 : Int32)), .val (.double AL), .second, .unset, .unset, .unset, .unset, .unset, .unset, .unset, .unset, .unset, .unset] [(.int (1 : Int32)), (.int (0 : Int32)), (.double (4607182418800017408 : UInt64)), (.long l1), (.int (10 : Int32)), (.ref b184)]))
    refine callVi X191 hx hZ hown (wd hw 45 rfl) (wd hw 46 rfl) (notFace_of_selects (args := #[]) (mvT hZ (wd hw 48 rfl))) (wd hw 48 rfl) (wd hw 47 rfl) (wd hw 49 rfl) (wd hw 2 rfl) (by decide) e191 E_b184 (argsL := [(.int (10 : Int32)), (.long l1), (.double (4607182418800017408 : UInt64)), (.int (0 : Int32)), (.int (1 : Int32))]) (rest := []) (rm_of10 l Z a0 hw [] b184 (18442240474082181120 : UInt64) AL p2 (1 : Int32) (0 : Int64) (0 : Int32) s1 s2 s3 s4 ks1 ks2 ks3 ks4 (1 : Int32) (0 : Int32) (100 : Int64) (0 : Int64) (4607182418800017408 : UInt64) (0 : UInt64) (nar .char (shv (1 : Int32) (1 : Int32))) (0 : Int32) (10 : Int32) l1 (4607182418800017408 : UInt64) (0 : UInt64) AL (0 : Int32) (1 : Int32) h191 n0 O0 E_b184 F_leftOut_b184 F_slots_b184 F_published_b184 F_scores_b184 F_shares_b184 F_alpha_b184 F_keywords_b184 F_count_b184 F_size_b184 F_scored_b184 F_ordered_b184 F_heap_b184 V_s1 V_s2 V_s3 V_s4 ne_s1_s2 ne_s1_s3 ne_s1_s4 ne_s2_s3 ne_s2_s4 ne_s3_s4 g_s1 g_s2 g_s3 g_s4 g_b184 (by decide) OwnB.nn0 OwnB.j01.symm (OwnB.fa_s1 FA) (OwnB.fa_u1 FA) (OwnB.fa_u2 FA) (OwnB.fa_u3 FA) (OwnB.fa_u4 FA)) (W := 0) (by decide) (by decide) (by decide) (by decide) (by rw [hml]; rfl) (lenOf pd_14 rfl) rfl (Nat.le_of_eq rfl) (hb hby at_105) ?_
    intro v192 T192 L192 h192 X192 e192 q192
    obtain ⟨rv, n192, K192, E_b184, F_leftOut_b184, F_slots_b184, F_published_b184, F_scores_b184, F_shares_b184, F_alpha_b184, F_keywords_b184, F_count_b184, F_size_b184, F_scored_b184, F_ordered_b184, F_heap_b184, V_s1, V_s2, V_s3, V_s4⟩ := q192
    subst rv
    have O0 := O0.keep K192 (allS g_b184 (allS g_s1 (allS g_s2 (allS g_s3 (allS g_s4 all0)))))
    have N192 := Fr.app N191 n192
    show Run p e below _ (T192.setTop (mkF m 108 #[.val (.int p0), .val (.int p1), .val (.int p2), .val (.long l1), .second, .val (.long l2), .second, .val (.long l3), .second, .val (.ref b184), .val (.int (0 : Int32)), .val (.int (1 : Int32)), .val (.double AL), .second, .unset, .unset, .unset, .unset, .unset, .unset, .unset, .unset, .unset, .unset] []))
    refine go (fun _ => XS.aload X192.here hx rfl (hb hby at_108) rfl rfl) ?_
    show Run p e below _ (T192.setTop (mkF m 110 #[.val (.int p0), .val (.int p1), .val (.int p2), .val (.long l1), .second, .val (.long l2), .second, .val (.long l3), .second, .val (.ref b184), .val (.int (0 : Int32)), .val (.int (1 : Int32)), .val (.double AL), .second, .unset, .unset, .unset, .unset, .unset, .unset, .unset, .unset, .unset, .unset] [(.ref b184)]))
    refine go (fun _ => XS.bipush X192.here hx rfl (hb hby at_110)) ?_
    show Run p e below _ (T192.setTop (mkF m 112 #[.val (.int p0), .val (.int p1), .val (.int p2), .val (.long l1), .second, .val (.long l2), .second, .val (.long l3), .second, .val (.ref b184), .val (.int (0 : Int32)), .val (.int (1 : Int32)), .val (.double AL), .second, .unset, .unset, .unset, .unset, .unset, .unset, .unset, .unset, .unset, .unset] [(.int (11 : Int32)), (.ref b184)]))
    refine go (fun _ => XS.lload X192.here hx rfl (hb hby at_112) rfl) ?_
    show Run p e below _ (T192.setTop (mkF m 114 #[.val (.int p0), .val (.int p1), .val (.int p2), .val (.long l1), .second, .val (.long l2), .second, .val (.long l3), .second, .val (.ref b184), .val (.int (0 : Int32)), .val (.int (1 : Int32)), .val (.double AL), .second, .unset, .unset, .unset, .unset, .unset, .unset, .unset, .unset, .unset, .unset] [(.long l2), (.int (11 : Int32)), (.ref b184)]))
    refine go (fun _ => XS.dconst0 X192.here hx rfl (hb hby at_114) (v := (0 : UInt64)) rfl) ?_
    show Run p e below _ (T192.setTop (mkF m 115 #[.val (.int p0), .val (.int p1), .val (.int p2), .val (.long l1), .second, .val (.long l2), .second, .val (.long l3), .second, .val (.ref b184), .val (.int (0 : Int32)), .val (.int (1 : Int32)), .val (.double AL), .second, .unset, .unset, .unset, .unset, .unset, .unset, .unset, .unset, .unset, .unset] [(.double (0 : UInt64)), (.long l2), (.int (11 : Int32)), (.ref b184)]))
    refine go (fun _ => XS.iconst X192.here hx rfl (hb hby at_115)) ?_
    show Run p e below _ (T192.setTop (mkF m 116 #[.val (.int p0), .val (.int p1), .val (.int p2), .val (.long l1), .second, .val (.long l2), .second, .val (.long l3), .second, .val (.ref b184), .val (.int (0 : Int32)), .val (.int (1 : Int32)), .val (.double AL), .second, .unset, .unset, .unset, .unset, .unset, .unset, .unset, .unset, .unset, .unset] [(.int (0 : Int32)), (.double (0 : UInt64)), (.long l2), (.int (11 : Int32)), (.ref b184)]))
    refine go (fun _ => XS.iconst X192.here hx rfl (hb hby at_116)) ?_
    show Run p e below _ (T192.setTop (mkF m 117 #[.val (.int p0), .val (.int p1), .val (.int p2), .val (.long l1), .second, .val (.long l2), .second, .val (.long l3), .second, .val (.ref b184), .val (.int (0 : Int32)), .val (.int (1 : Int32)), .val (.double AL), .second, .unset, .unset, .unset, .unset, .unset, .unset, .unset, .unset, .unset, .unset] [(.int (1 : Int32)), (.int (0 : Int32)), (.double (0 : UInt64)), (.long l2), (.int (11 : Int32)), (.ref b184)]))
    refine callVi X192 hx hZ hown (wd hw 45 rfl) (wd hw 46 rfl) (notFace_of_selects (args := #[]) (mvT hZ (wd hw 48 rfl))) (wd hw 48 rfl) (wd hw 47 rfl) (wd hw 49 rfl) (wd hw 2 rfl) (by decide) e192 E_b184 (argsL := [(.int (11 : Int32)), (.long l2), (.double (0 : UInt64)), (.int (0 : Int32)), (.int (1 : Int32))]) (rest := []) (rm_ofB l Z a0 hw [] b184 (18442240474082181120 : UInt64) AL p2 ((0 : Int64) + (1 : Int64)) s1 s2 s3 s4 ks1 ks2 ks3 ks4 (10 : Int32) (0 : Int32) l1 (0 : Int64) AL (0 : UInt64) (nar .char (shv (0 : Int32) (1 : Int32))) (0 : Int32) (11 : Int32) l2 (0 : UInt64) (0 : UInt64) (0 : UInt64) (0 : Int32) (1 : Int32) h192 n0 O0 E_b184 F_leftOut_b184 F_slots_b184 F_published_b184 F_scores_b184 F_shares_b184 F_alpha_b184 F_keywords_b184 F_count_b184 F_size_b184 F_scored_b184 F_ordered_b184 F_heap_b184 V_s1 V_s2 V_s3 V_s4 ne_s1_s2 ne_s1_s3 ne_s1_s4 ne_s2_s3 ne_s2_s4 ne_s3_s4 g_s1 g_s2 g_s3 g_s4 g_b184 (OwnB.cmp_gt (UInt64.le_of_lt FA.2.2.2.2.1) pA) kc_13 OwnB.nn0 kc_17 OwnB.nn0 OwnB.j01.symm (OwnB.fa_s0 FA) (OwnB.fa_u1z FA) (OwnB.fa_u2 FA) (OwnB.fa_u3 FA) (OwnB.fa_u4z FA)) (W := 0) (by decide) (by decide) (by decide) (by decide) (by rw [hml]; rfl) (lenOf pd_14 rfl) rfl (Nat.le_of_eq rfl) (hb hby at_117) ?_
    intro v193 T193 L193 h193 X193 e193 q193
    obtain ⟨rv, n193, K193, E_b184, F_leftOut_b184, F_slots_b184, F_published_b184, F_scores_b184, F_shares_b184, F_alpha_b184, F_keywords_b184, F_count_b184, F_size_b184, F_scored_b184, F_ordered_b184, F_heap_b184⟩ := q193
    subst rv
    have O0 := O0.keep K193 (allS g_b184 all0)
    have V_s1 := V_s1.keep K193 (ninS ne_s1_b184 nin0)
    have V_s2 := V_s2.keep K193 (ninS ne_s2_b184 nin0)
    have V_s3 := V_s3.keep K193 (ninS ne_s3_b184 nin0)
    have V_s4 := V_s4.keep K193 (ninS ne_s4_b184 nin0)
    have N193 := Fr.app N192 n193
    show Run p e below _ (T193.setTop (mkF m 120 #[.val (.int p0), .val (.int p1), .val (.int p2), .val (.long l1), .second, .val (.long l2), .second, .val (.long l3), .second, .val (.ref b184), .val (.int (0 : Int32)), .val (.int (1 : Int32)), .val (.double AL), .second, .unset, .unset, .unset, .unset, .unset, .unset, .unset, .unset, .unset, .unset] []))
    refine go (fun _ => XS.dload X193.here hx rfl (hb hby at_120) rfl) ?_
    show Run p e below _ (T193.setTop (mkF m 122 #[.val (.int p0), .val (.int p1), .val (.int p2), .val (.long l1), .second, .val (.long l2), .second, .val (.long l3), .second, .val (.ref b184), .val (.int (0 : Int32)), .val (.int (1 : Int32)), .val (.double AL), .second, .unset, .unset, .unset, .unset, .unset, .unset, .unset, .unset, .unset, .unset] [(.double AL)]))
    refine go (fun _ => X193.ldc2DoubleC hx hown (mvT hZ (wd hw 94 rfl)) (g := (mkF m 122 #[.val (.int p0), .val (.int p1), .val (.int p2), .val (.long l1), .second, .val (.long l2), .second, .val (.long l3), .second, .val (.ref b184), .val (.int (0 : Int32)), .val (.int (1 : Int32)), .val (.double AL), .second, .unset, .unset, .unset, .unset, .unset, .unset, .unset, .unset, .unset, .unset] [(.double AL)])) rfl (hb hby at_122) _) ?_
    show Run p e below _ (T193.setTop (mkF m 125 #[.val (.int p0), .val (.int p1), .val (.int p2), .val (.long l1), .second, .val (.long l2), .second, .val (.long l3), .second, .val (.ref b184), .val (.int (0 : Int32)), .val (.int (1 : Int32)), .val (.double AL), .second, .unset, .unset, .unset, .unset, .unset, .unset, .unset, .unset, .unset, .unset] [(.double (4611686018427387904 : UInt64)), (.double AL)]))
    obtain ⟨BD, hBD⟩ : ∃ z, z = (FP.ddiv AL (4611686018427387904 : UInt64)) := ⟨_, rfl⟩
    have pB : 0 < BD := hBD ▸ FA.2.2.2.2.2.2.1
    have bA : BD < AL := hBD ▸ FA.2.2.2.2.2.2.2
    have lB : BD ≤ OwnB.one := UInt64.le_of_lt (UInt64.lt_trans bA FA.2.2.2.2.1)
    have nB := OwnB.nnB lB
    refine go (fun _ => XS.ddivS X193.here hx rfl (hb hby at_125) rfl (hBD ▸ (nB)) hBD.symm) ?_
    show Run p e below _ (T193.setTop (mkF m 126 #[.val (.int p0), .val (.int p1), .val (.int p2), .val (.long l1), .second, .val (.long l2), .second, .val (.long l3), .second, .val (.ref b184), .val (.int (0 : Int32)), .val (.int (1 : Int32)), .val (.double AL), .second, .unset, .unset, .unset, .unset, .unset, .unset, .unset, .unset, .unset, .unset] [(.double BD)]))
    refine go (fun _ => XS.dstore X193.here hx rfl (hb hby at_126) rfl (l' := #[.val (.int p0), .val (.int p1), .val (.int p2), .val (.long l1), .second, .val (.long l2), .second, .val (.long l3), .second, .val (.ref b184), .val (.int (0 : Int32)), .val (.int (1 : Int32)), .val (.double AL), .second, .val (.double BD), .second, .unset, .unset, .unset, .unset, .unset, .unset, .unset, .unset]) rfl) ?_
    show Run p e below _ (T193.setTop (mkF m 128 #[.val (.int p0), .val (.int p1), .val (.int p2), .val (.long l1), .second, .val (.long l2), .second, .val (.long l3), .second, .val (.ref b184), .val (.int (0 : Int32)), .val (.int (1 : Int32)), .val (.double AL), .second, .val (.double BD), .second, .unset, .unset, .unset, .unset, .unset, .unset, .unset, .unset] []))
    refine go (fun _ => XS.aload X193.here hx rfl (hb hby at_128) rfl rfl) ?_
    show Run p e below _ (T193.setTop (mkF m 130 #[.val (.int p0), .val (.int p1), .val (.int p2), .val (.long l1), .second, .val (.long l2), .second, .val (.long l3), .second, .val (.ref b184), .val (.int (0 : Int32)), .val (.int (1 : Int32)), .val (.double AL), .second, .val (.double BD), .second, .unset, .unset, .unset, .unset, .unset, .unset, .unset, .unset] [(.ref b184)]))
    refine go (fun _ => XS.dload X193.here hx rfl (hb hby at_130) rfl) ?_
    show Run p e below _ (T193.setTop (mkF m 132 #[.val (.int p0), .val (.int p1), .val (.int p2), .val (.long l1), .second, .val (.long l2), .second, .val (.long l3), .second, .val (.ref b184), .val (.int (0 : Int32)), .val (.int (1 : Int32)), .val (.double AL), .second, .val (.double BD), .second, .unset, .unset, .unset, .unset, .unset, .unset, .unset, .unset] [(.double BD), (.ref b184)]))
    refine go (fun _ => XS.lload X193.here hx rfl (hb hby at_132) rfl) ?_
    show Run p e below _ (T193.setTop (mkF m 134 #[.val (.int p0), .val (.int p1), .val (.int p2), .val (.long l1), .second, .val (.long l2), .second, .val (.long l3), .second, .val (.ref b184), .val (.int (0 : Int32)), .val (.int (1 : Int32)), .val (.double AL), .second, .val (.double BD), .second, .unset, .unset, .unset, .unset, .unset, .unset, .unset, .unset] [(.long l3), (.double BD), (.ref b184)]))
    refine callVi X193 hx hZ hown (wd hw 95 rfl) (wd hw 96 rfl) (notFace_of_selects (args := #[]) (mvT hZ (wd hw 98 rfl))) (wd hw 98 rfl) (wd hw 97 rfl) (wd hw 99 rfl) (wd hw 2 rfl) (by decide) e193 E_b184 (argsL := [(.double BD), (.long l3)]) (rest := []) (rm_r1 l Z a0 hw [] b184 (0 : UInt64) AL p2 (((0 : Int64) + (1 : Int64)) + (1 : Int64)) (0 : Int32) s1 s2 s3 s4 ks1 ks2 ks3 ks4 (10 : Int32) (0 : Int32) l1 (0 : Int64) AL (0 : UInt64) (nar .char (shv (0 : Int32) (1 : Int32))) (0 : Int32) BD l3 h193 n0 O0 E_b184 F_leftOut_b184 F_slots_b184 F_published_b184 F_scores_b184 F_shares_b184 F_alpha_b184 F_keywords_b184 F_count_b184 F_size_b184 F_scored_b184 F_ordered_b184 F_heap_b184 V_s1 V_s2 V_s3 V_s4 ne_s1_s2 ne_s1_s3 ne_s1_s4 ne_s2_s3 ne_s2_s4 ne_s3_s4 g_s1 g_s2 g_s3 g_s4 g_b184 (OwnB.cmp_gt (UInt64.le_of_lt FA.2.2.2.2.1) bA) OwnB.nn0 nB (OwnB.cmp_lt lB pB)) (W := 0) (by decide) (by decide) (by decide) (by decide) (by rw [hml]; rfl) (lenOf pd_15 rfl) rfl (Nat.le_of_eq rfl) (hb hby at_134) ?_
    intro v194 T194 L194 h194 X194 e194 q194
    obtain ⟨rv, n194, K194, E_b184, F_leftOut_b184, F_slots_b184, F_published_b184, F_scores_b184, F_shares_b184, F_alpha_b184, F_keywords_b184, F_count_b184, F_size_b184, F_scored_b184, F_ordered_b184, F_heap_b184⟩ := q194
    replace rv : v194 = some (.int (1 : Int32)) := rv
    subst rv
    have O0 := O0.keep K194 (allS g_b184 all0)
    have V_s1 := V_s1.keep K194 (ninS ne_s1_b184 nin0)
    have V_s2 := V_s2.keep K194 (ninS ne_s2_b184 nin0)
    have V_s3 := V_s3.keep K194 (ninS ne_s3_b184 nin0)
    have V_s4 := V_s4.keep K194 (ninS ne_s4_b184 nin0)
    have N194 := Fr.app N193 n194
    show Run p e below _ (T194.setTop (mkF m 137 #[.val (.int p0), .val (.int p1), .val (.int p2), .val (.long l1), .second, .val (.long l2), .second, .val (.long l3), .second, .val (.ref b184), .val (.int (0 : Int32)), .val (.int (1 : Int32)), .val (.double AL), .second, .val (.double BD), .second, .unset, .unset, .unset, .unset, .unset, .unset, .unset, .unset] [(.int (1 : Int32))]))
    refine go (fun _ => XS.istore X194.here hx rfl (hb hby at_137) rfl (l' := #[.val (.int p0), .val (.int p1), .val (.int p2), .val (.long l1), .second, .val (.long l2), .second, .val (.long l3), .second, .val (.ref b184), .val (.int (0 : Int32)), .val (.int (1 : Int32)), .val (.double AL), .second, .val (.double BD), .second, .val (.int (1 : Int32)), .unset, .unset, .unset, .unset, .unset, .unset, .unset]) rfl) ?_
    show Run p e below _ (T194.setTop (mkF m 139 #[.val (.int p0), .val (.int p1), .val (.int p2), .val (.long l1), .second, .val (.long l2), .second, .val (.long l3), .second, .val (.ref b184), .val (.int (0 : Int32)), .val (.int (1 : Int32)), .val (.double AL), .second, .val (.double BD), .second, .val (.int (1 : Int32)), .unset, .unset, .unset, .unset, .unset, .unset, .unset] []))
    refine go (fun _ => XS.aload X194.here hx rfl (hb hby at_139) rfl rfl) ?_
    show Run p e below _ (T194.setTop (mkF m 141 #[.val (.int p0), .val (.int p1), .val (.int p2), .val (.long l1), .second, .val (.long l2), .second, .val (.long l3), .second, .val (.ref b184), .val (.int (0 : Int32)), .val (.int (1 : Int32)), .val (.double AL), .second, .val (.double BD), .second, .val (.int (1 : Int32)), .unset, .unset, .unset, .unset, .unset, .unset, .unset] [(.ref b184)]))
    refine callVi X194 hx hZ hown (wd hw 108 rfl) (wd hw 109 rfl) (notFace_of_selects (args := #[]) (mvT hZ (wd hw 111 rfl))) (wd hw 111 rfl) (wd hw 110 rfl) (wd hw 112 rfl) (wd hw 2 rfl) (by decide) e194 E_b184 (argsL := []) (rest := []) (rm_scs l Z a0 hw [] b184 BD AL p2 (1 : Int32) (1 : Int32) (((0 : Int64) + (1 : Int64)) + (1 : Int64)) (0 : Int32) (1 : Int32) s1 s2 s3 s4 h194 n0 O0 E_b184 F_leftOut_b184 F_slots_b184 F_published_b184 F_scores_b184 F_shares_b184 F_alpha_b184 F_keywords_b184 F_count_b184 F_size_b184 F_scored_b184 F_ordered_b184 F_heap_b184 g_b184 ) (W := 0) (by decide) (by decide) (by decide) (by decide) (by rw [hml]; rfl) (lenOf pd_16 rfl) rfl (Nat.le_of_eq rfl) (hb hby at_141) ?_
    intro v195 T195 L195 h195 X195 e195 q195
    obtain ⟨rv, n195, k195⟩ := q195
    replace rv : v195 = some (.long (((0 : Int64) + (1 : Int64)) + (1 : Int64))) := rv
    subst rv
    have e195 := e195.trans k195
    have N195 := Fr.app N194 n195
    show Run p e below _ (T195.setTop (mkF m 144 #[.val (.int p0), .val (.int p1), .val (.int p2), .val (.long l1), .second, .val (.long l2), .second, .val (.long l3), .second, .val (.ref b184), .val (.int (0 : Int32)), .val (.int (1 : Int32)), .val (.double AL), .second, .val (.double BD), .second, .val (.int (1 : Int32)), .unset, .unset, .unset, .unset, .unset, .unset, .unset] [(.long (((0 : Int64) + (1 : Int64)) + (1 : Int64)))]))
    refine go (fun _ => XS.lstore X195.here hx rfl (hb hby at_144) rfl (l' := #[.val (.int p0), .val (.int p1), .val (.int p2), .val (.long l1), .second, .val (.long l2), .second, .val (.long l3), .second, .val (.ref b184), .val (.int (0 : Int32)), .val (.int (1 : Int32)), .val (.double AL), .second, .val (.double BD), .second, .val (.int (1 : Int32)), .val (.long (((0 : Int64) + (1 : Int64)) + (1 : Int64))), .second, .unset, .unset, .unset, .unset, .unset]) rfl) ?_
    show Run p e below _ (T195.setTop (mkF m 146 #[.val (.int p0), .val (.int p1), .val (.int p2), .val (.long l1), .second, .val (.long l2), .second, .val (.long l3), .second, .val (.ref b184), .val (.int (0 : Int32)), .val (.int (1 : Int32)), .val (.double AL), .second, .val (.double BD), .second, .val (.int (1 : Int32)), .val (.long (((0 : Int64) + (1 : Int64)) + (1 : Int64))), .second, .unset, .unset, .unset, .unset, .unset] []))
    refine go (fun _ => XS.aload X195.here hx rfl (hb hby at_146) rfl rfl) ?_
    show Run p e below _ (T195.setTop (mkF m 148 #[.val (.int p0), .val (.int p1), .val (.int p2), .val (.long l1), .second, .val (.long l2), .second, .val (.long l3), .second, .val (.ref b184), .val (.int (0 : Int32)), .val (.int (1 : Int32)), .val (.double AL), .second, .val (.double BD), .second, .val (.int (1 : Int32)), .val (.long (((0 : Int64) + (1 : Int64)) + (1 : Int64))), .second, .unset, .unset, .unset, .unset, .unset] [(.ref b184)]))
    refine callVi X195 hx hZ hown (wd hw 113 rfl) (wd hw 114 rfl) (notFace_of_selects (args := #[]) (mvT hZ (wd hw 116 rfl))) (wd hw 116 rfl) (wd hw 115 rfl) (wd hw 117 rfl) (wd hw 2 rfl) (by decide) e195 E_b184 (argsL := []) (rest := []) (rm_l2 l Z a0 hw [] b184 BD AL p2 (1 : Int32) (1 : Int32) (((0 : Int64) + (1 : Int64)) + (1 : Int64)) (0 : Int32) (1 : Int32) s1 s2 s3 s4 h194 n0 O0 E_b184 F_leftOut_b184 F_slots_b184 F_published_b184 F_scores_b184 F_shares_b184 F_alpha_b184 F_keywords_b184 F_count_b184 F_size_b184 F_scored_b184 F_ordered_b184 F_heap_b184 g_b184 (OwnB.gt_ninf lB)) (W := 0) (by decide) (by decide) (by decide) (by decide) (by rw [hml]; rfl) (lenOf pd_10 rfl) rfl (Nat.le_of_eq rfl) (hb hby at_148) ?_
    intro v196 T196 L196 h196 X196 e196 q196
    obtain ⟨rv, n196, k196⟩ := q196
    replace rv : v196 = some (.double BD) := rv
    subst rv
    have e196 := e196.trans k196
    have N196 := Fr.app N195 n196
    show Run p e below _ (T196.setTop (mkF m 151 #[.val (.int p0), .val (.int p1), .val (.int p2), .val (.long l1), .second, .val (.long l2), .second, .val (.long l3), .second, .val (.ref b184), .val (.int (0 : Int32)), .val (.int (1 : Int32)), .val (.double AL), .second, .val (.double BD), .second, .val (.int (1 : Int32)), .val (.long (((0 : Int64) + (1 : Int64)) + (1 : Int64))), .second, .unset, .unset, .unset, .unset, .unset] [(.double BD)]))
    refine go (fun _ => XS.dstore X196.here hx rfl (hb hby at_151) rfl (l' := #[.val (.int p0), .val (.int p1), .val (.int p2), .val (.long l1), .second, .val (.long l2), .second, .val (.long l3), .second, .val (.ref b184), .val (.int (0 : Int32)), .val (.int (1 : Int32)), .val (.double AL), .second, .val (.double BD), .second, .val (.int (1 : Int32)), .val (.long (((0 : Int64) + (1 : Int64)) + (1 : Int64))), .second, .val (.double BD), .second, .unset, .unset, .unset]) rfl) ?_
    show Run p e below _ (T196.setTop (mkF m 153 #[.val (.int p0), .val (.int p1), .val (.int p2), .val (.long l1), .second, .val (.long l2), .second, .val (.long l3), .second, .val (.ref b184), .val (.int (0 : Int32)), .val (.int (1 : Int32)), .val (.double AL), .second, .val (.double BD), .second, .val (.int (1 : Int32)), .val (.long (((0 : Int64) + (1 : Int64)) + (1 : Int64))), .second, .val (.double BD), .second, .unset, .unset, .unset] []))
    refine go (fun _ => XS.aload X196.here hx rfl (hb hby at_153) rfl rfl) ?_
    show Run p e below _ (T196.setTop (mkF m 155 #[.val (.int p0), .val (.int p1), .val (.int p2), .val (.long l1), .second, .val (.long l2), .second, .val (.long l3), .second, .val (.ref b184), .val (.int (0 : Int32)), .val (.int (1 : Int32)), .val (.double AL), .second, .val (.double BD), .second, .val (.int (1 : Int32)), .val (.long (((0 : Int64) + (1 : Int64)) + (1 : Int64))), .second, .val (.double BD), .second, .unset, .unset, .unset] [(.ref b184)]))
    refine callVi X196 hx hZ hown (wd hw 88 rfl) (wd hw 89 rfl) (notFace_of_selects (args := #[]) (mvT hZ (wd hw 91 rfl))) (wd hw 91 rfl) (wd hw 90 rfl) (wd hw 92 rfl) (wd hw 2 rfl) (by decide) e196 E_b184 (argsL := []) (rest := []) (rm_o1 l Z a0 hw [] b184 BD AL p2 (1 : Int32) (((0 : Int64) + (1 : Int64)) + (1 : Int64)) s1 s2 s3 s4 h194 n0 O0 E_b184 F_leftOut_b184 F_slots_b184 F_published_b184 F_scores_b184 F_shares_b184 F_alpha_b184 F_keywords_b184 F_count_b184 F_size_b184 F_scored_b184 F_ordered_b184 F_heap_b184 g_b184 ) (W := 0) (by decide) (by decide) (by decide) (by decide) (by rw [hml]; rfl) (lenOf pd_12 rfl) rfl (Nat.le_of_eq rfl) (hb hby at_155) ?_
    intro v197 T197 L197 h197 X197 e197 q197
    obtain ⟨rv, n197, K197, E_b184, F_leftOut_b184, F_slots_b184, F_published_b184, F_scores_b184, F_shares_b184, F_alpha_b184, F_keywords_b184, F_count_b184, F_size_b184, F_scored_b184, F_ordered_b184, F_heap_b184⟩ := q197
    subst rv
    have O0 := O0.keep K197 (allS g_b184 all0)
    have V_s1 := V_s1.keep K197 (ninS ne_s1_b184 nin0)
    have V_s2 := V_s2.keep K197 (ninS ne_s2_b184 nin0)
    have V_s3 := V_s3.keep K197 (ninS ne_s3_b184 nin0)
    have V_s4 := V_s4.keep K197 (ninS ne_s4_b184 nin0)
    have N197 := Fr.app N196 n197
    show Run p e below _ (T197.setTop (mkF m 158 #[.val (.int p0), .val (.int p1), .val (.int p2), .val (.long l1), .second, .val (.long l2), .second, .val (.long l3), .second, .val (.ref b184), .val (.int (0 : Int32)), .val (.int (1 : Int32)), .val (.double AL), .second, .val (.double BD), .second, .val (.int (1 : Int32)), .val (.long (((0 : Int64) + (1 : Int64)) + (1 : Int64))), .second, .val (.double BD), .second, .unset, .unset, .unset] []))
    refine go (fun _ => XS.aload X197.here hx rfl (hb hby at_158) rfl rfl) ?_
    show Run p e below _ (T197.setTop (mkF m 160 #[.val (.int p0), .val (.int p1), .val (.int p2), .val (.long l1), .second, .val (.long l2), .second, .val (.long l3), .second, .val (.ref b184), .val (.int (0 : Int32)), .val (.int (1 : Int32)), .val (.double AL), .second, .val (.double BD), .second, .val (.int (1 : Int32)), .val (.long (((0 : Int64) + (1 : Int64)) + (1 : Int64))), .second, .val (.double BD), .second, .unset, .unset, .unset] [(.ref b184)]))
    refine go (fun _ => XS.iconst X197.here hx rfl (hb hby at_160)) ?_
    show Run p e below _ (T197.setTop (mkF m 161 #[.val (.int p0), .val (.int p1), .val (.int p2), .val (.long l1), .second, .val (.long l2), .second, .val (.long l3), .second, .val (.ref b184), .val (.int (0 : Int32)), .val (.int (1 : Int32)), .val (.double AL), .second, .val (.double BD), .second, .val (.int (1 : Int32)), .val (.long (((0 : Int64) + (1 : Int64)) + (1 : Int64))), .second, .val (.double BD), .second, .unset, .unset, .unset] [(.int (0 : Int32)), (.ref b184)]))
    refine callVi X197 hx hZ hown (wd hw 119 rfl) (wd hw 120 rfl) (notFace_of_selects (args := #[]) (mvT hZ (wd hw 122 rfl))) (wd hw 122 rfl) (wd hw 121 rfl) (wd hw 123 rfl) (wd hw 2 rfl) (by decide) e197 E_b184 (argsL := [(.int (0 : Int32))]) (rest := []) (rm_s0 l Z a0 hw [] b184 BD AL p2 (1 : Int32) (1 : Int32) (((0 : Int64) + (1 : Int64)) + (1 : Int64)) (1 : Int32) (1 : Int32) s1 s2 s3 s4 ks1 ks2 ks3 ks4 (10 : Int32) (0 : Int32) l1 (0 : Int64) AL (0 : UInt64) (nar .char (shv (0 : Int32) (1 : Int32))) (0 : Int32) h197 n0 O0 E_b184 F_leftOut_b184 F_slots_b184 F_published_b184 F_scores_b184 F_shares_b184 F_alpha_b184 F_keywords_b184 F_count_b184 F_size_b184 F_scored_b184 F_ordered_b184 F_heap_b184 V_s1 V_s2 V_s3 V_s4 ne_s1_s2 ne_s1_s3 ne_s1_s4 ne_s2_s3 ne_s2_s4 ne_s3_s4 g_s1 g_s2 g_s3 g_s4 g_b184 ) (W := 0) (by decide) (by decide) (by decide) (by decide) (by rw [hml]; rfl) (lenOf pd_17 rfl) rfl (Nat.le_of_eq rfl) (hb hby at_161) ?_
    intro v198 T198 L198 h198 X198 e198 q198
    obtain ⟨rv, n198, k198⟩ := q198
    replace rv : v198 = some (.double AL) := rv
    subst rv
    have e198 := e198.trans k198
    have N198 := Fr.app N197 n198
    show Run p e below _ (T198.setTop (mkF m 164 #[.val (.int p0), .val (.int p1), .val (.int p2), .val (.long l1), .second, .val (.long l2), .second, .val (.long l3), .second, .val (.ref b184), .val (.int (0 : Int32)), .val (.int (1 : Int32)), .val (.double AL), .second, .val (.double BD), .second, .val (.int (1 : Int32)), .val (.long (((0 : Int64) + (1 : Int64)) + (1 : Int64))), .second, .val (.double BD), .second, .unset, .unset, .unset] [(.double AL)]))
    refine go (fun _ => XS.dstore X198.here hx rfl (hb hby at_164) rfl (l' := #[.val (.int p0), .val (.int p1), .val (.int p2), .val (.long l1), .second, .val (.long l2), .second, .val (.long l3), .second, .val (.ref b184), .val (.int (0 : Int32)), .val (.int (1 : Int32)), .val (.double AL), .second, .val (.double BD), .second, .val (.int (1 : Int32)), .val (.long (((0 : Int64) + (1 : Int64)) + (1 : Int64))), .second, .val (.double BD), .second, .val (.double AL), .second, .unset]) rfl) ?_
    show Run p e below _ (T198.setTop (mkF m 166 #[.val (.int p0), .val (.int p1), .val (.int p2), .val (.long l1), .second, .val (.long l2), .second, .val (.long l3), .second, .val (.ref b184), .val (.int (0 : Int32)), .val (.int (1 : Int32)), .val (.double AL), .second, .val (.double BD), .second, .val (.int (1 : Int32)), .val (.long (((0 : Int64) + (1 : Int64)) + (1 : Int64))), .second, .val (.double BD), .second, .val (.double AL), .second, .unset] []))
    refine go (fun _ => XS.lload X198.here hx rfl (hb hby at_166) rfl) ?_
    show Run p e below _ (T198.setTop (mkF m 168 #[.val (.int p0), .val (.int p1), .val (.int p2), .val (.long l1), .second, .val (.long l2), .second, .val (.long l3), .second, .val (.ref b184), .val (.int (0 : Int32)), .val (.int (1 : Int32)), .val (.double AL), .second, .val (.double BD), .second, .val (.int (1 : Int32)), .val (.long (((0 : Int64) + (1 : Int64)) + (1 : Int64))), .second, .val (.double BD), .second, .val (.double AL), .second, .unset] [(.long (((0 : Int64) + (1 : Int64)) + (1 : Int64)))]))
    refine go (fun _ => X198.ldc2J hx hown (mvT hZ (wd hw 124 rfl)) rfl (hb hby at_168)) ?_
    show Run p e below _ (T198.setTop (mkF m 171 #[.val (.int p0), .val (.int p1), .val (.int p2), .val (.long l1), .second, .val (.long l2), .second, .val (.long l3), .second, .val (.ref b184), .val (.int (0 : Int32)), .val (.int (1 : Int32)), .val (.double AL), .second, .val (.double BD), .second, .val (.int (1 : Int32)), .val (.long (((0 : Int64) + (1 : Int64)) + (1 : Int64))), .second, .val (.double BD), .second, .val (.double AL), .second, .unset] [(.long (2 : Int64)), (.long (((0 : Int64) + (1 : Int64)) + (1 : Int64)))]))
    refine go (fun _ => XS.lcmp X198.here hx rfl (hb hby at_171) rfl) ?_
    show Run p e below _ (T198.setTop (mkF m 172 #[.val (.int p0), .val (.int p1), .val (.int p2), .val (.long l1), .second, .val (.long l2), .second, .val (.long l3), .second, .val (.ref b184), .val (.int (0 : Int32)), .val (.int (1 : Int32)), .val (.double AL), .second, .val (.double BD), .second, .val (.int (1 : Int32)), .val (.long (((0 : Int64) + (1 : Int64)) + (1 : Int64))), .second, .val (.double BD), .second, .val (.double AL), .second, .unset] [(.int (lcmpW (((0 : Int64) + (1 : Int64)) + (1 : Int64)) (2 : Int64)))]))
    refine go (fun _ => XS.ifNo X198.here hx rfl (hb hby at_172) rfl ((if0 _ _).trans (teq (by decide)).2)) ?_
    show Run p e below _ (T198.setTop (mkF m 175 #[.val (.int p0), .val (.int p1), .val (.int p2), .val (.long l1), .second, .val (.long l2), .second, .val (.long l3), .second, .val (.ref b184), .val (.int (0 : Int32)), .val (.int (1 : Int32)), .val (.double AL), .second, .val (.double BD), .second, .val (.int (1 : Int32)), .val (.long (((0 : Int64) + (1 : Int64)) + (1 : Int64))), .second, .val (.double BD), .second, .val (.double AL), .second, .unset] []))
    refine go (fun _ => XS.dload X198.here hx rfl (hb hby at_175) rfl) ?_
    show Run p e below _ (T198.setTop (mkF m 177 #[.val (.int p0), .val (.int p1), .val (.int p2), .val (.long l1), .second, .val (.long l2), .second, .val (.long l3), .second, .val (.ref b184), .val (.int (0 : Int32)), .val (.int (1 : Int32)), .val (.double AL), .second, .val (.double BD), .second, .val (.int (1 : Int32)), .val (.long (((0 : Int64) + (1 : Int64)) + (1 : Int64))), .second, .val (.double BD), .second, .val (.double AL), .second, .unset] [(.double AL)]))
    refine go (fun _ => XS.dload X198.here hx rfl (hb hby at_177) rfl) ?_
    show Run p e below _ (T198.setTop (mkF m 179 #[.val (.int p0), .val (.int p1), .val (.int p2), .val (.long l1), .second, .val (.long l2), .second, .val (.long l3), .second, .val (.ref b184), .val (.int (0 : Int32)), .val (.int (1 : Int32)), .val (.double AL), .second, .val (.double BD), .second, .val (.int (1 : Int32)), .val (.long (((0 : Int64) + (1 : Int64)) + (1 : Int64))), .second, .val (.double BD), .second, .val (.double AL), .second, .unset] [(.double AL), (.double AL)]))
    refine go (fun _ => XS.dcmpS X198.here hx rfl (hb hby at_179) rfl (v := (0 : Int32)) (dcmpV_self (OwnB.fa_nn FA) .l)) ?_
    show Run p e below _ (T198.setTop (mkF m 180 #[.val (.int p0), .val (.int p1), .val (.int p2), .val (.long l1), .second, .val (.long l2), .second, .val (.long l3), .second, .val (.ref b184), .val (.int (0 : Int32)), .val (.int (1 : Int32)), .val (.double AL), .second, .val (.double BD), .second, .val (.int (1 : Int32)), .val (.long (((0 : Int64) + (1 : Int64)) + (1 : Int64))), .second, .val (.double BD), .second, .val (.double AL), .second, .unset] [(.int (0 : Int32))]))
    refine go (fun _ => XS.ifNo X198.here hx rfl (hb hby at_180) rfl ((if0 _ _).trans (teq (by decide : (0 : Int32) = 0)).2)) ?_
    show Run p e below _ (T198.setTop (mkF m 183 #[.val (.int p0), .val (.int p1), .val (.int p2), .val (.long l1), .second, .val (.long l2), .second, .val (.long l3), .second, .val (.ref b184), .val (.int (0 : Int32)), .val (.int (1 : Int32)), .val (.double AL), .second, .val (.double BD), .second, .val (.int (1 : Int32)), .val (.long (((0 : Int64) + (1 : Int64)) + (1 : Int64))), .second, .val (.double BD), .second, .val (.double AL), .second, .unset] []))
    refine go (fun _ => XS.iconst X198.here hx rfl (hb hby at_183)) ?_
    show Run p e below _ (T198.setTop (mkF m 184 #[.val (.int p0), .val (.int p1), .val (.int p2), .val (.long l1), .second, .val (.long l2), .second, .val (.long l3), .second, .val (.ref b184), .val (.int (0 : Int32)), .val (.int (1 : Int32)), .val (.double AL), .second, .val (.double BD), .second, .val (.int (1 : Int32)), .val (.long (((0 : Int64) + (1 : Int64)) + (1 : Int64))), .second, .val (.double BD), .second, .val (.double AL), .second, .unset] [(.int (1 : Int32))]))
    refine go (fun _ => XS.goto X198.here hx rfl (pc0 := 184) (pc' := 188) rfl (hb hby at_184) (by decide) (by decide)) ?_
    show Run p e below _ (T198.setTop (mkF m 188 #[.val (.int p0), .val (.int p1), .val (.int p2), .val (.long l1), .second, .val (.long l2), .second, .val (.long l3), .second, .val (.ref b184), .val (.int (0 : Int32)), .val (.int (1 : Int32)), .val (.double AL), .second, .val (.double BD), .second, .val (.int (1 : Int32)), .val (.long (((0 : Int64) + (1 : Int64)) + (1 : Int64))), .second, .val (.double BD), .second, .val (.double AL), .second, .unset] [(.int (1 : Int32))]))
    refine go (fun _ => XS.istore X198.here hx rfl (hb hby at_188) rfl (l' := #[.val (.int p0), .val (.int p1), .val (.int p2), .val (.long l1), .second, .val (.long l2), .second, .val (.long l3), .second, .val (.ref b184), .val (.int (0 : Int32)), .val (.int (1 : Int32)), .val (.double AL), .second, .val (.double BD), .second, .val (.int (1 : Int32)), .val (.long (((0 : Int64) + (1 : Int64)) + (1 : Int64))), .second, .val (.double BD), .second, .val (.double AL), .second, .val (.int (1 : Int32))]) rfl) ?_
    show Run p e below _ (T198.setTop (mkF m 190 #[.val (.int p0), .val (.int p1), .val (.int p2), .val (.long l1), .second, .val (.long l2), .second, .val (.long l3), .second, .val (.ref b184), .val (.int (0 : Int32)), .val (.int (1 : Int32)), .val (.double AL), .second, .val (.double BD), .second, .val (.int (1 : Int32)), .val (.long (((0 : Int64) + (1 : Int64)) + (1 : Int64))), .second, .val (.double BD), .second, .val (.double AL), .second, .val (.int (1 : Int32))] []))
    refine go (fun _ => XS.iload X198.here hx rfl (hb hby at_190) rfl) ?_
    show Run p e below _ (T198.setTop (mkF m 192 #[.val (.int p0), .val (.int p1), .val (.int p2), .val (.long l1), .second, .val (.long l2), .second, .val (.long l3), .second, .val (.ref b184), .val (.int (0 : Int32)), .val (.int (1 : Int32)), .val (.double AL), .second, .val (.double BD), .second, .val (.int (1 : Int32)), .val (.long (((0 : Int64) + (1 : Int64)) + (1 : Int64))), .second, .val (.double BD), .second, .val (.double AL), .second, .val (.int (1 : Int32))] [(.int (0 : Int32))]))
    refine go (fun _ => XS.ifYes X198.here hx rfl (pc0 := 192) (pc' := 235) rfl (hb hby at_192) rfl ((if0 _ _).trans (teq (by decide : (0 : Int32) = 0)).1) (by decide) (by decide)) ?_
    show Run p e below _ (T198.setTop (mkF m 235 #[.val (.int p0), .val (.int p1), .val (.int p2), .val (.long l1), .second, .val (.long l2), .second, .val (.long l3), .second, .val (.ref b184), .val (.int (0 : Int32)), .val (.int (1 : Int32)), .val (.double AL), .second, .val (.double BD), .second, .val (.int (1 : Int32)), .val (.long (((0 : Int64) + (1 : Int64)) + (1 : Int64))), .second, .val (.double BD), .second, .val (.double AL), .second, .val (.int (1 : Int32))] []))
    refine go (fun _ => XS.iload X198.here hx rfl (hb hby at_235) rfl) ?_
    show Run p e below _ (T198.setTop (mkF m 237 #[.val (.int p0), .val (.int p1), .val (.int p2), .val (.long l1), .second, .val (.long l2), .second, .val (.long l3), .second, .val (.ref b184), .val (.int (0 : Int32)), .val (.int (1 : Int32)), .val (.double AL), .second, .val (.double BD), .second, .val (.int (1 : Int32)), .val (.long (((0 : Int64) + (1 : Int64)) + (1 : Int64))), .second, .val (.double BD), .second, .val (.double AL), .second, .val (.int (1 : Int32))] [(.int (1 : Int32))]))
    refine go (fun _ => XS.ifNo X198.here hx rfl (hb hby at_237) rfl ((if0 _ _).trans (feq (by decide : ¬ ((1 : Int32) = 0))).1)) ?_
    show Run p e below _ (T198.setTop (mkF m 240 #[.val (.int p0), .val (.int p1), .val (.int p2), .val (.long l1), .second, .val (.long l2), .second, .val (.long l3), .second, .val (.ref b184), .val (.int (0 : Int32)), .val (.int (1 : Int32)), .val (.double AL), .second, .val (.double BD), .second, .val (.int (1 : Int32)), .val (.long (((0 : Int64) + (1 : Int64)) + (1 : Int64))), .second, .val (.double BD), .second, .val (.double AL), .second, .val (.int (1 : Int32))] []))
    refine go (fun _ => XS.iload X198.here hx rfl (hb hby at_240) rfl) ?_
    show Run p e below _ (T198.setTop (mkF m 242 #[.val (.int p0), .val (.int p1), .val (.int p2), .val (.long l1), .second, .val (.long l2), .second, .val (.long l3), .second, .val (.ref b184), .val (.int (0 : Int32)), .val (.int (1 : Int32)), .val (.double AL), .second, .val (.double BD), .second, .val (.int (1 : Int32)), .val (.long (((0 : Int64) + (1 : Int64)) + (1 : Int64))), .second, .val (.double BD), .second, .val (.double AL), .second, .val (.int (1 : Int32))] [(.int (1 : Int32))]))
    refine go (fun _ => XS.ifNo X198.here hx rfl (hb hby at_242) rfl ((if0 _ _).trans (feq (by decide : ¬ ((1 : Int32) = 0))).1)) ?_
    show Run p e below _ (T198.setTop (mkF m 245 #[.val (.int p0), .val (.int p1), .val (.int p2), .val (.long l1), .second, .val (.long l2), .second, .val (.long l3), .second, .val (.ref b184), .val (.int (0 : Int32)), .val (.int (1 : Int32)), .val (.double AL), .second, .val (.double BD), .second, .val (.int (1 : Int32)), .val (.long (((0 : Int64) + (1 : Int64)) + (1 : Int64))), .second, .val (.double BD), .second, .val (.double AL), .second, .val (.int (1 : Int32))] []))
    refine go (fun _ => XS.dload X198.here hx rfl (hb hby at_245) rfl) ?_
    show Run p e below _ (T198.setTop (mkF m 247 #[.val (.int p0), .val (.int p1), .val (.int p2), .val (.long l1), .second, .val (.long l2), .second, .val (.long l3), .second, .val (.ref b184), .val (.int (0 : Int32)), .val (.int (1 : Int32)), .val (.double AL), .second, .val (.double BD), .second, .val (.int (1 : Int32)), .val (.long (((0 : Int64) + (1 : Int64)) + (1 : Int64))), .second, .val (.double BD), .second, .val (.double AL), .second, .val (.int (1 : Int32))] [(.double BD)]))
    refine go (fun _ => XS.dload X198.here hx rfl (hb hby at_247) rfl) ?_
    show Run p e below _ (T198.setTop (mkF m 249 #[.val (.int p0), .val (.int p1), .val (.int p2), .val (.long l1), .second, .val (.long l2), .second, .val (.long l3), .second, .val (.ref b184), .val (.int (0 : Int32)), .val (.int (1 : Int32)), .val (.double AL), .second, .val (.double BD), .second, .val (.int (1 : Int32)), .val (.long (((0 : Int64) + (1 : Int64)) + (1 : Int64))), .second, .val (.double BD), .second, .val (.double AL), .second, .val (.int (1 : Int32))] [(.double BD), (.double BD)]))
    refine go (fun _ => XS.dcmpS X198.here hx rfl (hb hby at_249) rfl (v := (0 : Int32)) (dcmpV_self nB .l)) ?_
    show Run p e below _ (T198.setTop (mkF m 250 #[.val (.int p0), .val (.int p1), .val (.int p2), .val (.long l1), .second, .val (.long l2), .second, .val (.long l3), .second, .val (.ref b184), .val (.int (0 : Int32)), .val (.int (1 : Int32)), .val (.double AL), .second, .val (.double BD), .second, .val (.int (1 : Int32)), .val (.long (((0 : Int64) + (1 : Int64)) + (1 : Int64))), .second, .val (.double BD), .second, .val (.double AL), .second, .val (.int (1 : Int32))] [(.int (0 : Int32))]))
    refine go (fun _ => XS.ifNo X198.here hx rfl (hb hby at_250) rfl ((if0 _ _).trans (teq (by decide : (0 : Int32) = 0)).2)) ?_
    show Run p e below _ (T198.setTop (mkF m 253 #[.val (.int p0), .val (.int p1), .val (.int p2), .val (.long l1), .second, .val (.long l2), .second, .val (.long l3), .second, .val (.ref b184), .val (.int (0 : Int32)), .val (.int (1 : Int32)), .val (.double AL), .second, .val (.double BD), .second, .val (.int (1 : Int32)), .val (.long (((0 : Int64) + (1 : Int64)) + (1 : Int64))), .second, .val (.double BD), .second, .val (.double AL), .second, .val (.int (1 : Int32))] []))
    refine go (fun _ => XS.iconst X198.here hx rfl (hb hby at_253)) ?_
    show Run p e below _ (T198.setTop (mkF m 254 #[.val (.int p0), .val (.int p1), .val (.int p2), .val (.long l1), .second, .val (.long l2), .second, .val (.long l3), .second, .val (.ref b184), .val (.int (0 : Int32)), .val (.int (1 : Int32)), .val (.double AL), .second, .val (.double BD), .second, .val (.int (1 : Int32)), .val (.long (((0 : Int64) + (1 : Int64)) + (1 : Int64))), .second, .val (.double BD), .second, .val (.double AL), .second, .val (.int (1 : Int32))] [(.int (1 : Int32))]))
    refine go (fun _ => XS.goto X198.here hx rfl (pc0 := 254) (pc' := 258) rfl (hb hby at_254) (by decide) (by decide)) ?_
    show Run p e below _ (T198.setTop (mkF m 258 #[.val (.int p0), .val (.int p1), .val (.int p2), .val (.long l1), .second, .val (.long l2), .second, .val (.long l3), .second, .val (.ref b184), .val (.int (0 : Int32)), .val (.int (1 : Int32)), .val (.double AL), .second, .val (.double BD), .second, .val (.int (1 : Int32)), .val (.long (((0 : Int64) + (1 : Int64)) + (1 : Int64))), .second, .val (.double BD), .second, .val (.double AL), .second, .val (.int (1 : Int32))] [(.int (1 : Int32))]))
    refine go (fun _ => XS.istore X198.here hx rfl (hb hby at_258) rfl (l' := #[.val (.int p0), .val (.int p1), .val (.int p2), .val (.long l1), .second, .val (.long l2), .second, .val (.long l3), .second, .val (.ref b184), .val (.int (0 : Int32)), .val (.int (1 : Int32)), .val (.double AL), .second, .val (.double BD), .second, .val (.int (1 : Int32)), .val (.long (((0 : Int64) + (1 : Int64)) + (1 : Int64))), .second, .val (.double BD), .second, .val (.double AL), .second, .val (.int (1 : Int32))]) rfl) ?_
    show Run p e below _ (T198.setTop (mkF m 260 #[.val (.int p0), .val (.int p1), .val (.int p2), .val (.long l1), .second, .val (.long l2), .second, .val (.long l3), .second, .val (.ref b184), .val (.int (0 : Int32)), .val (.int (1 : Int32)), .val (.double AL), .second, .val (.double BD), .second, .val (.int (1 : Int32)), .val (.long (((0 : Int64) + (1 : Int64)) + (1 : Int64))), .second, .val (.double BD), .second, .val (.double AL), .second, .val (.int (1 : Int32))] []))
    refine go (fun _ => XS.iload X198.here hx rfl (hb hby at_260) rfl) ?_
    show Run p e below _ (T198.setTop (mkF m 262 #[.val (.int p0), .val (.int p1), .val (.int p2), .val (.long l1), .second, .val (.long l2), .second, .val (.long l3), .second, .val (.ref b184), .val (.int (0 : Int32)), .val (.int (1 : Int32)), .val (.double AL), .second, .val (.double BD), .second, .val (.int (1 : Int32)), .val (.long (((0 : Int64) + (1 : Int64)) + (1 : Int64))), .second, .val (.double BD), .second, .val (.double AL), .second, .val (.int (1 : Int32))] [(.int (1 : Int32))]))
    exact endN X198 hx hlk (t := .boolean) hret (by simp) (hb hby at_262) (⟨rfl, N198⟩) (by decide) (by decide)
  · skip
    refine go (fun _ => XS.ifNo X189.here hx rfl (hb hby at_51) rfl ((if0 _ _).trans (feq c190).1)) ?_
    show Run p e below _ (T189.setTop (mkF m 54 #[.val (.int p0), .val (.int p1), .val (.int p2), .val (.long l1), .second, .val (.long l2), .second, .val (.long l3), .second, .val (.ref b184), .unset, .unset, .unset, .unset, .unset, .unset, .unset, .unset, .unset, .unset, .unset, .unset, .unset, .unset] []))
    refine go (fun _ => XS.iconst X189.here hx rfl (hb hby at_54)) ?_
    show Run p e below _ (T189.setTop (mkF m 55 #[.val (.int p0), .val (.int p1), .val (.int p2), .val (.long l1), .second, .val (.long l2), .second, .val (.long l3), .second, .val (.ref b184), .unset, .unset, .unset, .unset, .unset, .unset, .unset, .unset, .unset, .unset, .unset, .unset, .unset, .unset] [(.int (1 : Int32))]))
    refine go (fun _ => XS.goto X189.here hx rfl (pc0 := 55) (pc' := 59) rfl (hb hby at_55) (by decide) (by decide)) ?_
    show Run p e below _ (T189.setTop (mkF m 59 #[.val (.int p0), .val (.int p1), .val (.int p2), .val (.long l1), .second, .val (.long l2), .second, .val (.long l3), .second, .val (.ref b184), .unset, .unset, .unset, .unset, .unset, .unset, .unset, .unset, .unset, .unset, .unset, .unset, .unset, .unset] [(.int (1 : Int32))]))
    refine go (fun _ => XS.istore X189.here hx rfl (hb hby at_59) rfl (l' := #[.val (.int p0), .val (.int p1), .val (.int p2), .val (.long l1), .second, .val (.long l2), .second, .val (.long l3), .second, .val (.ref b184), .val (.int (1 : Int32)), .unset, .unset, .unset, .unset, .unset, .unset, .unset, .unset, .unset, .unset, .unset, .unset, .unset]) rfl) ?_
    show Run p e below _ (T189.setTop (mkF m 61 #[.val (.int p0), .val (.int p1), .val (.int p2), .val (.long l1), .second, .val (.long l2), .second, .val (.long l3), .second, .val (.ref b184), .val (.int (1 : Int32)), .unset, .unset, .unset, .unset, .unset, .unset, .unset, .unset, .unset, .unset, .unset, .unset, .unset] []))
    refine go (fun _ => XS.iload X189.here hx rfl (hb hby at_61) rfl) ?_
    show Run p e below _ (T189.setTop (mkF m 63 #[.val (.int p0), .val (.int p1), .val (.int p2), .val (.long l1), .second, .val (.long l2), .second, .val (.long l3), .second, .val (.ref b184), .val (.int (1 : Int32)), .unset, .unset, .unset, .unset, .unset, .unset, .unset, .unset, .unset, .unset, .unset, .unset, .unset] [(.int (1 : Int32))]))
    refine go (fun _ => XS.ifNo X189.here hx rfl (hb hby at_63) rfl ((if0 _ _).trans (feq (by decide : ¬ ((1 : Int32) = 0))).1)) ?_
    show Run p e below _ (T189.setTop (mkF m 66 #[.val (.int p0), .val (.int p1), .val (.int p2), .val (.long l1), .second, .val (.long l2), .second, .val (.long l3), .second, .val (.ref b184), .val (.int (1 : Int32)), .unset, .unset, .unset, .unset, .unset, .unset, .unset, .unset, .unset, .unset, .unset, .unset, .unset] []))
    refine go (fun _ => XS.iconst X189.here hx rfl (hb hby at_66)) ?_
    show Run p e below _ (T189.setTop (mkF m 67 #[.val (.int p0), .val (.int p1), .val (.int p2), .val (.long l1), .second, .val (.long l2), .second, .val (.long l3), .second, .val (.ref b184), .val (.int (1 : Int32)), .unset, .unset, .unset, .unset, .unset, .unset, .unset, .unset, .unset, .unset, .unset, .unset, .unset] [(.int (2 : Int32))]))
    refine go (fun _ => XS.goto X189.here hx rfl (pc0 := 67) (pc' := 71) rfl (hb hby at_67) (by decide) (by decide)) ?_
    show Run p e below _ (T189.setTop (mkF m 71 #[.val (.int p0), .val (.int p1), .val (.int p2), .val (.long l1), .second, .val (.long l2), .second, .val (.long l3), .second, .val (.ref b184), .val (.int (1 : Int32)), .unset, .unset, .unset, .unset, .unset, .unset, .unset, .unset, .unset, .unset, .unset, .unset, .unset] [(.int (2 : Int32))]))
    refine go (fun _ => XS.istore X189.here hx rfl (hb hby at_71) rfl (l' := #[.val (.int p0), .val (.int p1), .val (.int p2), .val (.long l1), .second, .val (.long l2), .second, .val (.long l3), .second, .val (.ref b184), .val (.int (1 : Int32)), .val (.int (2 : Int32)), .unset, .unset, .unset, .unset, .unset, .unset, .unset, .unset, .unset, .unset, .unset, .unset]) rfl) ?_
    show Run p e below _ (T189.setTop (mkF m 73 #[.val (.int p0), .val (.int p1), .val (.int p2), .val (.long l1), .second, .val (.long l2), .second, .val (.long l3), .second, .val (.ref b184), .val (.int (1 : Int32)), .val (.int (2 : Int32)), .unset, .unset, .unset, .unset, .unset, .unset, .unset, .unset, .unset, .unset, .unset, .unset] []))
    refine go (fun _ => XS.iloadN X189.here hx rfl (hb hby at_73) rfl) ?_
    show Run p e below _ (T189.setTop (mkF m 74 #[.val (.int p0), .val (.int p1), .val (.int p2), .val (.long l1), .second, .val (.long l2), .second, .val (.long l3), .second, .val (.ref b184), .val (.int (1 : Int32)), .val (.int (2 : Int32)), .unset, .unset, .unset, .unset, .unset, .unset, .unset, .unset, .unset, .unset, .unset, .unset] [(.int p0)]))
    refine go (fun _ => XS.sipush X189.here hx rfl (hb hby at_74)) ?_
    show Run p e below _ (T189.setTop (mkF m 77 #[.val (.int p0), .val (.int p1), .val (.int p2), .val (.long l1), .second, .val (.long l2), .second, .val (.long l3), .second, .val (.ref b184), .val (.int (1 : Int32)), .val (.int (2 : Int32)), .unset, .unset, .unset, .unset, .unset, .unset, .unset, .unset, .unset, .unset, .unset, .unset] [(.int (1023 : Int32)), (.int p0)]))
    refine go (fun _ => XS.iand X189.here hx rfl (hb hby at_77) rfl) ?_
    show Run p e below _ (T189.setTop (mkF m 78 #[.val (.int p0), .val (.int p1), .val (.int p2), .val (.long l1), .second, .val (.long l2), .second, .val (.long l3), .second, .val (.ref b184), .val (.int (1 : Int32)), .val (.int (2 : Int32)), .unset, .unset, .unset, .unset, .unset, .unset, .unset, .unset, .unset, .unset, .unset, .unset] [(.int (p0 &&& (1023 : Int32)))]))
    refine go (fun _ => XS.iconst X189.here hx rfl (hb hby at_78)) ?_
    show Run p e below _ (T189.setTop (mkF m 79 #[.val (.int p0), .val (.int p1), .val (.int p2), .val (.long l1), .second, .val (.long l2), .second, .val (.long l3), .second, .val (.ref b184), .val (.int (1 : Int32)), .val (.int (2 : Int32)), .unset, .unset, .unset, .unset, .unset, .unset, .unset, .unset, .unset, .unset, .unset, .unset] [(.int (1 : Int32)), (.int (p0 &&& (1023 : Int32)))]))
    refine go (fun _ => XS.iadd X189.here hx rfl (hb hby at_79) rfl) ?_
    show Run p e below _ (T189.setTop (mkF m 80 #[.val (.int p0), .val (.int p1), .val (.int p2), .val (.long l1), .second, .val (.long l2), .second, .val (.long l3), .second, .val (.ref b184), .val (.int (1 : Int32)), .val (.int (2 : Int32)), .unset, .unset, .unset, .unset, .unset, .unset, .unset, .unset, .unset, .unset, .unset, .unset] [(.int ((p0 &&& (1023 : Int32)) + (1 : Int32)))]))
    refine go (fun _ => XS.i2dS X189.here hx rfl (hb hby at_80) rfl (i2d_w ((p0 &&& (1023 : Int32)) + (1 : Int32)))) ?_
    show Run p e below _ (T189.setTop (mkF m 81 #[.val (.int p0), .val (.int p1), .val (.int p2), .val (.long l1), .second, .val (.long l2), .second, .val (.long l3), .second, .val (.ref b184), .val (.int (1 : Int32)), .val (.int (2 : Int32)), .unset, .unset, .unset, .unset, .unset, .unset, .unset, .unset, .unset, .unset, .unset, .unset] [(.double (FP.l2d ((p0 &&& (1023 : Int32)) + (1 : Int32)).toInt64))]))
    refine go (fun _ => X189.ldc2DoubleC hx hown (mvT hZ (wd hw 93 rfl)) (g := (mkF m 81 #[.val (.int p0), .val (.int p1), .val (.int p2), .val (.long l1), .second, .val (.long l2), .second, .val (.long l3), .second, .val (.ref b184), .val (.int (1 : Int32)), .val (.int (2 : Int32)), .unset, .unset, .unset, .unset, .unset, .unset, .unset, .unset, .unset, .unset, .unset, .unset] [(.double (FP.l2d ((p0 &&& (1023 : Int32)) + (1 : Int32)).toInt64))])) rfl (hb hby at_81) _) ?_
    show Run p e below _ (T189.setTop (mkF m 84 #[.val (.int p0), .val (.int p1), .val (.int p2), .val (.long l1), .second, .val (.long l2), .second, .val (.long l3), .second, .val (.ref b184), .val (.int (1 : Int32)), .val (.int (2 : Int32)), .unset, .unset, .unset, .unset, .unset, .unset, .unset, .unset, .unset, .unset, .unset, .unset] [(.double (4652222813120233472 : UInt64)), (.double (FP.l2d ((p0 &&& (1023 : Int32)) + (1 : Int32)).toInt64))]))
    obtain ⟨AL, hAL⟩ : ∃ z, z = (FP.ddiv (FP.l2d ((p0 &&& (1023 : Int32)) + (1 : Int32)).toInt64) (4652222813120233472 : UInt64)) := ⟨_, rfl⟩
    have FA : OwnB.Fa AL := hAL ▸ OwnB.al_eq p0
    have pA : 0 < AL := UInt64.lt_trans FA.2.2.2.2.2.2.1 FA.2.2.2.2.2.2.2
    refine go (fun _ => XS.ddivS X189.here hx rfl (hb hby at_84) rfl (hAL ▸ (OwnB.fa_nn FA)) hAL.symm) ?_
    show Run p e below _ (T189.setTop (mkF m 85 #[.val (.int p0), .val (.int p1), .val (.int p2), .val (.long l1), .second, .val (.long l2), .second, .val (.long l3), .second, .val (.ref b184), .val (.int (1 : Int32)), .val (.int (2 : Int32)), .unset, .unset, .unset, .unset, .unset, .unset, .unset, .unset, .unset, .unset, .unset, .unset] [(.double AL)]))
    refine go (fun _ => XS.dstore X189.here hx rfl (hb hby at_85) rfl (l' := #[.val (.int p0), .val (.int p1), .val (.int p2), .val (.long l1), .second, .val (.long l2), .second, .val (.long l3), .second, .val (.ref b184), .val (.int (1 : Int32)), .val (.int (2 : Int32)), .val (.double AL), .second, .unset, .unset, .unset, .unset, .unset, .unset, .unset, .unset, .unset, .unset]) rfl) ?_
    show Run p e below _ (T189.setTop (mkF m 87 #[.val (.int p0), .val (.int p1), .val (.int p2), .val (.long l1), .second, .val (.long l2), .second, .val (.long l3), .second, .val (.ref b184), .val (.int (1 : Int32)), .val (.int (2 : Int32)), .val (.double AL), .second, .unset, .unset, .unset, .unset, .unset, .unset, .unset, .unset, .unset, .unset] []))
    refine go (fun _ => XS.aload X189.here hx rfl (hb hby at_87) rfl rfl) ?_
    show Run p e below _ (T189.setTop (mkF m 89 #[.val (.int p0), .val (.int p1), .val (.int p2), .val (.long l1), .second, .val (.long l2), .second, .val (.long l3), .second, .val (.ref b184), .val (.int (1 : Int32)), .val (.int (2 : Int32)), .val (.double AL), .second, .unset, .unset, .unset, .unset, .unset, .unset, .unset, .unset, .unset, .unset] [(.ref b184)]))
    refine go (fun _ => XS.dload X189.here hx rfl (hb hby at_89) rfl) ?_
    show Run p e below _ (T189.setTop (mkF m 91 #[.val (.int p0), .val (.int p1), .val (.int p2), .val (.long l1), .second, .val (.long l2), .second, .val (.long l3), .second, .val (.ref b184), .val (.int (1 : Int32)), .val (.int (2 : Int32)), .val (.double AL), .second, .unset, .unset, .unset, .unset, .unset, .unset, .unset, .unset, .unset, .unset] [(.double AL), (.ref b184)]))
    refine go (fun _ => XS.iloadN X189.here hx rfl (hb hby at_91) rfl) ?_
    show Run p e below _ (T189.setTop (mkF m 92 #[.val (.int p0), .val (.int p1), .val (.int p2), .val (.long l1), .second, .val (.long l2), .second, .val (.long l3), .second, .val (.ref b184), .val (.int (1 : Int32)), .val (.int (2 : Int32)), .val (.double AL), .second, .unset, .unset, .unset, .unset, .unset, .unset, .unset, .unset, .unset, .unset] [(.int p2), (.double AL), (.ref b184)]))
    refine go (fun _ => XS.iload X189.here hx rfl (hb hby at_92) rfl) ?_
    show Run p e below _ (T189.setTop (mkF m 94 #[.val (.int p0), .val (.int p1), .val (.int p2), .val (.long l1), .second, .val (.long l2), .second, .val (.long l3), .second, .val (.ref b184), .val (.int (1 : Int32)), .val (.int (2 : Int32)), .val (.double AL), .second, .unset, .unset, .unset, .unset, .unset, .unset, .unset, .unset, .unset, .unset] [(.int (2 : Int32)), (.int p2), (.double AL), (.ref b184)]))
    refine callVi X189 hx hZ hown (wd hw 25 rfl) (wd hw 26 rfl) (notFace_of_selects (args := #[]) (mvT hZ (wd hw 28 rfl))) (wd hw 28 rfl) (wd hw 27 rfl) (wd hw 29 rfl) (wd hw 2 rfl) (by decide) e189 E_b184 (argsL := [(.double AL), (.int p2), (.int (2 : Int32))]) (rest := []) (rm_rs l Z a0 hw [] b184 (4604930618986332160 : UInt64) (4598175219545276416 : UInt64) (3 : Int32) (1 : Int32) (1 : Int32) (((0 : Int64) + (1 : Int64)) + (1 : Int64)) (1 : Int32) (1 : Int32) s1 s2 s3 s4 AL p2 (2 : Int32) h189 n0 O0 E_b184 F_leftOut_b184 F_slots_b184 F_published_b184 F_scores_b184 F_shares_b184 F_alpha_b184 F_keywords_b184 F_count_b184 F_size_b184 F_scored_b184 F_ordered_b184 F_heap_b184 g_b184 ) (W := 0) (by decide) (by decide) (by decide) (by decide) (by rw [hml]; rfl) (lenOf pd_13 rfl) rfl (Nat.le_of_eq rfl) (hb hby at_94) ?_
    intro v199 T199 L199 h199 X199 e199 q199
    obtain ⟨rv, n199, K199, E_b184, F_leftOut_b184, F_slots_b184, F_published_b184, F_scores_b184, F_shares_b184, F_alpha_b184, F_keywords_b184, F_count_b184, F_size_b184, F_scored_b184, F_ordered_b184, F_heap_b184⟩ := q199
    subst rv
    have O0 := O0.keep K199 (allS g_b184 all0)
    have V_s1 := V_s1.keep K199 (ninS ne_s1_b184 nin0)
    have V_s2 := V_s2.keep K199 (ninS ne_s2_b184 nin0)
    have V_s3 := V_s3.keep K199 (ninS ne_s3_b184 nin0)
    have V_s4 := V_s4.keep K199 (ninS ne_s4_b184 nin0)
    have N199 := Fr.app N189 n199
    show Run p e below _ (T199.setTop (mkF m 97 #[.val (.int p0), .val (.int p1), .val (.int p2), .val (.long l1), .second, .val (.long l2), .second, .val (.long l3), .second, .val (.ref b184), .val (.int (1 : Int32)), .val (.int (2 : Int32)), .val (.double AL), .second, .unset, .unset, .unset, .unset, .unset, .unset, .unset, .unset, .unset, .unset] []))
    refine go (fun _ => XS.aload X199.here hx rfl (hb hby at_97) rfl rfl) ?_
    show Run p e below _ (T199.setTop (mkF m 99 #[.val (.int p0), .val (.int p1), .val (.int p2), .val (.long l1), .second, .val (.long l2), .second, .val (.long l3), .second, .val (.ref b184), .val (.int (1 : Int32)), .val (.int (2 : Int32)), .val (.double AL), .second, .unset, .unset, .unset, .unset, .unset, .unset, .unset, .unset, .unset, .unset] [(.ref b184)]))
    refine go (fun _ => XS.bipush X199.here hx rfl (hb hby at_99)) ?_
    show Run p e below _ (T199.setTop (mkF m 101 #[.val (.int p0), .val (.int p1), .val (.int p2), .val (.long l1), .second, .val (.long l2), .second, .val (.long l3), .second, .val (.ref b184), .val (.int (1 : Int32)), .val (.int (2 : Int32)), .val (.double AL), .second, .unset, .unset, .unset, .unset, .unset, .unset, .unset, .unset, .unset, .unset] [(.int (10 : Int32)), (.ref b184)]))
    refine go (fun _ => XS.lloadN X199.here hx rfl (hb hby at_101) rfl) ?_
    show Run p e below _ (T199.setTop (mkF m 102 #[.val (.int p0), .val (.int p1), .val (.int p2), .val (.long l1), .second, .val (.long l2), .second, .val (.long l3), .second, .val (.ref b184), .val (.int (1 : Int32)), .val (.int (2 : Int32)), .val (.double AL), .second, .unset, .unset, .unset, .unset, .unset, .unset, .unset, .unset, .unset, .unset] [(.long l1), (.int (10 : Int32)), (.ref b184)]))
    refine go (fun _ => XS.dconst1 X199.here hx rfl (hb hby at_102) (v := (4607182418800017408 : UInt64)) rfl) ?_
    show Run p e below _ (T199.setTop (mkF m 103 #[.val (.int p0), .val (.int p1), .val (.int p2), .val (.long l1), .second, .val (.long l2), .second, .val (.long l3), .second, .val (.ref b184), .val (.int (1 : Int32)), .val (.int (2 : Int32)), .val (.double AL), .second, .unset, .unset, .unset, .unset, .unset, .unset, .unset, .unset, .unset, .unset] [(.double (4607182418800017408 : UInt64)), (.long l1), (.int (10 : Int32)), (.ref b184)]))
    refine go (fun _ => XS.iconst X199.here hx rfl (hb hby at_103)) ?_
    show Run p e below _ (T199.setTop (mkF m 104 #[.val (.int p0), .val (.int p1), .val (.int p2), .val (.long l1), .second, .val (.long l2), .second, .val (.long l3), .second, .val (.ref b184), .val (.int (1 : Int32)), .val (.int (2 : Int32)), .val (.double AL), .second, .unset, .unset, .unset, .unset, .unset, .unset, .unset, .unset, .unset, .unset] [(.int (0 : Int32)), (.double (4607182418800017408 : UInt64)), (.long l1), (.int (10 : Int32)), (.ref b184)]))
    refine go (fun _ => XS.iconst X199.here hx rfl (hb hby at_104)) ?_
    show Run p e below _ (T199.setTop (mkF m 105 #[.val (.int p0), .val (.int p1), .val (.int p2), .val (.long l1), .second, .val (.long l2), .second, .val (.long l3), .second, .val (.ref b184), .val (.int (1 : Int32)), .val (.int (2 : Int32)), .val (.double AL), .second, .unset, .unset, .unset, .unset, .unset, .unset, .unset, .unset, .unset, .unset] [(.int (1 : Int32)), (.int (0 : Int32)), (.double (4607182418800017408 : UInt64)), (.long l1), (.int (10 : Int32)), (.ref b184)]))
    refine callVi X199 hx hZ hown (wd hw 45 rfl) (wd hw 46 rfl) (notFace_of_selects (args := #[]) (mvT hZ (wd hw 48 rfl))) (wd hw 48 rfl) (wd hw 47 rfl) (wd hw 49 rfl) (wd hw 2 rfl) (by decide) e199 E_b184 (argsL := [(.int (10 : Int32)), (.long l1), (.double (4607182418800017408 : UInt64)), (.int (0 : Int32)), (.int (1 : Int32))]) (rest := []) (rm_of10 l Z a0 hw [] b184 (18442240474082181120 : UInt64) AL p2 (2 : Int32) (0 : Int64) (0 : Int32) s1 s2 s3 s4 ks1 ks2 ks3 ks4 (1 : Int32) (0 : Int32) (100 : Int64) (0 : Int64) (4607182418800017408 : UInt64) (0 : UInt64) (nar .char (shv (1 : Int32) (1 : Int32))) (0 : Int32) (10 : Int32) l1 (4607182418800017408 : UInt64) (0 : UInt64) AL (0 : Int32) (1 : Int32) h199 n0 O0 E_b184 F_leftOut_b184 F_slots_b184 F_published_b184 F_scores_b184 F_shares_b184 F_alpha_b184 F_keywords_b184 F_count_b184 F_size_b184 F_scored_b184 F_ordered_b184 F_heap_b184 V_s1 V_s2 V_s3 V_s4 ne_s1_s2 ne_s1_s3 ne_s1_s4 ne_s2_s3 ne_s2_s4 ne_s3_s4 g_s1 g_s2 g_s3 g_s4 g_b184 (by decide) OwnB.nn0 OwnB.j01.symm (OwnB.fa_s1 FA) (OwnB.fa_u1 FA) (OwnB.fa_u2 FA) (OwnB.fa_u3 FA) (OwnB.fa_u4 FA)) (W := 0) (by decide) (by decide) (by decide) (by decide) (by rw [hml]; rfl) (lenOf pd_14 rfl) rfl (Nat.le_of_eq rfl) (hb hby at_105) ?_
    intro v200 T200 L200 h200 X200 e200 q200
    obtain ⟨rv, n200, K200, E_b184, F_leftOut_b184, F_slots_b184, F_published_b184, F_scores_b184, F_shares_b184, F_alpha_b184, F_keywords_b184, F_count_b184, F_size_b184, F_scored_b184, F_ordered_b184, F_heap_b184, V_s1, V_s2, V_s3, V_s4⟩ := q200
    subst rv
    have O0 := O0.keep K200 (allS g_b184 (allS g_s1 (allS g_s2 (allS g_s3 (allS g_s4 all0)))))
    have N200 := Fr.app N199 n200
    show Run p e below _ (T200.setTop (mkF m 108 #[.val (.int p0), .val (.int p1), .val (.int p2), .val (.long l1), .second, .val (.long l2), .second, .val (.long l3), .second, .val (.ref b184), .val (.int (1 : Int32)), .val (.int (2 : Int32)), .val (.double AL), .second, .unset, .unset, .unset, .unset, .unset, .unset, .unset, .unset, .unset, .unset] []))
    refine go (fun _ => XS.aload X200.here hx rfl (hb hby at_108) rfl rfl) ?_
    show Run p e below _ (T200.setTop (mkF m 110 #[.val (.int p0), .val (.int p1), .val (.int p2), .val (.long l1), .second, .val (.long l2), .second, .val (.long l3), .second, .val (.ref b184), .val (.int (1 : Int32)), .val (.int (2 : Int32)), .val (.double AL), .second, .unset, .unset, .unset, .unset, .unset, .unset, .unset, .unset, .unset, .unset] [(.ref b184)]))
    refine go (fun _ => XS.bipush X200.here hx rfl (hb hby at_110)) ?_
    show Run p e below _ (T200.setTop (mkF m 112 #[.val (.int p0), .val (.int p1), .val (.int p2), .val (.long l1), .second, .val (.long l2), .second, .val (.long l3), .second, .val (.ref b184), .val (.int (1 : Int32)), .val (.int (2 : Int32)), .val (.double AL), .second, .unset, .unset, .unset, .unset, .unset, .unset, .unset, .unset, .unset, .unset] [(.int (11 : Int32)), (.ref b184)]))
    refine go (fun _ => XS.lload X200.here hx rfl (hb hby at_112) rfl) ?_
    show Run p e below _ (T200.setTop (mkF m 114 #[.val (.int p0), .val (.int p1), .val (.int p2), .val (.long l1), .second, .val (.long l2), .second, .val (.long l3), .second, .val (.ref b184), .val (.int (1 : Int32)), .val (.int (2 : Int32)), .val (.double AL), .second, .unset, .unset, .unset, .unset, .unset, .unset, .unset, .unset, .unset, .unset] [(.long l2), (.int (11 : Int32)), (.ref b184)]))
    refine go (fun _ => XS.dconst0 X200.here hx rfl (hb hby at_114) (v := (0 : UInt64)) rfl) ?_
    show Run p e below _ (T200.setTop (mkF m 115 #[.val (.int p0), .val (.int p1), .val (.int p2), .val (.long l1), .second, .val (.long l2), .second, .val (.long l3), .second, .val (.ref b184), .val (.int (1 : Int32)), .val (.int (2 : Int32)), .val (.double AL), .second, .unset, .unset, .unset, .unset, .unset, .unset, .unset, .unset, .unset, .unset] [(.double (0 : UInt64)), (.long l2), (.int (11 : Int32)), (.ref b184)]))
    refine go (fun _ => XS.iconst X200.here hx rfl (hb hby at_115)) ?_
    show Run p e below _ (T200.setTop (mkF m 116 #[.val (.int p0), .val (.int p1), .val (.int p2), .val (.long l1), .second, .val (.long l2), .second, .val (.long l3), .second, .val (.ref b184), .val (.int (1 : Int32)), .val (.int (2 : Int32)), .val (.double AL), .second, .unset, .unset, .unset, .unset, .unset, .unset, .unset, .unset, .unset, .unset] [(.int (0 : Int32)), (.double (0 : UInt64)), (.long l2), (.int (11 : Int32)), (.ref b184)]))
    refine go (fun _ => XS.iconst X200.here hx rfl (hb hby at_116)) ?_
    show Run p e below _ (T200.setTop (mkF m 117 #[.val (.int p0), .val (.int p1), .val (.int p2), .val (.long l1), .second, .val (.long l2), .second, .val (.long l3), .second, .val (.ref b184), .val (.int (1 : Int32)), .val (.int (2 : Int32)), .val (.double AL), .second, .unset, .unset, .unset, .unset, .unset, .unset, .unset, .unset, .unset, .unset] [(.int (1 : Int32)), (.int (0 : Int32)), (.double (0 : UInt64)), (.long l2), (.int (11 : Int32)), (.ref b184)]))
    refine callVi X200 hx hZ hown (wd hw 45 rfl) (wd hw 46 rfl) (notFace_of_selects (args := #[]) (mvT hZ (wd hw 48 rfl))) (wd hw 48 rfl) (wd hw 47 rfl) (wd hw 49 rfl) (wd hw 2 rfl) (by decide) e200 E_b184 (argsL := [(.int (11 : Int32)), (.long l2), (.double (0 : UInt64)), (.int (0 : Int32)), (.int (1 : Int32))]) (rest := []) (rm_of11 l Z a0 hw [] b184 (18442240474082181120 : UInt64) AL p2 (2 : Int32) ((0 : Int64) + (1 : Int64)) (0 : Int32) s1 s2 s3 s4 ks1 ks2 ks3 ks4 (10 : Int32) (0 : Int32) l1 (0 : Int64) AL (0 : UInt64) (nar .char (shv (0 : Int32) (1 : Int32))) (0 : Int32) (11 : Int32) l2 (0 : UInt64) (0 : UInt64) (0 : UInt64) (0 : Int32) (1 : Int32) h200 n0 O0 E_b184 F_leftOut_b184 F_slots_b184 F_published_b184 F_scores_b184 F_shares_b184 F_alpha_b184 F_keywords_b184 F_count_b184 F_size_b184 F_scored_b184 F_ordered_b184 F_heap_b184 V_s1 V_s2 V_s3 V_s4 ne_s1_s2 ne_s1_s3 ne_s1_s4 ne_s2_s3 ne_s2_s4 ne_s3_s4 g_s1 g_s2 g_s3 g_s4 g_b184 (by decide) OwnB.nn0 OwnB.j01.symm (OwnB.fa_s0 FA) (OwnB.fa_u1z FA) (OwnB.fa_u2 FA) (OwnB.fa_u3 FA) (OwnB.fa_u4z FA)) (W := 0) (by decide) (by decide) (by decide) (by decide) (by rw [hml]; rfl) (lenOf pd_14 rfl) rfl (Nat.le_of_eq rfl) (hb hby at_117) ?_
    intro v201 T201 L201 h201 X201 e201 q201
    obtain ⟨rv, n201, K201, E_b184, F_leftOut_b184, F_slots_b184, F_published_b184, F_scores_b184, F_shares_b184, F_alpha_b184, F_keywords_b184, F_count_b184, F_size_b184, F_scored_b184, F_ordered_b184, F_heap_b184, V_s1, V_s2, V_s3, V_s4⟩ := q201
    subst rv
    have O0 := O0.keep K201 (allS g_b184 (allS g_s1 (allS g_s2 (allS g_s3 (allS g_s4 all0)))))
    have N201 := Fr.app N200 n201
    show Run p e below _ (T201.setTop (mkF m 120 #[.val (.int p0), .val (.int p1), .val (.int p2), .val (.long l1), .second, .val (.long l2), .second, .val (.long l3), .second, .val (.ref b184), .val (.int (1 : Int32)), .val (.int (2 : Int32)), .val (.double AL), .second, .unset, .unset, .unset, .unset, .unset, .unset, .unset, .unset, .unset, .unset] []))
    refine go (fun _ => XS.dload X201.here hx rfl (hb hby at_120) rfl) ?_
    show Run p e below _ (T201.setTop (mkF m 122 #[.val (.int p0), .val (.int p1), .val (.int p2), .val (.long l1), .second, .val (.long l2), .second, .val (.long l3), .second, .val (.ref b184), .val (.int (1 : Int32)), .val (.int (2 : Int32)), .val (.double AL), .second, .unset, .unset, .unset, .unset, .unset, .unset, .unset, .unset, .unset, .unset] [(.double AL)]))
    refine go (fun _ => X201.ldc2DoubleC hx hown (mvT hZ (wd hw 94 rfl)) (g := (mkF m 122 #[.val (.int p0), .val (.int p1), .val (.int p2), .val (.long l1), .second, .val (.long l2), .second, .val (.long l3), .second, .val (.ref b184), .val (.int (1 : Int32)), .val (.int (2 : Int32)), .val (.double AL), .second, .unset, .unset, .unset, .unset, .unset, .unset, .unset, .unset, .unset, .unset] [(.double AL)])) rfl (hb hby at_122) _) ?_
    show Run p e below _ (T201.setTop (mkF m 125 #[.val (.int p0), .val (.int p1), .val (.int p2), .val (.long l1), .second, .val (.long l2), .second, .val (.long l3), .second, .val (.ref b184), .val (.int (1 : Int32)), .val (.int (2 : Int32)), .val (.double AL), .second, .unset, .unset, .unset, .unset, .unset, .unset, .unset, .unset, .unset, .unset] [(.double (4611686018427387904 : UInt64)), (.double AL)]))
    obtain ⟨BD, hBD⟩ : ∃ z, z = (FP.ddiv AL (4611686018427387904 : UInt64)) := ⟨_, rfl⟩
    have pB : 0 < BD := hBD ▸ FA.2.2.2.2.2.2.1
    have bA : BD < AL := hBD ▸ FA.2.2.2.2.2.2.2
    have lB : BD ≤ OwnB.one := UInt64.le_of_lt (UInt64.lt_trans bA FA.2.2.2.2.1)
    have nB := OwnB.nnB lB
    refine go (fun _ => XS.ddivS X201.here hx rfl (hb hby at_125) rfl (hBD ▸ (nB)) hBD.symm) ?_
    show Run p e below _ (T201.setTop (mkF m 126 #[.val (.int p0), .val (.int p1), .val (.int p2), .val (.long l1), .second, .val (.long l2), .second, .val (.long l3), .second, .val (.ref b184), .val (.int (1 : Int32)), .val (.int (2 : Int32)), .val (.double AL), .second, .unset, .unset, .unset, .unset, .unset, .unset, .unset, .unset, .unset, .unset] [(.double BD)]))
    refine go (fun _ => XS.dstore X201.here hx rfl (hb hby at_126) rfl (l' := #[.val (.int p0), .val (.int p1), .val (.int p2), .val (.long l1), .second, .val (.long l2), .second, .val (.long l3), .second, .val (.ref b184), .val (.int (1 : Int32)), .val (.int (2 : Int32)), .val (.double AL), .second, .val (.double BD), .second, .unset, .unset, .unset, .unset, .unset, .unset, .unset, .unset]) rfl) ?_
    show Run p e below _ (T201.setTop (mkF m 128 #[.val (.int p0), .val (.int p1), .val (.int p2), .val (.long l1), .second, .val (.long l2), .second, .val (.long l3), .second, .val (.ref b184), .val (.int (1 : Int32)), .val (.int (2 : Int32)), .val (.double AL), .second, .val (.double BD), .second, .unset, .unset, .unset, .unset, .unset, .unset, .unset, .unset] []))
    refine go (fun _ => XS.aload X201.here hx rfl (hb hby at_128) rfl rfl) ?_
    show Run p e below _ (T201.setTop (mkF m 130 #[.val (.int p0), .val (.int p1), .val (.int p2), .val (.long l1), .second, .val (.long l2), .second, .val (.long l3), .second, .val (.ref b184), .val (.int (1 : Int32)), .val (.int (2 : Int32)), .val (.double AL), .second, .val (.double BD), .second, .unset, .unset, .unset, .unset, .unset, .unset, .unset, .unset] [(.ref b184)]))
    refine go (fun _ => XS.dload X201.here hx rfl (hb hby at_130) rfl) ?_
    show Run p e below _ (T201.setTop (mkF m 132 #[.val (.int p0), .val (.int p1), .val (.int p2), .val (.long l1), .second, .val (.long l2), .second, .val (.long l3), .second, .val (.ref b184), .val (.int (1 : Int32)), .val (.int (2 : Int32)), .val (.double AL), .second, .val (.double BD), .second, .unset, .unset, .unset, .unset, .unset, .unset, .unset, .unset] [(.double BD), (.ref b184)]))
    refine go (fun _ => XS.lload X201.here hx rfl (hb hby at_132) rfl) ?_
    show Run p e below _ (T201.setTop (mkF m 134 #[.val (.int p0), .val (.int p1), .val (.int p2), .val (.long l1), .second, .val (.long l2), .second, .val (.long l3), .second, .val (.ref b184), .val (.int (1 : Int32)), .val (.int (2 : Int32)), .val (.double AL), .second, .val (.double BD), .second, .unset, .unset, .unset, .unset, .unset, .unset, .unset, .unset] [(.long l3), (.double BD), (.ref b184)]))
    refine callVi X201 hx hZ hown (wd hw 95 rfl) (wd hw 96 rfl) (notFace_of_selects (args := #[]) (mvT hZ (wd hw 98 rfl))) (wd hw 98 rfl) (wd hw 97 rfl) (wd hw 99 rfl) (wd hw 2 rfl) (by decide) e201 E_b184 (argsL := [(.double BD), (.long l3)]) (rest := []) (rm_r2 l Z a0 hw [] b184 (18442240474082181120 : UInt64) AL p2 (((0 : Int64) + (1 : Int64)) + (1 : Int64)) (0 : Int32) s1 s2 s3 s4 ks1 ks2 ks3 ks4 (10 : Int32) (11 : Int32) l1 l2 AL (0 : UInt64) (nar .char (shv (0 : Int32) (1 : Int32))) (nar .char (shv (0 : Int32) (1 : Int32))) BD l3 h201 n0 O0 E_b184 F_leftOut_b184 F_slots_b184 F_published_b184 F_scores_b184 F_shares_b184 F_alpha_b184 F_keywords_b184 F_count_b184 F_size_b184 F_scored_b184 F_ordered_b184 F_heap_b184 V_s1 V_s2 V_s3 V_s4 ne_s1_s2 ne_s1_s3 ne_s1_s4 ne_s2_s3 ne_s2_s4 ne_s3_s4 g_s1 g_s2 g_s3 g_s4 g_b184 (OwnB.cmp_gt (UInt64.le_of_lt FA.2.2.2.2.1) pA) (OwnB.cmp_lt lB pB)) (W := 0) (by decide) (by decide) (by decide) (by decide) (by rw [hml]; rfl) (lenOf pd_15 rfl) rfl (Nat.le_of_eq rfl) (hb hby at_134) ?_
    intro v202 T202 L202 h202 X202 e202 q202
    obtain ⟨rv, n202, K202, E_b184, F_leftOut_b184, F_slots_b184, F_published_b184, F_scores_b184, F_shares_b184, F_alpha_b184, F_keywords_b184, F_count_b184, F_size_b184, F_scored_b184, F_ordered_b184, F_heap_b184, V_s1, V_s2, V_s3, V_s4⟩ := q202
    replace rv : v202 = some (.int (0 : Int32)) := rv
    subst rv
    have O0 := O0.keep K202 (allS g_b184 (allS g_s1 (allS g_s2 (allS g_s3 (allS g_s4 all0)))))
    have N202 := Fr.app N201 n202
    show Run p e below _ (T202.setTop (mkF m 137 #[.val (.int p0), .val (.int p1), .val (.int p2), .val (.long l1), .second, .val (.long l2), .second, .val (.long l3), .second, .val (.ref b184), .val (.int (1 : Int32)), .val (.int (2 : Int32)), .val (.double AL), .second, .val (.double BD), .second, .unset, .unset, .unset, .unset, .unset, .unset, .unset, .unset] [(.int (0 : Int32))]))
    refine go (fun _ => XS.istore X202.here hx rfl (hb hby at_137) rfl (l' := #[.val (.int p0), .val (.int p1), .val (.int p2), .val (.long l1), .second, .val (.long l2), .second, .val (.long l3), .second, .val (.ref b184), .val (.int (1 : Int32)), .val (.int (2 : Int32)), .val (.double AL), .second, .val (.double BD), .second, .val (.int (0 : Int32)), .unset, .unset, .unset, .unset, .unset, .unset, .unset]) rfl) ?_
    show Run p e below _ (T202.setTop (mkF m 139 #[.val (.int p0), .val (.int p1), .val (.int p2), .val (.long l1), .second, .val (.long l2), .second, .val (.long l3), .second, .val (.ref b184), .val (.int (1 : Int32)), .val (.int (2 : Int32)), .val (.double AL), .second, .val (.double BD), .second, .val (.int (0 : Int32)), .unset, .unset, .unset, .unset, .unset, .unset, .unset] []))
    refine go (fun _ => XS.aload X202.here hx rfl (hb hby at_139) rfl rfl) ?_
    show Run p e below _ (T202.setTop (mkF m 141 #[.val (.int p0), .val (.int p1), .val (.int p2), .val (.long l1), .second, .val (.long l2), .second, .val (.long l3), .second, .val (.ref b184), .val (.int (1 : Int32)), .val (.int (2 : Int32)), .val (.double AL), .second, .val (.double BD), .second, .val (.int (0 : Int32)), .unset, .unset, .unset, .unset, .unset, .unset, .unset] [(.ref b184)]))
    refine callVi X202 hx hZ hown (wd hw 108 rfl) (wd hw 109 rfl) (notFace_of_selects (args := #[]) (mvT hZ (wd hw 111 rfl))) (wd hw 111 rfl) (wd hw 110 rfl) (wd hw 112 rfl) (wd hw 2 rfl) (by decide) e202 E_b184 (argsL := []) (rest := []) (rm_scs l Z a0 hw [] b184 (18442240474082181120 : UInt64) AL p2 (2 : Int32) (2 : Int32) (((0 : Int64) + (1 : Int64)) + (1 : Int64)) (0 : Int32) (1 : Int32) s1 s2 s3 s4 h202 n0 O0 E_b184 F_leftOut_b184 F_slots_b184 F_published_b184 F_scores_b184 F_shares_b184 F_alpha_b184 F_keywords_b184 F_count_b184 F_size_b184 F_scored_b184 F_ordered_b184 F_heap_b184 g_b184 ) (W := 0) (by decide) (by decide) (by decide) (by decide) (by rw [hml]; rfl) (lenOf pd_16 rfl) rfl (Nat.le_of_eq rfl) (hb hby at_141) ?_
    intro v203 T203 L203 h203 X203 e203 q203
    obtain ⟨rv, n203, k203⟩ := q203
    replace rv : v203 = some (.long (((0 : Int64) + (1 : Int64)) + (1 : Int64))) := rv
    subst rv
    have e203 := e203.trans k203
    have N203 := Fr.app N202 n203
    show Run p e below _ (T203.setTop (mkF m 144 #[.val (.int p0), .val (.int p1), .val (.int p2), .val (.long l1), .second, .val (.long l2), .second, .val (.long l3), .second, .val (.ref b184), .val (.int (1 : Int32)), .val (.int (2 : Int32)), .val (.double AL), .second, .val (.double BD), .second, .val (.int (0 : Int32)), .unset, .unset, .unset, .unset, .unset, .unset, .unset] [(.long (((0 : Int64) + (1 : Int64)) + (1 : Int64)))]))
    refine go (fun _ => XS.lstore X203.here hx rfl (hb hby at_144) rfl (l' := #[.val (.int p0), .val (.int p1), .val (.int p2), .val (.long l1), .second, .val (.long l2), .second, .val (.long l3), .second, .val (.ref b184), .val (.int (1 : Int32)), .val (.int (2 : Int32)), .val (.double AL), .second, .val (.double BD), .second, .val (.int (0 : Int32)), .val (.long (((0 : Int64) + (1 : Int64)) + (1 : Int64))), .second, .unset, .unset, .unset, .unset, .unset]) rfl) ?_
    show Run p e below _ (T203.setTop (mkF m 146 #[.val (.int p0), .val (.int p1), .val (.int p2), .val (.long l1), .second, .val (.long l2), .second, .val (.long l3), .second, .val (.ref b184), .val (.int (1 : Int32)), .val (.int (2 : Int32)), .val (.double AL), .second, .val (.double BD), .second, .val (.int (0 : Int32)), .val (.long (((0 : Int64) + (1 : Int64)) + (1 : Int64))), .second, .unset, .unset, .unset, .unset, .unset] []))
    refine go (fun _ => XS.aload X203.here hx rfl (hb hby at_146) rfl rfl) ?_
    show Run p e below _ (T203.setTop (mkF m 148 #[.val (.int p0), .val (.int p1), .val (.int p2), .val (.long l1), .second, .val (.long l2), .second, .val (.long l3), .second, .val (.ref b184), .val (.int (1 : Int32)), .val (.int (2 : Int32)), .val (.double AL), .second, .val (.double BD), .second, .val (.int (0 : Int32)), .val (.long (((0 : Int64) + (1 : Int64)) + (1 : Int64))), .second, .unset, .unset, .unset, .unset, .unset] [(.ref b184)]))
    refine callVi X203 hx hZ hown (wd hw 113 rfl) (wd hw 114 rfl) (notFace_of_selects (args := #[]) (mvT hZ (wd hw 116 rfl))) (wd hw 116 rfl) (wd hw 115 rfl) (wd hw 117 rfl) (wd hw 2 rfl) (by decide) e203 E_b184 (argsL := []) (rest := []) (rm_l1 l Z a0 hw [] b184 AL p2 (2 : Int32) (2 : Int32) (((0 : Int64) + (1 : Int64)) + (1 : Int64)) (0 : Int32) (1 : Int32) s1 s2 s3 s4 h202 n0 O0 E_b184 F_leftOut_b184 F_slots_b184 F_published_b184 F_scores_b184 F_shares_b184 F_alpha_b184 F_keywords_b184 F_count_b184 F_size_b184 F_scored_b184 F_ordered_b184 F_heap_b184 g_b184 ) (W := 0) (by decide) (by decide) (by decide) (by decide) (by rw [hml]; rfl) (lenOf pd_10 rfl) rfl (Nat.le_of_eq rfl) (hb hby at_148) ?_
    intro v204 T204 L204 h204 X204 e204 q204
    obtain ⟨rv, n204, k204⟩ := q204
    replace rv : v204 = some (.double (9218868437227405312 : UInt64)) := rv
    subst rv
    have e204 := e204.trans k204
    have N204 := Fr.app N203 n204
    show Run p e below _ (T204.setTop (mkF m 151 #[.val (.int p0), .val (.int p1), .val (.int p2), .val (.long l1), .second, .val (.long l2), .second, .val (.long l3), .second, .val (.ref b184), .val (.int (1 : Int32)), .val (.int (2 : Int32)), .val (.double AL), .second, .val (.double BD), .second, .val (.int (0 : Int32)), .val (.long (((0 : Int64) + (1 : Int64)) + (1 : Int64))), .second, .unset, .unset, .unset, .unset, .unset] [(.double (9218868437227405312 : UInt64))]))
    refine go (fun _ => XS.dstore X204.here hx rfl (hb hby at_151) rfl (l' := #[.val (.int p0), .val (.int p1), .val (.int p2), .val (.long l1), .second, .val (.long l2), .second, .val (.long l3), .second, .val (.ref b184), .val (.int (1 : Int32)), .val (.int (2 : Int32)), .val (.double AL), .second, .val (.double BD), .second, .val (.int (0 : Int32)), .val (.long (((0 : Int64) + (1 : Int64)) + (1 : Int64))), .second, .val (.double (9218868437227405312 : UInt64)), .second, .unset, .unset, .unset]) rfl) ?_
    show Run p e below _ (T204.setTop (mkF m 153 #[.val (.int p0), .val (.int p1), .val (.int p2), .val (.long l1), .second, .val (.long l2), .second, .val (.long l3), .second, .val (.ref b184), .val (.int (1 : Int32)), .val (.int (2 : Int32)), .val (.double AL), .second, .val (.double BD), .second, .val (.int (0 : Int32)), .val (.long (((0 : Int64) + (1 : Int64)) + (1 : Int64))), .second, .val (.double (9218868437227405312 : UInt64)), .second, .unset, .unset, .unset] []))
    refine go (fun _ => XS.aload X204.here hx rfl (hb hby at_153) rfl rfl) ?_
    show Run p e below _ (T204.setTop (mkF m 155 #[.val (.int p0), .val (.int p1), .val (.int p2), .val (.long l1), .second, .val (.long l2), .second, .val (.long l3), .second, .val (.ref b184), .val (.int (1 : Int32)), .val (.int (2 : Int32)), .val (.double AL), .second, .val (.double BD), .second, .val (.int (0 : Int32)), .val (.long (((0 : Int64) + (1 : Int64)) + (1 : Int64))), .second, .val (.double (9218868437227405312 : UInt64)), .second, .unset, .unset, .unset] [(.ref b184)]))
    refine callVi X204 hx hZ hown (wd hw 88 rfl) (wd hw 89 rfl) (notFace_of_selects (args := #[]) (mvT hZ (wd hw 91 rfl))) (wd hw 91 rfl) (wd hw 90 rfl) (wd hw 92 rfl) (wd hw 2 rfl) (by decide) e204 E_b184 (argsL := []) (rest := []) (rm_o2 l Z a0 hw [] b184 (18442240474082181120 : UInt64) AL p2 (2 : Int32) (((0 : Int64) + (1 : Int64)) + (1 : Int64)) s1 s2 s3 s4 ks1 ks2 ks3 ks4 (11 : Int32) (10 : Int32) l2 l1 (0 : UInt64) AL (nar .char (nar .char (shv (0 : Int32) (1 : Int32)))) (nar .char (nar .char (shv (0 : Int32) (1 : Int32)))) h202 n0 O0 E_b184 F_leftOut_b184 F_slots_b184 F_published_b184 F_scores_b184 F_shares_b184 F_alpha_b184 F_keywords_b184 F_count_b184 F_size_b184 F_scored_b184 F_ordered_b184 F_heap_b184 V_s1 V_s2 V_s3 V_s4 ne_s1_s2 ne_s1_s3 ne_s1_s4 ne_s2_s3 ne_s2_s4 ne_s3_s4 g_s1 g_s2 g_s3 g_s4 g_b184 ) (W := 0) (by decide) (by decide) (by decide) (by decide) (by rw [hml]; rfl) (lenOf pd_12 rfl) rfl (Nat.le_of_eq rfl) (hb hby at_155) ?_
    intro v205 T205 L205 h205 X205 e205 q205
    obtain ⟨rv, n205, K205, E_b184, F_leftOut_b184, F_slots_b184, F_published_b184, F_scores_b184, F_shares_b184, F_alpha_b184, F_keywords_b184, F_count_b184, F_size_b184, F_scored_b184, F_ordered_b184, F_heap_b184, V_s1, V_s2, V_s3, V_s4⟩ := q205
    subst rv
    have O0 := O0.keep K205 (allS g_b184 (allS g_s1 (allS g_s2 (allS g_s3 (allS g_s4 all0)))))
    have N205 := Fr.app N204 n205
    show Run p e below _ (T205.setTop (mkF m 158 #[.val (.int p0), .val (.int p1), .val (.int p2), .val (.long l1), .second, .val (.long l2), .second, .val (.long l3), .second, .val (.ref b184), .val (.int (1 : Int32)), .val (.int (2 : Int32)), .val (.double AL), .second, .val (.double BD), .second, .val (.int (0 : Int32)), .val (.long (((0 : Int64) + (1 : Int64)) + (1 : Int64))), .second, .val (.double (9218868437227405312 : UInt64)), .second, .unset, .unset, .unset] []))
    refine go (fun _ => XS.aload X205.here hx rfl (hb hby at_158) rfl rfl) ?_
    show Run p e below _ (T205.setTop (mkF m 160 #[.val (.int p0), .val (.int p1), .val (.int p2), .val (.long l1), .second, .val (.long l2), .second, .val (.long l3), .second, .val (.ref b184), .val (.int (1 : Int32)), .val (.int (2 : Int32)), .val (.double AL), .second, .val (.double BD), .second, .val (.int (0 : Int32)), .val (.long (((0 : Int64) + (1 : Int64)) + (1 : Int64))), .second, .val (.double (9218868437227405312 : UInt64)), .second, .unset, .unset, .unset] [(.ref b184)]))
    refine go (fun _ => XS.iconst X205.here hx rfl (hb hby at_160)) ?_
    show Run p e below _ (T205.setTop (mkF m 161 #[.val (.int p0), .val (.int p1), .val (.int p2), .val (.long l1), .second, .val (.long l2), .second, .val (.long l3), .second, .val (.ref b184), .val (.int (1 : Int32)), .val (.int (2 : Int32)), .val (.double AL), .second, .val (.double BD), .second, .val (.int (0 : Int32)), .val (.long (((0 : Int64) + (1 : Int64)) + (1 : Int64))), .second, .val (.double (9218868437227405312 : UInt64)), .second, .unset, .unset, .unset] [(.int (0 : Int32)), (.ref b184)]))
    refine callVi X205 hx hZ hown (wd hw 119 rfl) (wd hw 120 rfl) (notFace_of_selects (args := #[]) (mvT hZ (wd hw 122 rfl))) (wd hw 122 rfl) (wd hw 121 rfl) (wd hw 123 rfl) (wd hw 2 rfl) (by decide) e205 E_b184 (argsL := [(.int (0 : Int32))]) (rest := []) (rm_s0 l Z a0 hw [] b184 (18442240474082181120 : UInt64) AL p2 (2 : Int32) (2 : Int32) (((0 : Int64) + (1 : Int64)) + (1 : Int64)) (1 : Int32) (1 : Int32) s1 s2 s3 s4 ks1 ks2 ks3 ks4 (10 : Int32) (11 : Int32) l1 l2 AL (0 : UInt64) (nar .char (nar .char (nar .char (shv (0 : Int32) (1 : Int32))))) (nar .char (nar .char (nar .char (shv (0 : Int32) (1 : Int32))))) h205 n0 O0 E_b184 F_leftOut_b184 F_slots_b184 F_published_b184 F_scores_b184 F_shares_b184 F_alpha_b184 F_keywords_b184 F_count_b184 F_size_b184 F_scored_b184 F_ordered_b184 F_heap_b184 V_s1 V_s2 V_s3 V_s4 ne_s1_s2 ne_s1_s3 ne_s1_s4 ne_s2_s3 ne_s2_s4 ne_s3_s4 g_s1 g_s2 g_s3 g_s4 g_b184 ) (W := 0) (by decide) (by decide) (by decide) (by decide) (by rw [hml]; rfl) (lenOf pd_17 rfl) rfl (Nat.le_of_eq rfl) (hb hby at_161) ?_
    intro v206 T206 L206 h206 X206 e206 q206
    obtain ⟨rv, n206, k206⟩ := q206
    replace rv : v206 = some (.double AL) := rv
    subst rv
    have e206 := e206.trans k206
    have N206 := Fr.app N205 n206
    show Run p e below _ (T206.setTop (mkF m 164 #[.val (.int p0), .val (.int p1), .val (.int p2), .val (.long l1), .second, .val (.long l2), .second, .val (.long l3), .second, .val (.ref b184), .val (.int (1 : Int32)), .val (.int (2 : Int32)), .val (.double AL), .second, .val (.double BD), .second, .val (.int (0 : Int32)), .val (.long (((0 : Int64) + (1 : Int64)) + (1 : Int64))), .second, .val (.double (9218868437227405312 : UInt64)), .second, .unset, .unset, .unset] [(.double AL)]))
    refine go (fun _ => XS.dstore X206.here hx rfl (hb hby at_164) rfl (l' := #[.val (.int p0), .val (.int p1), .val (.int p2), .val (.long l1), .second, .val (.long l2), .second, .val (.long l3), .second, .val (.ref b184), .val (.int (1 : Int32)), .val (.int (2 : Int32)), .val (.double AL), .second, .val (.double BD), .second, .val (.int (0 : Int32)), .val (.long (((0 : Int64) + (1 : Int64)) + (1 : Int64))), .second, .val (.double (9218868437227405312 : UInt64)), .second, .val (.double AL), .second, .unset]) rfl) ?_
    show Run p e below _ (T206.setTop (mkF m 166 #[.val (.int p0), .val (.int p1), .val (.int p2), .val (.long l1), .second, .val (.long l2), .second, .val (.long l3), .second, .val (.ref b184), .val (.int (1 : Int32)), .val (.int (2 : Int32)), .val (.double AL), .second, .val (.double BD), .second, .val (.int (0 : Int32)), .val (.long (((0 : Int64) + (1 : Int64)) + (1 : Int64))), .second, .val (.double (9218868437227405312 : UInt64)), .second, .val (.double AL), .second, .unset] []))
    refine go (fun _ => XS.lload X206.here hx rfl (hb hby at_166) rfl) ?_
    show Run p e below _ (T206.setTop (mkF m 168 #[.val (.int p0), .val (.int p1), .val (.int p2), .val (.long l1), .second, .val (.long l2), .second, .val (.long l3), .second, .val (.ref b184), .val (.int (1 : Int32)), .val (.int (2 : Int32)), .val (.double AL), .second, .val (.double BD), .second, .val (.int (0 : Int32)), .val (.long (((0 : Int64) + (1 : Int64)) + (1 : Int64))), .second, .val (.double (9218868437227405312 : UInt64)), .second, .val (.double AL), .second, .unset] [(.long (((0 : Int64) + (1 : Int64)) + (1 : Int64)))]))
    refine go (fun _ => X206.ldc2J hx hown (mvT hZ (wd hw 124 rfl)) rfl (hb hby at_168)) ?_
    show Run p e below _ (T206.setTop (mkF m 171 #[.val (.int p0), .val (.int p1), .val (.int p2), .val (.long l1), .second, .val (.long l2), .second, .val (.long l3), .second, .val (.ref b184), .val (.int (1 : Int32)), .val (.int (2 : Int32)), .val (.double AL), .second, .val (.double BD), .second, .val (.int (0 : Int32)), .val (.long (((0 : Int64) + (1 : Int64)) + (1 : Int64))), .second, .val (.double (9218868437227405312 : UInt64)), .second, .val (.double AL), .second, .unset] [(.long (2 : Int64)), (.long (((0 : Int64) + (1 : Int64)) + (1 : Int64)))]))
    refine go (fun _ => XS.lcmp X206.here hx rfl (hb hby at_171) rfl) ?_
    show Run p e below _ (T206.setTop (mkF m 172 #[.val (.int p0), .val (.int p1), .val (.int p2), .val (.long l1), .second, .val (.long l2), .second, .val (.long l3), .second, .val (.ref b184), .val (.int (1 : Int32)), .val (.int (2 : Int32)), .val (.double AL), .second, .val (.double BD), .second, .val (.int (0 : Int32)), .val (.long (((0 : Int64) + (1 : Int64)) + (1 : Int64))), .second, .val (.double (9218868437227405312 : UInt64)), .second, .val (.double AL), .second, .unset] [(.int (lcmpW (((0 : Int64) + (1 : Int64)) + (1 : Int64)) (2 : Int64)))]))
    refine go (fun _ => XS.ifNo X206.here hx rfl (hb hby at_172) rfl ((if0 _ _).trans (teq (by decide)).2)) ?_
    show Run p e below _ (T206.setTop (mkF m 175 #[.val (.int p0), .val (.int p1), .val (.int p2), .val (.long l1), .second, .val (.long l2), .second, .val (.long l3), .second, .val (.ref b184), .val (.int (1 : Int32)), .val (.int (2 : Int32)), .val (.double AL), .second, .val (.double BD), .second, .val (.int (0 : Int32)), .val (.long (((0 : Int64) + (1 : Int64)) + (1 : Int64))), .second, .val (.double (9218868437227405312 : UInt64)), .second, .val (.double AL), .second, .unset] []))
    refine go (fun _ => XS.dload X206.here hx rfl (hb hby at_175) rfl) ?_
    show Run p e below _ (T206.setTop (mkF m 177 #[.val (.int p0), .val (.int p1), .val (.int p2), .val (.long l1), .second, .val (.long l2), .second, .val (.long l3), .second, .val (.ref b184), .val (.int (1 : Int32)), .val (.int (2 : Int32)), .val (.double AL), .second, .val (.double BD), .second, .val (.int (0 : Int32)), .val (.long (((0 : Int64) + (1 : Int64)) + (1 : Int64))), .second, .val (.double (9218868437227405312 : UInt64)), .second, .val (.double AL), .second, .unset] [(.double AL)]))
    refine go (fun _ => XS.dload X206.here hx rfl (hb hby at_177) rfl) ?_
    show Run p e below _ (T206.setTop (mkF m 179 #[.val (.int p0), .val (.int p1), .val (.int p2), .val (.long l1), .second, .val (.long l2), .second, .val (.long l3), .second, .val (.ref b184), .val (.int (1 : Int32)), .val (.int (2 : Int32)), .val (.double AL), .second, .val (.double BD), .second, .val (.int (0 : Int32)), .val (.long (((0 : Int64) + (1 : Int64)) + (1 : Int64))), .second, .val (.double (9218868437227405312 : UInt64)), .second, .val (.double AL), .second, .unset] [(.double AL), (.double AL)]))
    refine go (fun _ => XS.dcmpS X206.here hx rfl (hb hby at_179) rfl (v := (0 : Int32)) (dcmpV_self (OwnB.fa_nn FA) .l)) ?_
    show Run p e below _ (T206.setTop (mkF m 180 #[.val (.int p0), .val (.int p1), .val (.int p2), .val (.long l1), .second, .val (.long l2), .second, .val (.long l3), .second, .val (.ref b184), .val (.int (1 : Int32)), .val (.int (2 : Int32)), .val (.double AL), .second, .val (.double BD), .second, .val (.int (0 : Int32)), .val (.long (((0 : Int64) + (1 : Int64)) + (1 : Int64))), .second, .val (.double (9218868437227405312 : UInt64)), .second, .val (.double AL), .second, .unset] [(.int (0 : Int32))]))
    refine go (fun _ => XS.ifNo X206.here hx rfl (hb hby at_180) rfl ((if0 _ _).trans (teq (by decide : (0 : Int32) = 0)).2)) ?_
    show Run p e below _ (T206.setTop (mkF m 183 #[.val (.int p0), .val (.int p1), .val (.int p2), .val (.long l1), .second, .val (.long l2), .second, .val (.long l3), .second, .val (.ref b184), .val (.int (1 : Int32)), .val (.int (2 : Int32)), .val (.double AL), .second, .val (.double BD), .second, .val (.int (0 : Int32)), .val (.long (((0 : Int64) + (1 : Int64)) + (1 : Int64))), .second, .val (.double (9218868437227405312 : UInt64)), .second, .val (.double AL), .second, .unset] []))
    refine go (fun _ => XS.iconst X206.here hx rfl (hb hby at_183)) ?_
    show Run p e below _ (T206.setTop (mkF m 184 #[.val (.int p0), .val (.int p1), .val (.int p2), .val (.long l1), .second, .val (.long l2), .second, .val (.long l3), .second, .val (.ref b184), .val (.int (1 : Int32)), .val (.int (2 : Int32)), .val (.double AL), .second, .val (.double BD), .second, .val (.int (0 : Int32)), .val (.long (((0 : Int64) + (1 : Int64)) + (1 : Int64))), .second, .val (.double (9218868437227405312 : UInt64)), .second, .val (.double AL), .second, .unset] [(.int (1 : Int32))]))
    refine go (fun _ => XS.goto X206.here hx rfl (pc0 := 184) (pc' := 188) rfl (hb hby at_184) (by decide) (by decide)) ?_
    show Run p e below _ (T206.setTop (mkF m 188 #[.val (.int p0), .val (.int p1), .val (.int p2), .val (.long l1), .second, .val (.long l2), .second, .val (.long l3), .second, .val (.ref b184), .val (.int (1 : Int32)), .val (.int (2 : Int32)), .val (.double AL), .second, .val (.double BD), .second, .val (.int (0 : Int32)), .val (.long (((0 : Int64) + (1 : Int64)) + (1 : Int64))), .second, .val (.double (9218868437227405312 : UInt64)), .second, .val (.double AL), .second, .unset] [(.int (1 : Int32))]))
    refine go (fun _ => XS.istore X206.here hx rfl (hb hby at_188) rfl (l' := #[.val (.int p0), .val (.int p1), .val (.int p2), .val (.long l1), .second, .val (.long l2), .second, .val (.long l3), .second, .val (.ref b184), .val (.int (1 : Int32)), .val (.int (2 : Int32)), .val (.double AL), .second, .val (.double BD), .second, .val (.int (0 : Int32)), .val (.long (((0 : Int64) + (1 : Int64)) + (1 : Int64))), .second, .val (.double (9218868437227405312 : UInt64)), .second, .val (.double AL), .second, .val (.int (1 : Int32))]) rfl) ?_
    show Run p e below _ (T206.setTop (mkF m 190 #[.val (.int p0), .val (.int p1), .val (.int p2), .val (.long l1), .second, .val (.long l2), .second, .val (.long l3), .second, .val (.ref b184), .val (.int (1 : Int32)), .val (.int (2 : Int32)), .val (.double AL), .second, .val (.double BD), .second, .val (.int (0 : Int32)), .val (.long (((0 : Int64) + (1 : Int64)) + (1 : Int64))), .second, .val (.double (9218868437227405312 : UInt64)), .second, .val (.double AL), .second, .val (.int (1 : Int32))] []))
    refine go (fun _ => XS.iload X206.here hx rfl (hb hby at_190) rfl) ?_
    show Run p e below _ (T206.setTop (mkF m 192 #[.val (.int p0), .val (.int p1), .val (.int p2), .val (.long l1), .second, .val (.long l2), .second, .val (.long l3), .second, .val (.ref b184), .val (.int (1 : Int32)), .val (.int (2 : Int32)), .val (.double AL), .second, .val (.double BD), .second, .val (.int (0 : Int32)), .val (.long (((0 : Int64) + (1 : Int64)) + (1 : Int64))), .second, .val (.double (9218868437227405312 : UInt64)), .second, .val (.double AL), .second, .val (.int (1 : Int32))] [(.int (1 : Int32))]))
    refine go (fun _ => XS.ifNo X206.here hx rfl (hb hby at_192) rfl ((if0 _ _).trans (feq (by decide : ¬ ((1 : Int32) = 0))).1)) ?_
    show Run p e below _ (T206.setTop (mkF m 195 #[.val (.int p0), .val (.int p1), .val (.int p2), .val (.long l1), .second, .val (.long l2), .second, .val (.long l3), .second, .val (.ref b184), .val (.int (1 : Int32)), .val (.int (2 : Int32)), .val (.double AL), .second, .val (.double BD), .second, .val (.int (0 : Int32)), .val (.long (((0 : Int64) + (1 : Int64)) + (1 : Int64))), .second, .val (.double (9218868437227405312 : UInt64)), .second, .val (.double AL), .second, .val (.int (1 : Int32))] []))
    refine go (fun _ => XS.iload X206.here hx rfl (hb hby at_195) rfl) ?_
    show Run p e below _ (T206.setTop (mkF m 197 #[.val (.int p0), .val (.int p1), .val (.int p2), .val (.long l1), .second, .val (.long l2), .second, .val (.long l3), .second, .val (.ref b184), .val (.int (1 : Int32)), .val (.int (2 : Int32)), .val (.double AL), .second, .val (.double BD), .second, .val (.int (0 : Int32)), .val (.long (((0 : Int64) + (1 : Int64)) + (1 : Int64))), .second, .val (.double (9218868437227405312 : UInt64)), .second, .val (.double AL), .second, .val (.int (1 : Int32))] [(.int (1 : Int32))]))
    refine go (fun _ => XS.ifNo X206.here hx rfl (hb hby at_197) rfl ((if0 _ _).trans (feq (by decide : ¬ ((1 : Int32) = 0))).1)) ?_
    show Run p e below _ (T206.setTop (mkF m 200 #[.val (.int p0), .val (.int p1), .val (.int p2), .val (.long l1), .second, .val (.long l2), .second, .val (.long l3), .second, .val (.ref b184), .val (.int (1 : Int32)), .val (.int (2 : Int32)), .val (.double AL), .second, .val (.double BD), .second, .val (.int (0 : Int32)), .val (.long (((0 : Int64) + (1 : Int64)) + (1 : Int64))), .second, .val (.double (9218868437227405312 : UInt64)), .second, .val (.double AL), .second, .val (.int (1 : Int32))] []))
    refine go (fun _ => XS.iload X206.here hx rfl (hb hby at_200) rfl) ?_
    show Run p e below _ (T206.setTop (mkF m 202 #[.val (.int p0), .val (.int p1), .val (.int p2), .val (.long l1), .second, .val (.long l2), .second, .val (.long l3), .second, .val (.ref b184), .val (.int (1 : Int32)), .val (.int (2 : Int32)), .val (.double AL), .second, .val (.double BD), .second, .val (.int (0 : Int32)), .val (.long (((0 : Int64) + (1 : Int64)) + (1 : Int64))), .second, .val (.double (9218868437227405312 : UInt64)), .second, .val (.double AL), .second, .val (.int (1 : Int32))] [(.int (0 : Int32))]))
    refine go (fun _ => XS.ifNo X206.here hx rfl (hb hby at_202) rfl ((if0 _ _).trans (teq (by decide : (0 : Int32) = 0)).2)) ?_
    show Run p e below _ (T206.setTop (mkF m 205 #[.val (.int p0), .val (.int p1), .val (.int p2), .val (.long l1), .second, .val (.long l2), .second, .val (.long l3), .second, .val (.ref b184), .val (.int (1 : Int32)), .val (.int (2 : Int32)), .val (.double AL), .second, .val (.double BD), .second, .val (.int (0 : Int32)), .val (.long (((0 : Int64) + (1 : Int64)) + (1 : Int64))), .second, .val (.double (9218868437227405312 : UInt64)), .second, .val (.double AL), .second, .val (.int (1 : Int32))] []))
    refine go (fun _ => XS.dload X206.here hx rfl (hb hby at_205) rfl) ?_
    show Run p e below _ (T206.setTop (mkF m 207 #[.val (.int p0), .val (.int p1), .val (.int p2), .val (.long l1), .second, .val (.long l2), .second, .val (.long l3), .second, .val (.ref b184), .val (.int (1 : Int32)), .val (.int (2 : Int32)), .val (.double AL), .second, .val (.double BD), .second, .val (.int (0 : Int32)), .val (.long (((0 : Int64) + (1 : Int64)) + (1 : Int64))), .second, .val (.double (9218868437227405312 : UInt64)), .second, .val (.double AL), .second, .val (.int (1 : Int32))] [(.double (9218868437227405312 : UInt64))]))
    refine go (fun _ => X206.ldc2DoubleC hx hown (mvT hZ (wd hw 125 rfl)) (g := (mkF m 207 #[.val (.int p0), .val (.int p1), .val (.int p2), .val (.long l1), .second, .val (.long l2), .second, .val (.long l3), .second, .val (.ref b184), .val (.int (1 : Int32)), .val (.int (2 : Int32)), .val (.double AL), .second, .val (.double BD), .second, .val (.int (0 : Int32)), .val (.long (((0 : Int64) + (1 : Int64)) + (1 : Int64))), .second, .val (.double (9218868437227405312 : UInt64)), .second, .val (.double AL), .second, .val (.int (1 : Int32))] [(.double (9218868437227405312 : UInt64))])) rfl (hb hby at_207) _) ?_
    show Run p e below _ (T206.setTop (mkF m 210 #[.val (.int p0), .val (.int p1), .val (.int p2), .val (.long l1), .second, .val (.long l2), .second, .val (.long l3), .second, .val (.ref b184), .val (.int (1 : Int32)), .val (.int (2 : Int32)), .val (.double AL), .second, .val (.double BD), .second, .val (.int (0 : Int32)), .val (.long (((0 : Int64) + (1 : Int64)) + (1 : Int64))), .second, .val (.double (9218868437227405312 : UInt64)), .second, .val (.double AL), .second, .val (.int (1 : Int32))] [(.double (9218868437227405312 : UInt64)), (.double (9218868437227405312 : UInt64))]))
    refine go (fun _ => XS.dcmpS X206.here hx rfl (hb hby at_210) rfl (v := (0 : Int32)) (kc_19)) ?_
    show Run p e below _ (T206.setTop (mkF m 211 #[.val (.int p0), .val (.int p1), .val (.int p2), .val (.long l1), .second, .val (.long l2), .second, .val (.long l3), .second, .val (.ref b184), .val (.int (1 : Int32)), .val (.int (2 : Int32)), .val (.double AL), .second, .val (.double BD), .second, .val (.int (0 : Int32)), .val (.long (((0 : Int64) + (1 : Int64)) + (1 : Int64))), .second, .val (.double (9218868437227405312 : UInt64)), .second, .val (.double AL), .second, .val (.int (1 : Int32))] [(.int (0 : Int32))]))
    refine go (fun _ => XS.ifNo X206.here hx rfl (hb hby at_211) rfl ((if0 _ _).trans (teq (by decide : (0 : Int32) = 0)).2)) ?_
    show Run p e below _ (T206.setTop (mkF m 214 #[.val (.int p0), .val (.int p1), .val (.int p2), .val (.long l1), .second, .val (.long l2), .second, .val (.long l3), .second, .val (.ref b184), .val (.int (1 : Int32)), .val (.int (2 : Int32)), .val (.double AL), .second, .val (.double BD), .second, .val (.int (0 : Int32)), .val (.long (((0 : Int64) + (1 : Int64)) + (1 : Int64))), .second, .val (.double (9218868437227405312 : UInt64)), .second, .val (.double AL), .second, .val (.int (1 : Int32))] []))
    refine go (fun _ => XS.aload X206.here hx rfl (hb hby at_214) rfl rfl) ?_
    show Run p e below _ (T206.setTop (mkF m 216 #[.val (.int p0), .val (.int p1), .val (.int p2), .val (.long l1), .second, .val (.long l2), .second, .val (.long l3), .second, .val (.ref b184), .val (.int (1 : Int32)), .val (.int (2 : Int32)), .val (.double AL), .second, .val (.double BD), .second, .val (.int (0 : Int32)), .val (.long (((0 : Int64) + (1 : Int64)) + (1 : Int64))), .second, .val (.double (9218868437227405312 : UInt64)), .second, .val (.double AL), .second, .val (.int (1 : Int32))] [(.ref b184)]))
    refine go (fun _ => XS.iconst X206.here hx rfl (hb hby at_216)) ?_
    show Run p e below _ (T206.setTop (mkF m 217 #[.val (.int p0), .val (.int p1), .val (.int p2), .val (.long l1), .second, .val (.long l2), .second, .val (.long l3), .second, .val (.ref b184), .val (.int (1 : Int32)), .val (.int (2 : Int32)), .val (.double AL), .second, .val (.double BD), .second, .val (.int (0 : Int32)), .val (.long (((0 : Int64) + (1 : Int64)) + (1 : Int64))), .second, .val (.double (9218868437227405312 : UInt64)), .second, .val (.double AL), .second, .val (.int (1 : Int32))] [(.int (1 : Int32)), (.ref b184)]))
    refine callVi X206 hx hZ hown (wd hw 119 rfl) (wd hw 120 rfl) (notFace_of_selects (args := #[]) (mvT hZ (wd hw 122 rfl))) (wd hw 122 rfl) (wd hw 121 rfl) (wd hw 123 rfl) (wd hw 2 rfl) (by decide) e206 E_b184 (argsL := [(.int (1 : Int32))]) (rest := []) (rm_s1 l Z a0 hw [] b184 (18442240474082181120 : UInt64) AL p2 (2 : Int32) (2 : Int32) (((0 : Int64) + (1 : Int64)) + (1 : Int64)) (1 : Int32) (1 : Int32) s1 s2 s3 s4 ks1 ks2 ks3 ks4 (10 : Int32) (11 : Int32) l1 l2 AL (0 : UInt64) (nar .char (nar .char (nar .char (shv (0 : Int32) (1 : Int32))))) (nar .char (nar .char (nar .char (shv (0 : Int32) (1 : Int32))))) h205 n0 O0 E_b184 F_leftOut_b184 F_slots_b184 F_published_b184 F_scores_b184 F_shares_b184 F_alpha_b184 F_keywords_b184 F_count_b184 F_size_b184 F_scored_b184 F_ordered_b184 F_heap_b184 V_s1 V_s2 V_s3 V_s4 ne_s1_s2 ne_s1_s3 ne_s1_s4 ne_s2_s3 ne_s2_s4 ne_s3_s4 g_s1 g_s2 g_s3 g_s4 g_b184 ) (W := 0) (by decide) (by decide) (by decide) (by decide) (by rw [hml]; rfl) (lenOf pd_17 rfl) rfl (Nat.le_of_eq rfl) (hb hby at_217) ?_
    intro v207 T207 L207 h207 X207 e207 q207
    obtain ⟨rv, n207, k207⟩ := q207
    replace rv : v207 = some (.double (0 : UInt64)) := rv
    subst rv
    have e207 := e207.trans k207
    have N207 := Fr.app N206 n207
    show Run p e below _ (T207.setTop (mkF m 220 #[.val (.int p0), .val (.int p1), .val (.int p2), .val (.long l1), .second, .val (.long l2), .second, .val (.long l3), .second, .val (.ref b184), .val (.int (1 : Int32)), .val (.int (2 : Int32)), .val (.double AL), .second, .val (.double BD), .second, .val (.int (0 : Int32)), .val (.long (((0 : Int64) + (1 : Int64)) + (1 : Int64))), .second, .val (.double (9218868437227405312 : UInt64)), .second, .val (.double AL), .second, .val (.int (1 : Int32))] [(.double (0 : UInt64))]))
    refine go (fun _ => XS.dconst0 X207.here hx rfl (hb hby at_220) (v := (0 : UInt64)) rfl) ?_
    show Run p e below _ (T207.setTop (mkF m 221 #[.val (.int p0), .val (.int p1), .val (.int p2), .val (.long l1), .second, .val (.long l2), .second, .val (.long l3), .second, .val (.ref b184), .val (.int (1 : Int32)), .val (.int (2 : Int32)), .val (.double AL), .second, .val (.double BD), .second, .val (.int (0 : Int32)), .val (.long (((0 : Int64) + (1 : Int64)) + (1 : Int64))), .second, .val (.double (9218868437227405312 : UInt64)), .second, .val (.double AL), .second, .val (.int (1 : Int32))] [(.double (0 : UInt64)), (.double (0 : UInt64))]))
    refine go (fun _ => XS.dcmpS X207.here hx rfl (hb hby at_221) rfl (v := (0 : Int32)) (kc_18)) ?_
    show Run p e below _ (T207.setTop (mkF m 222 #[.val (.int p0), .val (.int p1), .val (.int p2), .val (.long l1), .second, .val (.long l2), .second, .val (.long l3), .second, .val (.ref b184), .val (.int (1 : Int32)), .val (.int (2 : Int32)), .val (.double AL), .second, .val (.double BD), .second, .val (.int (0 : Int32)), .val (.long (((0 : Int64) + (1 : Int64)) + (1 : Int64))), .second, .val (.double (9218868437227405312 : UInt64)), .second, .val (.double AL), .second, .val (.int (1 : Int32))] [(.int (0 : Int32))]))
    refine go (fun _ => XS.ifNo X207.here hx rfl (hb hby at_222) rfl ((if0 _ _).trans (teq (by decide : (0 : Int32) = 0)).2)) ?_
    show Run p e below _ (T207.setTop (mkF m 225 #[.val (.int p0), .val (.int p1), .val (.int p2), .val (.long l1), .second, .val (.long l2), .second, .val (.long l3), .second, .val (.ref b184), .val (.int (1 : Int32)), .val (.int (2 : Int32)), .val (.double AL), .second, .val (.double BD), .second, .val (.int (0 : Int32)), .val (.long (((0 : Int64) + (1 : Int64)) + (1 : Int64))), .second, .val (.double (9218868437227405312 : UInt64)), .second, .val (.double AL), .second, .val (.int (1 : Int32))] []))
    refine go (fun _ => XS.iconst X207.here hx rfl (hb hby at_225)) ?_
    show Run p e below _ (T207.setTop (mkF m 226 #[.val (.int p0), .val (.int p1), .val (.int p2), .val (.long l1), .second, .val (.long l2), .second, .val (.long l3), .second, .val (.ref b184), .val (.int (1 : Int32)), .val (.int (2 : Int32)), .val (.double AL), .second, .val (.double BD), .second, .val (.int (0 : Int32)), .val (.long (((0 : Int64) + (1 : Int64)) + (1 : Int64))), .second, .val (.double (9218868437227405312 : UInt64)), .second, .val (.double AL), .second, .val (.int (1 : Int32))] [(.int (1 : Int32))]))
    refine go (fun _ => XS.goto X207.here hx rfl (pc0 := 226) (pc' := 230) rfl (hb hby at_226) (by decide) (by decide)) ?_
    show Run p e below _ (T207.setTop (mkF m 230 #[.val (.int p0), .val (.int p1), .val (.int p2), .val (.long l1), .second, .val (.long l2), .second, .val (.long l3), .second, .val (.ref b184), .val (.int (1 : Int32)), .val (.int (2 : Int32)), .val (.double AL), .second, .val (.double BD), .second, .val (.int (0 : Int32)), .val (.long (((0 : Int64) + (1 : Int64)) + (1 : Int64))), .second, .val (.double (9218868437227405312 : UInt64)), .second, .val (.double AL), .second, .val (.int (1 : Int32))] [(.int (1 : Int32))]))
    refine go (fun _ => XS.istore X207.here hx rfl (hb hby at_230) rfl (l' := #[.val (.int p0), .val (.int p1), .val (.int p2), .val (.long l1), .second, .val (.long l2), .second, .val (.long l3), .second, .val (.ref b184), .val (.int (1 : Int32)), .val (.int (2 : Int32)), .val (.double AL), .second, .val (.double BD), .second, .val (.int (0 : Int32)), .val (.long (((0 : Int64) + (1 : Int64)) + (1 : Int64))), .second, .val (.double (9218868437227405312 : UInt64)), .second, .val (.double AL), .second, .val (.int (1 : Int32))]) rfl) ?_
    show Run p e below _ (T207.setTop (mkF m 232 #[.val (.int p0), .val (.int p1), .val (.int p2), .val (.long l1), .second, .val (.long l2), .second, .val (.long l3), .second, .val (.ref b184), .val (.int (1 : Int32)), .val (.int (2 : Int32)), .val (.double AL), .second, .val (.double BD), .second, .val (.int (0 : Int32)), .val (.long (((0 : Int64) + (1 : Int64)) + (1 : Int64))), .second, .val (.double (9218868437227405312 : UInt64)), .second, .val (.double AL), .second, .val (.int (1 : Int32))] []))
    refine go (fun _ => XS.goto X207.here hx rfl (pc0 := 232) (pc' := 260) rfl (hb hby at_232) (by decide) (by decide)) ?_
    show Run p e below _ (T207.setTop (mkF m 260 #[.val (.int p0), .val (.int p1), .val (.int p2), .val (.long l1), .second, .val (.long l2), .second, .val (.long l3), .second, .val (.ref b184), .val (.int (1 : Int32)), .val (.int (2 : Int32)), .val (.double AL), .second, .val (.double BD), .second, .val (.int (0 : Int32)), .val (.long (((0 : Int64) + (1 : Int64)) + (1 : Int64))), .second, .val (.double (9218868437227405312 : UInt64)), .second, .val (.double AL), .second, .val (.int (1 : Int32))] []))
    refine go (fun _ => XS.iload X207.here hx rfl (hb hby at_260) rfl) ?_
    show Run p e below _ (T207.setTop (mkF m 262 #[.val (.int p0), .val (.int p1), .val (.int p2), .val (.long l1), .second, .val (.long l2), .second, .val (.long l3), .second, .val (.ref b184), .val (.int (1 : Int32)), .val (.int (2 : Int32)), .val (.double AL), .second, .val (.double BD), .second, .val (.int (0 : Int32)), .val (.long (((0 : Int64) + (1 : Int64)) + (1 : Int64))), .second, .val (.double (9218868437227405312 : UInt64)), .second, .val (.double AL), .second, .val (.int (1 : Int32))] [(.int (1 : Int32))]))
    exact endN X207 hx hlk (t := .boolean) hret (by simp) (hb hby at_262) (⟨rfl, N207⟩) (by decide) (by decide)
set_option maxRecDepth 65536 in
set_option maxHeartbeats 40000000 in
theorem comes_1 {Post : Tables → Env → Array Value → State → Outcome → State → Prop} (hpost : ∀ tb e args s v u, (limb_1_1.after args s (.returned v) u = true ∧ limb_1_2.after args s (.returned v) u = true ∧ True) → FrameEnd s (.returned v) u (Jvm.fieldLocs frame_1_writes args s ++ Jvm.arrayLocs frame_1_arrays args s ++ Jvm.staticLocs frame_1_statics s) 24 256 → Post tb e args s (.returned v) u) :
    ArmFor flags0 classFile x code maxLocals ret World_1 tables_1 room_1 Calls_1 rest_1 Pre_1 Post := by
  intro l hfl _ _ p e ha hc hk s m args below hf hA hF happ hP
  obtain ⟨hcalls, hrest, hpre⟩ := hP
  obtain ⟨-, -, -, hnamed, -, -, -, hat⟩ := (Spec.applies_iff hf).mp happ
  obtain ⟨hg, hn⟩ := and_e (Cond.before_iff.mp (show (Jvm.Cond.and given_1 narrow_1).before args s = true from hpre))
  obtain ⟨h1, hg⟩ := and_e hg
  obtain ⟨g0, hg⟩ := and_e hg
  obtain ⟨g1, hg⟩ := and_e hg
  obtain ⟨g2, hg⟩ := and_e hg
  obtain ⟨g3, hg⟩ := and_e hg
  obtain ⟨g4, hg⟩ := and_e hg
  have g5 := hg
  obtain ⟨w0, w1, w2, w3, w4, w5, rfl⟩ : ∃ w0 w1 w2 w3 w4 w5 : Value, args = #[w0, w1, w2, w3, w4, w5] := by
    have hs : args.size = 6 := by simpa [Cond.value, given_1] using h1
    obtain ⟨L⟩ := args
    match L, hs with
    | [w0, w1, w2, w3, w4, w5], _ => exact ⟨w0, w1, w2, w3, w4, w5, rfl⟩
  have hw := fun d (hd : d ∈ tables_1) => atoms_spec (ws := Jvm.Cond.code x code maxLocals ret :: tables_1) hat d (List.mem_cons_of_mem _ hd)
  have hfit : Fit s := fun {y c} hc i hi => by
    obtain ⟨ha, rfl⟩ := Array.getElem?_eq_some_iff.mp hc
    have q := List.all_eq_true.mp ((Array.all_eq_true_iff_forall_mem.mp hF) _ (Array.getElem_mem ha)) i (List.mem_range.mpr hi)
    simpa [Array.getElem?_eq_getElem hi] using q
  obtain ⟨i0, ev0⟩ := is_v g0
  obtain rfl : w0 = (.int i0) := Option.some.inj ev0
  obtain ⟨i1, ev1⟩ := is_v g1
  obtain rfl : w1 = (.int i1) := Option.some.inj ev1
  obtain ⟨i2, ev2⟩ := is_v g2
  obtain rfl : w2 = (.int i2) := Option.some.inj ev2
  obtain ⟨i3, ev3⟩ := isL_v g3
  obtain rfl : w3 = (.long i3) := Option.some.inj ev3
  obtain ⟨i4, ev4⟩ := isL_v g4
  obtain rfl : w4 = (.long i4) := Option.some.inj ev4
  obtain ⟨i5, ev5⟩ := isL_v g5
  obtain rfl : w5 = (.long i5) := Option.some.inj ev5
  obtain ⟨n, o, h1, h2, h3, _, L, rfl, ⟨rfl, N⟩, hq⟩ := rmlaw l s _ hw tables_1 i0 i1 i2 i3 i4 i5 s.heap s.heap.size (Old.start s) p e ha hc hk s m _ below hf ((Spec.applies_iff_loose hf).mp happ).1 ⟨rfl, State.Warmed39.refl s, rfl⟩ trivial
  refine ⟨n, _, h1, h2, h3, hpost _ _ _ _ _ _ ⟨Cond.after_iff.mpr rfl, Cond.after_iff.mpr (eq_i res_at (Term.int_eval (1)) rfl), trivial⟩ ⟨hq.1, hq.2.1, (hq.2.2.sift fun y hy => Or.inr (N y hy)).mono (by decide) (by decide)⟩⟩
theorem main_1_1 : Claimed_1_1 := comes_1 fun _ _ _ _ _ _ h hF => ⟨h.1, hF⟩
theorem main_1_2 : Claimed_1_2 := comes_1 fun _ _ _ _ _ _ h hF => ⟨h.2.1, hF⟩
end Jvm.Pilot.@@N@@
namespace Jvm.Pilot.@@N@@
open Jvm Jvm.ClassFile Sem Op Lib Jvm.Free Jvm.Stand Jvm.Pilot.@@N@@.Jvm.D
/-! MADE BY PROGRAM (witnessworld.py) out of the Statement's table words and the real class files: 23 classes; the members and pool entries that the words name. The judged class is class 1, her method 1. -/
namespace start1
open Jvm.ClassFile
def u (s : String) : CpInfo := .utf8 (stringToUtf16 s)
/-- a pool by its gaps: so many unusable entries, then the entry; so many at the end -/
def gap : Nat → List CpInfo → List CpInfo
  | 0, r => r
  | n + 1, r => .unusable :: gap n r
def poolList (es : List (Nat × CpInfo)) (last : Nat) : List CpInfo := es.foldr (fun e r => gap e.1 (e.2 :: r)) (gap last [])
def pool (es : List (Nat × CpInfo)) (last : Nat) : Array CpInfo := ⟨poolList es last⟩
def fileOf (pool : Array CpInfo) (this : Nat) (attrs : Array Attribute := #[]) (ms : Array MethodInfo := #[]) (fl : Nat := 33) (sup : Nat := 0) (ifs : Array Nat := #[]) (fds : Array FieldInfo := #[]) : ClassFile where
  minorVersion := 0
  majorVersion := 65
  constantPool := pool
  accessFlags := fl
  thisClass := this
  superClass := sup
  interfaces := ifs
  fields := fds
  methods := ms
  attributes := attrs
def plain (name : String) (sup : Option ClassId) : Class where
  name := name
  kind := .ordinary
  loader := none
  accessFlags := 33
  super := sup
  interfaces := #[]
  cf := none
  fields := #[]
  methods := #[]
  instanceTypes := #[]
  staticTypes := #[]
  resolved := #[]
  callSites := []
  init := .initialized
  statics := none
  mirror := none

def pool0 : Array CpInfo := pool [(5, u "<init>"), (0, u "()V"), (1, .class_ 10), (1, u "java/lang/Object")] 113

def k0c0 : Code := { maxStack := 0, maxLocals := 1, code := object_method_1_code, exceptionTable := #[], attributes := #[] }
def k0m0 : Method := { name := "<init>", desc := "()V", sig := { parameters := [], returnType := none }, accessFlags := 1, code := some k0c0 }
/-- java/lang/Object -/
def k0 : Class := { plain "java/lang/Object" none with
  accessFlags := 33
  interfaces := #[]
  cf := some (fileOf pool0 8 #[] #[{ accessFlags := 1, nameIndex := 5, descriptorIndex := 6, attributes := #[] }] 33 0 #[] #[])
  fields := #[]
  methods := #[k0m0]
  instanceTypes := #[]
  staticTypes := #[]
  resolved := Array.replicate 124 none
  statics := none }

def pool1 : Array CpInfo := pool [(2, .class_ 4), (0, .nameAndType 5 6), (0, u "java/lang/Object"), (0, u "<init>"), (0, u "()V"), (0, .class_ 8), (0, u "nearcast/engine/Best"), (0, .methodref 7 3), (0, .double 4598175219545276416), (1, .methodref 7 13), (0, .nameAndType 14 15), (0, u "reset"), (0, u "(DII)V"), (0, .long 100), (1, .methodref 7 19), (0, .nameAndType 20 21), (0, u "offer"), (0, u "(IJDII)V"), (0, .long 200), (1, .methodref 7 25), (0, .nameAndType 26 6), (0, u "order"), (0, .double 4652222813120233472), (1, .double 4611686018427387904), (1, .methodref 7 32), (0, .nameAndType 33 34), (0, u "rulesOut"), (0, u "(DJ)Z"), (0, .methodref 7 36), (0, .nameAndType 37 38), (0, u "scores"), (0, u "()J"), (0, .methodref 7 40), (0, .nameAndType 41 42), (0, u "leftOut"), (0, u "()D"), (0, .methodref 7 44), (0, .nameAndType 45 46), (0, u "score"), (0, u "(I)D"), (0, .long 2), (3, .double 9218868437227405312), (1, .class_ 54), (0, u "nearcast/engine/BestResetPinLaw"), (2, u "law"), (0, u "(IIIJJJ)Z")] 3

def k1m0 : Method := { name := "<init>", desc := "()V", sig := { parameters := [], returnType := none }, accessFlags := 2, code := none }
def k1c1 : Code := { maxStack := 8, maxLocals := 24, code := code, exceptionTable := #[], attributes := #[] }
def k1m1 : Method := { name := "law", desc := "(IIIJJJ)Z", sig := { parameters := [.int, .int, .int, .long, .long, .long], returnType := some .boolean }, accessFlags := 9, code := some k1c1 }
/-- nearcast/engine/BestResetPinLaw -/
def k1 : Class := { plain "nearcast/engine/BestResetPinLaw" (some 0) with
  accessFlags := 49
  interfaces := #[]
  cf := some (fileOf pool1 53 #[] #[{ accessFlags := 2, nameIndex := 5, descriptorIndex := 6, attributes := #[] }, { accessFlags := 9, nameIndex := 57, descriptorIndex := 58, attributes := #[] }] 49 2 #[] #[])
  fields := #[]
  methods := #[k1m0, k1m1]
  instanceTypes := #[]
  staticTypes := #[]
  resolved := Array.replicate 62 none
  statics := none }

def pool2 : Array CpInfo := pool [(2, .class_ 4), (0, .nameAndType 5 6), (0, u "nearcast/engine/Best"), (0, u "<init>"), (0, u "()V"), (2, u "reset"), (0, u "(DII)V"), (0, .methodref 12 3), (0, .class_ 13), (0, u "java/lang/Object"), (2, .double 18442240474082181120), (1, .fieldref 2 19), (0, .nameAndType 20 21), (0, u "leftOut"), (0, u "D"), (0, .fieldref 2 23), (0, .nameAndType 24 25), (0, u "slots"), (0, u "[I"), (0, .fieldref 2 27), (0, .nameAndType 28 29), (0, u "published"), (0, u "[J"), (0, .fieldref 2 31), (0, .nameAndType 32 33), (0, u "scores"), (0, u "[D"), (0, .fieldref 2 35), (0, .nameAndType 36 37), (0, u "shares"), (0, u "[C"), (0, .fieldref 2 39), (0, .nameAndType 40 21), (0, u "alpha"), (0, .fieldref 2 42), (0, .nameAndType 43 44), (0, u "keywords"), (0, u "I"), (0, .fieldref 2 46), (0, .nameAndType 47 44), (0, u "count"), (0, .fieldref 2 49), (0, .nameAndType 50 44), (0, u "size"), (0, .fieldref 2 52), (0, .nameAndType 53 54), (0, u "scored"), (0, u "J"), (0, .fieldref 2 56), (0, .nameAndType 57 58), (0, u "ordered"), (0, u "Z"), (0, .fieldref 2 60), (0, .nameAndType 61 58), (0, u "heap"), (11, .class_ 75), (1, u "nearcast/engine/Score"), (7, u "()J"), (2, u "offer"), (0, u "(IJDII)V"), (7, .methodref 73 96), (0, .nameAndType 97 98), (0, u "of"), (0, u "(DDII)D"), (0, .methodref 100 101), (0, .class_ 102), (0, .nameAndType 97 103), (0, u "nearcast/engine/Share"), (0, u "(II)C"), (3, .methodref 2 108), (0, .nameAndType 109 110), (0, u "set"), (0, u "(IIJDC)V"), (0, .methodref 2 112), (0, .nameAndType 113 114), (0, u "worstScore"), (0, u "()D"), (0, .methodref 73 116), (0, .nameAndType 117 118), (0, u "bestFirst"), (0, u "(DJDJ)I"), (0, .methodref 2 120), (0, .nameAndType 121 122), (0, u "leaveOut"), (0, u "(D)V"), (0, .methodref 2 124), (0, .nameAndType 125 126), (0, u "siftDown"), (0, u "(IIIJDC)V"), (2, .double 9218868437227405312), (1, .methodref 2 132), (0, .nameAndType 133 134), (0, u "put"), (0, u "(II)V"), (5, .methodref 141 142), (0, .class_ 143), (0, .nameAndType 144 145), (0, u "java/lang/Math"), (0, u "max"), (0, u "(DD)D"), (23, u "ROOM"), (7, u "rulesOut"), (0, u "(DJ)Z"), (0, u "order"), (1, u "score"), (0, u "(I)D")] 6

def k2c0 : Code := { maxStack := 3, maxLocals := 1, code := prog_15_method_2_code, exceptionTable := #[], attributes := #[] }
def k2m0 : Method := { name := "<init>", desc := "()V", sig := { parameters := [], returnType := none }, accessFlags := 0, code := some k2c0 }
def k2c1 : Code := { maxStack := 3, maxLocals := 5, code := prog_15_method_3_code, exceptionTable := #[], attributes := #[] }
def k2m1 : Method := { name := "reset", desc := "(DII)V", sig := { parameters := [.double, .int, .int], returnType := none }, accessFlags := 0, code := some k2c1 }
def k2c2 : Code := { maxStack := 9, maxLocals := 11, code := prog_15_method_5_code, exceptionTable := #[], attributes := #[] }
def k2m2 : Method := { name := "offer", desc := "(IJDII)V", sig := { parameters := [.int, .long, .double, .int, .int], returnType := none }, accessFlags := 0, code := some k2c2 }
def k2c3 : Code := { maxStack := 8, maxLocals := 6, code := prog_15_method_7_code, exceptionTable := #[], attributes := #[] }
def k2m3 : Method := { name := "rulesOut", desc := "(DJ)Z", sig := { parameters := [.double, .long], returnType := some .boolean }, accessFlags := 0, code := some k2c3 }
def k2c4 : Code := { maxStack := 4, maxLocals := 1, code := prog_15_method_8_code, exceptionTable := #[], attributes := #[] }
def k2m4 : Method := { name := "leftOut", desc := "()D", sig := { parameters := [], returnType := some .double }, accessFlags := 0, code := some k2c4 }
def k2c5 : Code := { maxStack := 2, maxLocals := 1, code := prog_15_method_9_code, exceptionTable := #[], attributes := #[] }
def k2m5 : Method := { name := "scores", desc := "()J", sig := { parameters := [], returnType := some .long }, accessFlags := 0, code := some k2c5 }
def k2c6 : Code := { maxStack := 9, maxLocals := 8, code := prog_15_method_10_code, exceptionTable := #[], attributes := #[] }
def k2m6 : Method := { name := "order", desc := "()V", sig := { parameters := [], returnType := none }, accessFlags := 0, code := some k2c6 }
def k2c7 : Code := { maxStack := 2, maxLocals := 2, code := prog_15_method_13_code, exceptionTable := #[], attributes := #[] }
def k2m7 : Method := { name := "score", desc := "(I)D", sig := { parameters := [.int], returnType := some .double }, accessFlags := 0, code := some k2c7 }
def k2c8 : Code := { maxStack := 5, maxLocals := 3, code := prog_15_method_16_code, exceptionTable := #[], attributes := #[] }
def k2m8 : Method := { name := "leaveOut", desc := "(D)V", sig := { parameters := [.double], returnType := none }, accessFlags := 2, code := some k2c8 }
def k2c9 : Code := { maxStack := 10, maxLocals := 2, code := prog_15_method_19_code, exceptionTable := #[], attributes := #[] }
def k2m9 : Method := { name := "worstScore", desc := "()D", sig := { parameters := [], returnType := some .double }, accessFlags := 2, code := some k2c9 }
def k2c10 : Code := { maxStack := 8, maxLocals := 11, code := prog_15_method_20_code, exceptionTable := #[], attributes := #[] }
def k2m10 : Method := { name := "siftDown", desc := "(IIIJDC)V", sig := { parameters := [.int, .int, .int, .long, .double, .char], returnType := none }, accessFlags := 2, code := some k2c10 }
def k2c11 : Code := { maxStack := 4, maxLocals := 3, code := prog_15_method_22_code, exceptionTable := #[], attributes := #[] }
def k2m11 : Method := { name := "put", desc := "(II)V", sig := { parameters := [.int, .int], returnType := none }, accessFlags := 2, code := some k2c11 }
def k2c12 : Code := { maxStack := 4, maxLocals := 8, code := prog_15_method_23_code, exceptionTable := #[], attributes := #[] }
def k2m12 : Method := { name := "set", desc := "(IIJDC)V", sig := { parameters := [.int, .int, .long, .double, .char], returnType := none }, accessFlags := 2, code := some k2c12 }
/-- nearcast/engine/Best -/
def k2 : Class := { plain "nearcast/engine/Best" (some 0) with
  accessFlags := 48
  interfaces := #[]
  cf := some (fileOf pool2 2 #[] #[{ accessFlags := 0, nameIndex := 5, descriptorIndex := 6, attributes := #[] }, { accessFlags := 0, nameIndex := 9, descriptorIndex := 10, attributes := #[] }, { accessFlags := 0, nameIndex := 86, descriptorIndex := 87, attributes := #[] }, { accessFlags := 0, nameIndex := 177, descriptorIndex := 178, attributes := #[] }, { accessFlags := 0, nameIndex := 20, descriptorIndex := 114, attributes := #[] }, { accessFlags := 0, nameIndex := 32, descriptorIndex := 83, attributes := #[] }, { accessFlags := 0, nameIndex := 179, descriptorIndex := 6, attributes := #[] }, { accessFlags := 0, nameIndex := 181, descriptorIndex := 182, attributes := #[] }, { accessFlags := 2, nameIndex := 121, descriptorIndex := 122, attributes := #[] }, { accessFlags := 2, nameIndex := 113, descriptorIndex := 114, attributes := #[] }, { accessFlags := 2, nameIndex := 125, descriptorIndex := 126, attributes := #[] }, { accessFlags := 2, nameIndex := 133, descriptorIndex := 134, attributes := #[] }, { accessFlags := 2, nameIndex := 109, descriptorIndex := 110, attributes := #[] }] 48 12 #[] #[{ accessFlags := 26, nameIndex := 169, descriptorIndex := 44, attributes := #[] }, { accessFlags := 2, nameIndex := 40, descriptorIndex := 21, attributes := #[] }, { accessFlags := 2, nameIndex := 43, descriptorIndex := 44, attributes := #[] }, { accessFlags := 2, nameIndex := 47, descriptorIndex := 44, attributes := #[] }, { accessFlags := 2, nameIndex := 24, descriptorIndex := 25, attributes := #[] }, { accessFlags := 2, nameIndex := 28, descriptorIndex := 29, attributes := #[] }, { accessFlags := 2, nameIndex := 32, descriptorIndex := 33, attributes := #[] }, { accessFlags := 2, nameIndex := 36, descriptorIndex := 37, attributes := #[] }, { accessFlags := 2, nameIndex := 50, descriptorIndex := 44, attributes := #[] }, { accessFlags := 2, nameIndex := 53, descriptorIndex := 54, attributes := #[] }, { accessFlags := 2, nameIndex := 57, descriptorIndex := 58, attributes := #[] }, { accessFlags := 2, nameIndex := 61, descriptorIndex := 58, attributes := #[] }, { accessFlags := 2, nameIndex := 20, descriptorIndex := 21, attributes := #[] }])
  fields := #[{ name := "ROOM", type := .int, accessFlags := 26, slot := 0, constantValue := 0 }, { name := "alpha", type := .double, accessFlags := 2, slot := 0, constantValue := 0 }, { name := "keywords", type := .int, accessFlags := 2, slot := 1, constantValue := 0 }, { name := "count", type := .int, accessFlags := 2, slot := 2, constantValue := 0 }, { name := "slots", type := (.array .int), accessFlags := 2, slot := 3, constantValue := 0 }, { name := "published", type := (.array .long), accessFlags := 2, slot := 4, constantValue := 0 }, { name := "scores", type := (.array .double), accessFlags := 2, slot := 5, constantValue := 0 }, { name := "shares", type := (.array .char), accessFlags := 2, slot := 6, constantValue := 0 }, { name := "size", type := .int, accessFlags := 2, slot := 7, constantValue := 0 }, { name := "scored", type := .long, accessFlags := 2, slot := 8, constantValue := 0 }, { name := "ordered", type := .boolean, accessFlags := 2, slot := 9, constantValue := 0 }, { name := "heap", type := .boolean, accessFlags := 2, slot := 10, constantValue := 0 }, { name := "leftOut", type := .double, accessFlags := 2, slot := 11, constantValue := 0 }]
  methods := #[k2m0, k2m1, k2m2, k2m3, k2m4, k2m5, k2m6, k2m7, k2m8, k2m9, k2m10, k2m11, k2m12]
  instanceTypes := #[.double, .int, .int, (.array .int), (.array .long), (.array .double), (.array .char), .int, .long, .boolean, .boolean, .double]
  staticTypes := #[.int]
  resolved := Array.replicate 189 none
  statics := none }

def pool3 : Array CpInfo := pool [(2, .class_ 4), (1, u "java/lang/Object"), (0, u "<init>"), (0, u "()V"), (0, .methodref 8 9), (0, .class_ 10), (0, .nameAndType 11 12), (0, u "nearcast/engine/Score"), (0, u "jaccard"), (0, u "(II)D"), (0, .methodref 8 14), (0, .nameAndType 15 16), (0, u "of"), (0, u "(DDD)D"), (26, .methodref 44 45), (0, .class_ 46), (0, .nameAndType 47 48), (0, u "java/lang/Double"), (0, u "compare"), (0, u "(DD)I"), (5, u "ROUNDING"), (0, u "D"), (3, u "(DDII)D"), (5, u "bestFirst"), (0, u "(DJDJ)I")] 2

def k3m0 : Method := { name := "<init>", desc := "()V", sig := { parameters := [], returnType := none }, accessFlags := 2, code := none }
def k3c1 : Code := { maxStack := 6, maxLocals := 6, code := prog_74_method_2_code, exceptionTable := #[], attributes := #[] }
def k3m1 : Method := { name := "of", desc := "(DDD)D", sig := { parameters := [.double, .double, .double], returnType := some .double }, accessFlags := 8, code := some k3c1 }
def k3c2 : Code := { maxStack := 6, maxLocals := 6, code := prog_74_method_3_code, exceptionTable := #[], attributes := #[] }
def k3m2 : Method := { name := "of", desc := "(DDII)D", sig := { parameters := [.double, .double, .int, .int], returnType := some .double }, accessFlags := 8, code := some k3c2 }
def k3c3 : Code := { maxStack := 4, maxLocals := 2, code := prog_74_method_9_code, exceptionTable := #[], attributes := #[] }
def k3m3 : Method := { name := "jaccard", desc := "(II)D", sig := { parameters := [.int, .int], returnType := some .double }, accessFlags := 8, code := some k3c3 }
def k3c4 : Code := { maxStack := 4, maxLocals := 9, code := prog_74_method_11_code, exceptionTable := #[], attributes := #[] }
def k3m4 : Method := { name := "bestFirst", desc := "(DJDJ)I", sig := { parameters := [.double, .long, .double, .long], returnType := some .int }, accessFlags := 8, code := some k3c4 }
/-- nearcast/engine/Score -/
def k3 : Class := { plain "nearcast/engine/Score" (some 0) with
  accessFlags := 48
  interfaces := #[]
  cf := some (fileOf pool3 8 #[] #[{ accessFlags := 2, nameIndex := 5, descriptorIndex := 6, attributes := #[] }, { accessFlags := 8, nameIndex := 15, descriptorIndex := 16, attributes := #[] }, { accessFlags := 8, nameIndex := 15, descriptorIndex := 59, attributes := #[] }, { accessFlags := 8, nameIndex := 11, descriptorIndex := 12, attributes := #[] }, { accessFlags := 8, nameIndex := 65, descriptorIndex := 66, attributes := #[] }] 48 2 #[] #[{ accessFlags := 24, nameIndex := 54, descriptorIndex := 55, attributes := #[] }])
  fields := #[{ name := "ROUNDING", type := .double, accessFlags := 24, slot := 0, constantValue := 0 }]
  methods := #[k3m0, k3m1, k3m2, k3m3, k3m4]
  instanceTypes := #[]
  staticTypes := #[.double]
  resolved := Array.replicate 69 none
  statics := none }

def pool4 : Array CpInfo := pool [(2, .class_ 4), (1, u "java/lang/Object"), (0, u "<init>"), (0, u "()V"), (0, .class_ 8), (0, u "nearcast/engine/Share"), (13, u "UNION_BITS"), (0, u "I"), (4, u "of"), (0, u "(II)C")] 3

def k4m0 : Method := { name := "<init>", desc := "()V", sig := { parameters := [], returnType := none }, accessFlags := 2, code := none }
def k4c1 : Code := { maxStack := 2, maxLocals := 2, code := prog_76_method_2_code, exceptionTable := #[], attributes := #[] }
def k4m1 : Method := { name := "of", desc := "(II)C", sig := { parameters := [.int, .int], returnType := some .char }, accessFlags := 8, code := some k4c1 }
/-- nearcast/engine/Share -/
def k4 : Class := { plain "nearcast/engine/Share" (some 0) with
  accessFlags := 48
  interfaces := #[]
  cf := some (fileOf pool4 7 #[] #[{ accessFlags := 2, nameIndex := 5, descriptorIndex := 6, attributes := #[] }, { accessFlags := 8, nameIndex := 28, descriptorIndex := 29, attributes := #[] }] 48 2 #[] #[{ accessFlags := 26, nameIndex := 22, descriptorIndex := 23, attributes := #[] }])
  fields := #[{ name := "UNION_BITS", type := .int, accessFlags := 26, slot := 0, constantValue := 0 }]
  methods := #[k4m0, k4m1]
  instanceTypes := #[]
  staticTypes := #[.int]
  resolved := Array.replicate 33 none
  statics := none }

def pool5 : Array CpInfo := pool [(1, .class_ 2), (0, u "java/io/Serializable"), (0, .class_ 4), (0, u "java/lang/Object")] 2

/-- java/io/Serializable -/
def k5 : Class := { plain "java/io/Serializable" (some 0) with
  accessFlags := 1537
  interfaces := #[]
  cf := some (fileOf pool5 1 #[] #[] 1537 3 #[] #[])
  fields := #[]
  methods := #[]
  instanceTypes := #[]
  staticTypes := #[]
  resolved := Array.replicate 7 none
  statics := none }

def pool6 : Array CpInfo := pool [(2, .class_ 4), (1, u "java/lang/Object"), (0, u "<init>"), (0, u "()V"), (1, .class_ 10), (1, u "java/lang/Number"), (2, .class_ 14), (0, u "java/io/Serializable"), (0, u "serialVersionUID"), (0, u "J")] 20

def k6m0 : Method := { name := "<init>", desc := "()V", sig := { parameters := [], returnType := none }, accessFlags := 1, code := none }
/-- java/lang/Number -/
def k6 : Class := { plain "java/lang/Number" (some 0) with
  accessFlags := 1057
  interfaces := #[5]
  cf := some (fileOf pool6 8 #[] #[{ accessFlags := 1, nameIndex := 5, descriptorIndex := 6, attributes := #[] }] 1057 2 #[13] #[{ accessFlags := 26, nameIndex := 15, descriptorIndex := 16, attributes := #[] }])
  fields := #[{ name := "serialVersionUID", type := .long, accessFlags := 26, slot := 0, constantValue := 0 }]
  methods := #[k6m0]
  instanceTypes := #[]
  staticTypes := #[.long]
  resolved := Array.replicate 37 none
  statics := none }

def pool7 : Array CpInfo := pool [(1, .class_ 2), (0, u "java/lang/Comparable"), (0, .class_ 4), (0, u "java/lang/Object")] 7

/-- java/lang/Comparable -/
def k7 : Class := { plain "java/lang/Comparable" (some 0) with
  accessFlags := 1537
  interfaces := #[]
  cf := some (fileOf pool7 1 #[] #[] 1537 3 #[] #[])
  fields := #[]
  methods := #[]
  instanceTypes := #[]
  staticTypes := #[]
  resolved := Array.replicate 12 none
  statics := none }

def pool8 : Array CpInfo := pool [(1, .class_ 2), (0, u "java/lang/constant/Constable"), (0, .class_ 4), (0, u "java/lang/Object")] 6

/-- java/lang/constant/Constable -/
def k8 : Class := { plain "java/lang/constant/Constable" (some 0) with
  accessFlags := 1537
  interfaces := #[]
  cf := some (fileOf pool8 1 #[] #[] 1537 3 #[] #[])
  fields := #[]
  methods := #[]
  instanceTypes := #[]
  staticTypes := #[]
  resolved := Array.replicate 11 none
  statics := none }

def pool9 : Array CpInfo := pool [(1, .class_ 2), (0, u "java/lang/constant/ConstantDesc"), (0, .class_ 4), (0, u "java/lang/Object")] 32

/-- java/lang/constant/ConstantDesc -/
def k9 : Class := { plain "java/lang/constant/ConstantDesc" (some 0) with
  accessFlags := 1537
  interfaces := #[]
  cf := some (fileOf pool9 1 #[] #[] 1537 3 #[] #[])
  fields := #[]
  methods := #[]
  instanceTypes := #[]
  staticTypes := #[]
  resolved := Array.replicate 37 none
  statics := none }

def pool10 : Array CpInfo := pool [(1, .class_ 2), (0, u "java/lang/Double"), (111, .class_ 116), (1, u "java/lang/Number"), (3, u "value"), (0, u "D"), (19, u "compare"), (0, u "(DD)I"), (30, u "TYPE"), (0, u "Ljava/lang/Class;"), (0, .class_ 176), (0, u "java/lang/Comparable"), (0, .class_ 178), (0, u "java/lang/constant/Constable"), (0, .class_ 180), (0, u "java/lang/constant/ConstantDesc"), (0, u "POSITIVE_INFINITY"), (3, u "NEGATIVE_INFINITY"), (2, u "NaN"), (2, u "MAX_VALUE"), (0, u "MIN_NORMAL"), (0, u "MIN_VALUE"), (2, u "SIZE"), (0, u "I"), (1, u "PRECISION"), (1, u "MAX_EXPONENT"), (1, u "MIN_EXPONENT"), (1, u "BYTES"), (3, u "serialVersionUID"), (0, u "J")] 79

def k10c0 : Code := { maxStack := 4, maxLocals := 8, code := jdk_117_method_27_code, exceptionTable := #[], attributes := #[] }
def k10m0 : Method := { name := "compare", desc := "(DD)I", sig := { parameters := [.double, .double], returnType := some .int }, accessFlags := 9, code := some k10c0 }
/-- java/lang/Double -/
def k10 : Class := { plain "java/lang/Double" (some 6) with
  accessFlags := 49
  interfaces := #[7, 8, 9]
  cf := some (fileOf pool10 1 #[] #[{ accessFlags := 9, nameIndex := 141, descriptorIndex := 142, attributes := #[] }] 49 114 #[175, 177, 179] #[{ accessFlags := 25, nameIndex := 181, descriptorIndex := 121, attributes := #[] }, { accessFlags := 25, nameIndex := 185, descriptorIndex := 121, attributes := #[] }, { accessFlags := 25, nameIndex := 188, descriptorIndex := 121, attributes := #[] }, { accessFlags := 25, nameIndex := 191, descriptorIndex := 121, attributes := #[] }, { accessFlags := 25, nameIndex := 192, descriptorIndex := 121, attributes := #[] }, { accessFlags := 25, nameIndex := 193, descriptorIndex := 121, attributes := #[] }, { accessFlags := 25, nameIndex := 196, descriptorIndex := 197, attributes := #[] }, { accessFlags := 25, nameIndex := 199, descriptorIndex := 197, attributes := #[] }, { accessFlags := 25, nameIndex := 201, descriptorIndex := 197, attributes := #[] }, { accessFlags := 25, nameIndex := 203, descriptorIndex := 197, attributes := #[] }, { accessFlags := 25, nameIndex := 205, descriptorIndex := 197, attributes := #[] }, { accessFlags := 25, nameIndex := 173, descriptorIndex := 174, attributes := #[] }, { accessFlags := 18, nameIndex := 120, descriptorIndex := 121, attributes := #[] }, { accessFlags := 26, nameIndex := 209, descriptorIndex := 210, attributes := #[] }])
  fields := #[{ name := "POSITIVE_INFINITY", type := .double, accessFlags := 25, slot := 0, constantValue := 0 }, { name := "NEGATIVE_INFINITY", type := .double, accessFlags := 25, slot := 1, constantValue := 0 }, { name := "NaN", type := .double, accessFlags := 25, slot := 2, constantValue := 0 }, { name := "MAX_VALUE", type := .double, accessFlags := 25, slot := 3, constantValue := 0 }, { name := "MIN_NORMAL", type := .double, accessFlags := 25, slot := 4, constantValue := 0 }, { name := "MIN_VALUE", type := .double, accessFlags := 25, slot := 5, constantValue := 0 }, { name := "SIZE", type := .int, accessFlags := 25, slot := 6, constantValue := 0 }, { name := "PRECISION", type := .int, accessFlags := 25, slot := 7, constantValue := 0 }, { name := "MAX_EXPONENT", type := .int, accessFlags := 25, slot := 8, constantValue := 0 }, { name := "MIN_EXPONENT", type := .int, accessFlags := 25, slot := 9, constantValue := 0 }, { name := "BYTES", type := .int, accessFlags := 25, slot := 10, constantValue := 0 }, { name := "TYPE", type := (.object "java/lang/Class"), accessFlags := 25, slot := 11, constantValue := 0 }, { name := "value", type := .double, accessFlags := 18, slot := 0, constantValue := 0 }, { name := "serialVersionUID", type := .long, accessFlags := 26, slot := 12, constantValue := 0 }]
  methods := #[k10m0]
  instanceTypes := #[.double]
  staticTypes := #[.double, .double, .double, .double, .double, .double, .int, .int, .int, .int, .int, (.object "java/lang/Class"), .long]
  resolved := Array.replicate 290 none
  statics := none }

def pool11 : Array CpInfo := pool [(1, .class_ 2), (0, u "java/lang/Math"), (1, .class_ 6), (1, u "java/lang/Object"), (0, u "<init>"), (0, u "()V"), (43, u "(DD)D"), (45, .class_ 100), (1, u "java/lang/Math$RandomNumberGeneratorHolder"), (71, u "negativeZeroFloatBits"), (0, u "J"), (2, u "negativeZeroDoubleBits"), (21, u "max"), (46, u "$assertionsDisabled"), (0, u "Z"), (91, u "twoToTheDoubleScaleDown"), (0, u "D"), (4, u "twoToTheDoubleScaleUp"), (9, u "E"), (3, u "PI"), (2, u "TAU"), (2, u "DEGREES_TO_RADIANS"), (0, u "RADIANS_TO_DEGREES")] 94

def k11m0 : Method := { name := "<init>", desc := "()V", sig := { parameters := [], returnType := none }, accessFlags := 2, code := none }
def k11c1 : Code := { maxStack := 4, maxLocals := 4, code := jdk_29_method_68_code, exceptionTable := #[], attributes := #[] }
def k11m1 : Method := { name := "max", desc := "(DD)D", sig := { parameters := [.double, .double], returnType := some .double }, accessFlags := 9, code := some k11c1 }
/-- java/lang/Math -/
def k11 : Class := { plain "java/lang/Math" (some 0) with
  accessFlags := 49
  interfaces := #[]
  cf := some (fileOf pool11 1 #[.nestMembers #[98]] #[{ accessFlags := 2, nameIndex := 7, descriptorIndex := 8, attributes := #[] }, { accessFlags := 9, nameIndex := 198, descriptorIndex := 52, attributes := #[] }] 49 4 #[] #[{ accessFlags := 25, nameIndex := 354, descriptorIndex := 339, attributes := #[] }, { accessFlags := 25, nameIndex := 358, descriptorIndex := 339, attributes := #[] }, { accessFlags := 25, nameIndex := 361, descriptorIndex := 339, attributes := #[] }, { accessFlags := 26, nameIndex := 364, descriptorIndex := 339, attributes := #[] }, { accessFlags := 26, nameIndex := 365, descriptorIndex := 339, attributes := #[] }, { accessFlags := 26, nameIndex := 172, descriptorIndex := 173, attributes := #[] }, { accessFlags := 26, nameIndex := 176, descriptorIndex := 173, attributes := #[] }, { accessFlags := 8, nameIndex := 344, descriptorIndex := 339, attributes := #[] }, { accessFlags := 8, nameIndex := 338, descriptorIndex := 339, attributes := #[] }, { accessFlags := 4120, nameIndex := 245, descriptorIndex := 246, attributes := #[] }])
  fields := #[{ name := "E", type := .double, accessFlags := 25, slot := 0, constantValue := 0 }, { name := "PI", type := .double, accessFlags := 25, slot := 1, constantValue := 0 }, { name := "TAU", type := .double, accessFlags := 25, slot := 2, constantValue := 0 }, { name := "DEGREES_TO_RADIANS", type := .double, accessFlags := 26, slot := 3, constantValue := 0 }, { name := "RADIANS_TO_DEGREES", type := .double, accessFlags := 26, slot := 4, constantValue := 0 }, { name := "negativeZeroFloatBits", type := .long, accessFlags := 26, slot := 5, constantValue := 0 }, { name := "negativeZeroDoubleBits", type := .long, accessFlags := 26, slot := 6, constantValue := 0 }, { name := "twoToTheDoubleScaleUp", type := .double, accessFlags := 8, slot := 7, constantValue := 0 }, { name := "twoToTheDoubleScaleDown", type := .double, accessFlags := 8, slot := 8, constantValue := 0 }, { name := "$assertionsDisabled", type := .boolean, accessFlags := 4120, slot := 9, constantValue := 0 }]
  methods := #[k11m0, k11m1]
  instanceTypes := #[]
  staticTypes := #[.double, .double, .double, .double, .double, .long, .long, .double, .double, .boolean]
  resolved := Array.replicate 460 none
  statics := none }

def pool12 : Array CpInfo := pool [(1, u "java/lang/Cloneable"), (0, .class_ 1), (0, u "java/lang/Object"), (0, .class_ 3)] 3

/-- java/lang/Cloneable -/
def k12 : Class := { plain "java/lang/Cloneable" (some 0) with
  accessFlags := 1537
  interfaces := #[]
  cf := some (fileOf pool12 2 #[] #[] 1537 4 #[] #[])
  fields := #[]
  methods := #[]
  instanceTypes := #[]
  staticTypes := #[]
  resolved := Array.replicate 8 none
  statics := none }

/-- the primitive byte -/
def k13 : Class := { plain "byte" none with kind := .primitive 'B', accessFlags := 0x411 }
/-- [B -/
def k14 : Class := { plain "[B" (some 0) with kind := .array 13 .byte, interfaces := #[12, 5], accessFlags := 1041 }

/-- the primitive char -/
def k15 : Class := { plain "char" none with kind := .primitive 'C', accessFlags := 0x411 }
/-- [C -/
def k16 : Class := { plain "[C" (some 0) with kind := .array 15 .char, interfaces := #[12, 5], accessFlags := 1041 }

/-- the primitive double -/
def k17 : Class := { plain "double" none with kind := .primitive 'D', accessFlags := 0x411 }
/-- [D -/
def k18 : Class := { plain "[D" (some 0) with kind := .array 17 .double, interfaces := #[12, 5], accessFlags := 1041 }

/-- the primitive int -/
def k19 : Class := { plain "int" none with kind := .primitive 'I', accessFlags := 0x411 }
/-- [I -/
def k20 : Class := { plain "[I" (some 0) with kind := .array 19 .int, interfaces := #[12, 5], accessFlags := 1041 }

/-- the primitive long -/
def k21 : Class := { plain "long" none with kind := .primitive 'J', accessFlags := 0x411 }
/-- [J -/
def k22 : Class := { plain "[J" (some 0) with kind := .array 21 .long, interfaces := #[12, 5], accessFlags := 1041 }

def heap : Heap := #[]
def classes : Array Class := #[k0, k1, k2, k3, k4, k5, k6, k7, k8, k9, k10, k11, k12, k13, k14, k15, k16, k17, k18, k19, k20, k21, k22]
def interned : List (Array UInt16 × Addr) := []
def slotsUsed : Nat := 0
def theMethod : MethodId := ⟨1, 1⟩
def args0 : Array Value := #[.int 1, .int 2, .int 3, .long 4, .long 5, .long 6]
def aboutOver (below : List Frame) : State where
  vm := { classes := classes, interned := interned.toArray }
  heap := heap
  slotsUsed := slotsUsed
  threads := #[{ frames := .invoking theMethod args0 :: below }]
def below0 : List Frame := [.native { method := ⟨0, 0⟩, args := #[] }]
def about1 : State := aboutOver below0
def p0 : Program := .bare "" "" ""
def e0 : Env := launch0.env 0 0 0
theorem w_frames : about1.frames = Frame.invoking theMethod args0 :: below0 := rfl
set_option maxRecDepth 65536 in
theorem w_args : argsFit about1.vm theMethod args0 = true := by decide +kernel
set_option maxRecDepth 65536 in
theorem w_heap : heapFits about1 = true := by decide +kernel
set_option maxRecDepth 65536 in
theorem w_runnable : about1.curStatus? = some .runnable := by decide +kernel
set_option maxRecDepth 65536 in
theorem w_alone : about1.alone = true := by decide +kernel
set_option maxRecDepth 65536 in
theorem w_named : about1.methodNamed? x = some theMethod := by decide +kernel
set_option maxRecDepth 65536 in
theorem w_hears : about1.hears theMethod below0 = true := by decide +kernel
set_option maxRecDepth 65536 in
theorem w_ripe : about1.ripe theMethod args0 below0 = true := by decide +kernel
theorem w_running : about1.status = .running := rfl
set_option maxRecDepth 65536 in
theorem w_room : about1.hasRoom e0.platform room_1 = true :=
  launch0.hasRoom_least _ room_1 (by decide +kernel) (by decide +kernel) (by decide +kernel) (by decide +kernel) (by decide +kernel) (by decide +kernel)
theorem allAtoms_all (ts : List Jvm.Cond) (a : Array Jvm.Value) (st : Jvm.State) : (allAtoms ts).before a st = ts.all (fun c => c.before a st) := by
  induction ts with
  | nil => rfl
  | cons c t ih =>
    show (Jvm.Cond.and c (allAtoms t)).before a st = _
    rw [Jvm.Cond.before_and, ih, List.all_cons]
def words1 : List Jvm.Cond := Jvm.Cond.code x code maxLocals ret :: tables_1
/-- a 'code' word, met by the world's own term for the bytes: nothing is compared byte by byte -/
theorem code_word {y : MethodName} {bytes : ByteArray} {mx : Nat} {rt : Option FieldType} {a : Array Value} {s : State} {m : MethodId} {meth : Method} {c : Code} (h1 : s.methodNamed? y = some m) (h2 : s.vm.method? m = some meth) (h3 : meth.code = some c) (h4 : c.code = bytes)
    (h5 : (c.maxLocals == mx && c.exceptionTable.isEmpty && decide (c.maxStack ≤ mostOperands) && decide (meth.sig.returnType = rt) && !meth.locks && decide (parseMethodDescriptor y.desc = some meth.sig)) = true) : (Jvm.Cond.code y bytes mx rt).before a s = true := by
  simp only [Bool.and_eq_true, beq_iff_eq, Bool.not_eq_true', decide_eq_true_eq] at h5
  obtain ⟨⟨⟨⟨⟨g1, g2⟩, g3⟩, g4⟩, g5⟩, g6⟩ := h5
  simp [Cond.before, Cond.holds, Cond.value, h1, h2, h3, h4, g1, g2, g3, g4, g5, g6]
def isCode : Jvm.Cond → Bool
  | .code _ _ _ _ => true
  | _ => false
theorem all_split {L : List Jvm.Cond} {P : Jvm.Cond → Bool} (h1 : L.all (fun c => isCode c || P c) = true) (h2 : ∀ c ∈ L.filter isCode, P c = true) : L.all P = true := by
  refine List.all_eq_true.mpr fun c hc => ?_
  have h := List.all_eq_true.mp h1 c hc
  rcases Bool.eq_false_or_eq_true (isCode c) with hi | hi
  · exact h2 c (List.mem_filter.mpr ⟨hc, hi⟩)
  · simpa [hi] using h
set_option maxRecDepth 65536 in
theorem w_c0 : (Jvm.Cond.code x code maxLocals ret).before args0 about1 = true := code_word (m := ⟨1, 1⟩) (meth := k1m1) (c := k1c1) (by decide +kernel) rfl rfl rfl (by decide +kernel)
set_option maxRecDepth 65536 in
theorem w_c1 : (Jvm.Cond.code ({ cls := "nearcast/engine/Best", name := "<init>", desc := "()V" } : Jvm.MethodName) prog_15_method_2_code (1 : Nat) (Option.none : Option Jvm.ClassFile.FieldType)).before args0 about1 = true := code_word (m := ⟨2, 0⟩) (meth := k2m0) (c := k2c0) (by decide +kernel) rfl rfl rfl (by decide +kernel)
set_option maxRecDepth 65536 in
theorem w_c2 : (Jvm.Cond.code ({ cls := "java/lang/Object", name := "<init>", desc := "()V" } : Jvm.MethodName) object_method_1_code (1 : Nat) (Option.none : Option Jvm.ClassFile.FieldType)).before args0 about1 = true := code_word (m := ⟨0, 0⟩) (meth := k0m0) (c := k0c0) (by decide +kernel) rfl rfl rfl (by decide +kernel)
set_option maxRecDepth 65536 in
theorem w_c3 : (Jvm.Cond.code ({ cls := "nearcast/engine/Best", name := "reset", desc := "(DII)V" } : Jvm.MethodName) prog_15_method_3_code (5 : Nat) (Option.none : Option Jvm.ClassFile.FieldType)).before args0 about1 = true := code_word (m := ⟨2, 1⟩) (meth := k2m1) (c := k2c1) (by decide +kernel) rfl rfl rfl (by decide +kernel)
set_option maxRecDepth 65536 in
theorem w_c4 : (Jvm.Cond.code ({ cls := "nearcast/engine/Best", name := "offer", desc := "(IJDII)V" } : Jvm.MethodName) prog_15_method_5_code (11 : Nat) (Option.none : Option Jvm.ClassFile.FieldType)).before args0 about1 = true := code_word (m := ⟨2, 2⟩) (meth := k2m2) (c := k2c2) (by decide +kernel) rfl rfl rfl (by decide +kernel)
set_option maxRecDepth 65536 in
theorem w_c5 : (Jvm.Cond.code ({ cls := "nearcast/engine/Score", name := "of", desc := "(DDII)D" } : Jvm.MethodName) prog_74_method_3_code (6 : Nat) (Option.some Jvm.ClassFile.FieldType.double)).before args0 about1 = true := code_word (m := ⟨3, 2⟩) (meth := k3m2) (c := k3c2) (by decide +kernel) rfl rfl rfl (by decide +kernel)
set_option maxRecDepth 65536 in
theorem w_c6 : (Jvm.Cond.code ({ cls := "nearcast/engine/Score", name := "jaccard", desc := "(II)D" } : Jvm.MethodName) prog_74_method_9_code (2 : Nat) (Option.some Jvm.ClassFile.FieldType.double)).before args0 about1 = true := code_word (m := ⟨3, 3⟩) (meth := k3m3) (c := k3c3) (by decide +kernel) rfl rfl rfl (by decide +kernel)
set_option maxRecDepth 65536 in
theorem w_c7 : (Jvm.Cond.code ({ cls := "nearcast/engine/Score", name := "of", desc := "(DDD)D" } : Jvm.MethodName) prog_74_method_2_code (6 : Nat) (Option.some Jvm.ClassFile.FieldType.double)).before args0 about1 = true := code_word (m := ⟨3, 1⟩) (meth := k3m1) (c := k3c1) (by decide +kernel) rfl rfl rfl (by decide +kernel)
set_option maxRecDepth 65536 in
theorem w_c8 : (Jvm.Cond.code ({ cls := "nearcast/engine/Share", name := "of", desc := "(II)C" } : Jvm.MethodName) prog_76_method_2_code (2 : Nat) (Option.some Jvm.ClassFile.FieldType.char)).before args0 about1 = true := code_word (m := ⟨4, 1⟩) (meth := k4m1) (c := k4c1) (by decide +kernel) rfl rfl rfl (by decide +kernel)
set_option maxRecDepth 65536 in
theorem w_c9 : (Jvm.Cond.code ({ cls := "nearcast/engine/Best", name := "set", desc := "(IIJDC)V" } : Jvm.MethodName) prog_15_method_23_code (8 : Nat) (Option.none : Option Jvm.ClassFile.FieldType)).before args0 about1 = true := code_word (m := ⟨2, 12⟩) (meth := k2m12) (c := k2c12) (by decide +kernel) rfl rfl rfl (by decide +kernel)
set_option maxRecDepth 65536 in
theorem w_c10 : (Jvm.Cond.code ({ cls := "nearcast/engine/Best", name := "worstScore", desc := "()D" } : Jvm.MethodName) prog_15_method_19_code (2 : Nat) (Option.some Jvm.ClassFile.FieldType.double)).before args0 about1 = true := code_word (m := ⟨2, 9⟩) (meth := k2m9) (c := k2c9) (by decide +kernel) rfl rfl rfl (by decide +kernel)
set_option maxRecDepth 65536 in
theorem w_c11 : (Jvm.Cond.code ({ cls := "nearcast/engine/Score", name := "bestFirst", desc := "(DJDJ)I" } : Jvm.MethodName) prog_74_method_11_code (9 : Nat) (Option.some Jvm.ClassFile.FieldType.int)).before args0 about1 = true := code_word (m := ⟨3, 4⟩) (meth := k3m4) (c := k3c4) (by decide +kernel) rfl rfl rfl (by decide +kernel)
set_option maxRecDepth 65536 in
theorem w_c12 : (Jvm.Cond.code ({ cls := "java/lang/Double", name := "compare", desc := "(DD)I" } : Jvm.MethodName) jdk_117_method_27_code (8 : Nat) (Option.some Jvm.ClassFile.FieldType.int)).before args0 about1 = true := code_word (m := ⟨10, 0⟩) (meth := k10m0) (c := k10c0) (by decide +kernel) rfl rfl rfl (by decide +kernel)
set_option maxRecDepth 65536 in
theorem w_c13 : (Jvm.Cond.code ({ cls := "nearcast/engine/Best", name := "leaveOut", desc := "(D)V" } : Jvm.MethodName) prog_15_method_16_code (3 : Nat) (Option.none : Option Jvm.ClassFile.FieldType)).before args0 about1 = true := code_word (m := ⟨2, 8⟩) (meth := k2m8) (c := k2c8) (by decide +kernel) rfl rfl rfl (by decide +kernel)
set_option maxRecDepth 65536 in
theorem w_c14 : (Jvm.Cond.code ({ cls := "java/lang/Math", name := "max", desc := "(DD)D" } : Jvm.MethodName) jdk_29_method_68_code (4 : Nat) (Option.some Jvm.ClassFile.FieldType.double)).before args0 about1 = true := code_word (m := ⟨11, 1⟩) (meth := k11m1) (c := k11c1) (by decide +kernel) rfl rfl rfl (by decide +kernel)
set_option maxRecDepth 65536 in
theorem w_c15 : (Jvm.Cond.code ({ cls := "nearcast/engine/Best", name := "order", desc := "()V" } : Jvm.MethodName) prog_15_method_10_code (8 : Nat) (Option.none : Option Jvm.ClassFile.FieldType)).before args0 about1 = true := code_word (m := ⟨2, 6⟩) (meth := k2m6) (c := k2c6) (by decide +kernel) rfl rfl rfl (by decide +kernel)
set_option maxRecDepth 65536 in
theorem w_c16 : (Jvm.Cond.code ({ cls := "nearcast/engine/Best", name := "rulesOut", desc := "(DJ)Z" } : Jvm.MethodName) prog_15_method_7_code (6 : Nat) (Option.some Jvm.ClassFile.FieldType.boolean)).before args0 about1 = true := code_word (m := ⟨2, 3⟩) (meth := k2m3) (c := k2c3) (by decide +kernel) rfl rfl rfl (by decide +kernel)
set_option maxRecDepth 65536 in
theorem w_c17 : (Jvm.Cond.code ({ cls := "nearcast/engine/Best", name := "siftDown", desc := "(IIIJDC)V" } : Jvm.MethodName) prog_15_method_20_code (11 : Nat) (Option.none : Option Jvm.ClassFile.FieldType)).before args0 about1 = true := code_word (m := ⟨2, 10⟩) (meth := k2m10) (c := k2c10) (by decide +kernel) rfl rfl rfl (by decide +kernel)
set_option maxRecDepth 65536 in
theorem w_c18 : (Jvm.Cond.code ({ cls := "nearcast/engine/Best", name := "put", desc := "(II)V" } : Jvm.MethodName) prog_15_method_22_code (3 : Nat) (Option.none : Option Jvm.ClassFile.FieldType)).before args0 about1 = true := code_word (m := ⟨2, 11⟩) (meth := k2m11) (c := k2c11) (by decide +kernel) rfl rfl rfl (by decide +kernel)
set_option maxRecDepth 65536 in
theorem w_c19 : (Jvm.Cond.code ({ cls := "nearcast/engine/Best", name := "scores", desc := "()J" } : Jvm.MethodName) prog_15_method_9_code (1 : Nat) (Option.some Jvm.ClassFile.FieldType.long)).before args0 about1 = true := code_word (m := ⟨2, 5⟩) (meth := k2m5) (c := k2c5) (by decide +kernel) rfl rfl rfl (by decide +kernel)
set_option maxRecDepth 65536 in
theorem w_c20 : (Jvm.Cond.code ({ cls := "nearcast/engine/Best", name := "leftOut", desc := "()D" } : Jvm.MethodName) prog_15_method_8_code (1 : Nat) (Option.some Jvm.ClassFile.FieldType.double)).before args0 about1 = true := code_word (m := ⟨2, 4⟩) (meth := k2m4) (c := k2c4) (by decide +kernel) rfl rfl rfl (by decide +kernel)
set_option maxRecDepth 65536 in
theorem w_c21 : (Jvm.Cond.code ({ cls := "nearcast/engine/Best", name := "score", desc := "(I)D" } : Jvm.MethodName) prog_15_method_13_code (2 : Nat) (Option.some Jvm.ClassFile.FieldType.double)).before args0 about1 = true := code_word (m := ⟨2, 7⟩) (meth := k2m7) (c := k2c7) (by decide +kernel) rfl rfl rfl (by decide +kernel)
def codes1 : List Jvm.Cond := [Jvm.Cond.code x code maxLocals ret, Jvm.Cond.code ({ cls := "nearcast/engine/Best", name := "<init>", desc := "()V" } : Jvm.MethodName) prog_15_method_2_code (1 : Nat) (Option.none : Option Jvm.ClassFile.FieldType), Jvm.Cond.code ({ cls := "java/lang/Object", name := "<init>", desc := "()V" } : Jvm.MethodName) object_method_1_code (1 : Nat) (Option.none : Option Jvm.ClassFile.FieldType), Jvm.Cond.code ({ cls := "nearcast/engine/Best", name := "reset", desc := "(DII)V" } : Jvm.MethodName) prog_15_method_3_code (5 : Nat) (Option.none : Option Jvm.ClassFile.FieldType), Jvm.Cond.code ({ cls := "nearcast/engine/Best", name := "offer", desc := "(IJDII)V" } : Jvm.MethodName) prog_15_method_5_code (11 : Nat) (Option.none : Option Jvm.ClassFile.FieldType), Jvm.Cond.code ({ cls := "nearcast/engine/Score", name := "of", desc := "(DDII)D" } : Jvm.MethodName) prog_74_method_3_code (6 : Nat) (Option.some Jvm.ClassFile.FieldType.double), Jvm.Cond.code ({ cls := "nearcast/engine/Score", name := "jaccard", desc := "(II)D" } : Jvm.MethodName) prog_74_method_9_code (2 : Nat) (Option.some Jvm.ClassFile.FieldType.double), Jvm.Cond.code ({ cls := "nearcast/engine/Score", name := "of", desc := "(DDD)D" } : Jvm.MethodName) prog_74_method_2_code (6 : Nat) (Option.some Jvm.ClassFile.FieldType.double), Jvm.Cond.code ({ cls := "nearcast/engine/Share", name := "of", desc := "(II)C" } : Jvm.MethodName) prog_76_method_2_code (2 : Nat) (Option.some Jvm.ClassFile.FieldType.char), Jvm.Cond.code ({ cls := "nearcast/engine/Best", name := "set", desc := "(IIJDC)V" } : Jvm.MethodName) prog_15_method_23_code (8 : Nat) (Option.none : Option Jvm.ClassFile.FieldType), Jvm.Cond.code ({ cls := "nearcast/engine/Best", name := "worstScore", desc := "()D" } : Jvm.MethodName) prog_15_method_19_code (2 : Nat) (Option.some Jvm.ClassFile.FieldType.double), Jvm.Cond.code ({ cls := "nearcast/engine/Score", name := "bestFirst", desc := "(DJDJ)I" } : Jvm.MethodName) prog_74_method_11_code (9 : Nat) (Option.some Jvm.ClassFile.FieldType.int), Jvm.Cond.code ({ cls := "java/lang/Double", name := "compare", desc := "(DD)I" } : Jvm.MethodName) jdk_117_method_27_code (8 : Nat) (Option.some Jvm.ClassFile.FieldType.int), Jvm.Cond.code ({ cls := "nearcast/engine/Best", name := "leaveOut", desc := "(D)V" } : Jvm.MethodName) prog_15_method_16_code (3 : Nat) (Option.none : Option Jvm.ClassFile.FieldType), Jvm.Cond.code ({ cls := "java/lang/Math", name := "max", desc := "(DD)D" } : Jvm.MethodName) jdk_29_method_68_code (4 : Nat) (Option.some Jvm.ClassFile.FieldType.double), Jvm.Cond.code ({ cls := "nearcast/engine/Best", name := "order", desc := "()V" } : Jvm.MethodName) prog_15_method_10_code (8 : Nat) (Option.none : Option Jvm.ClassFile.FieldType), Jvm.Cond.code ({ cls := "nearcast/engine/Best", name := "rulesOut", desc := "(DJ)Z" } : Jvm.MethodName) prog_15_method_7_code (6 : Nat) (Option.some Jvm.ClassFile.FieldType.boolean), Jvm.Cond.code ({ cls := "nearcast/engine/Best", name := "siftDown", desc := "(IIIJDC)V" } : Jvm.MethodName) prog_15_method_20_code (11 : Nat) (Option.none : Option Jvm.ClassFile.FieldType), Jvm.Cond.code ({ cls := "nearcast/engine/Best", name := "put", desc := "(II)V" } : Jvm.MethodName) prog_15_method_22_code (3 : Nat) (Option.none : Option Jvm.ClassFile.FieldType), Jvm.Cond.code ({ cls := "nearcast/engine/Best", name := "scores", desc := "()J" } : Jvm.MethodName) prog_15_method_9_code (1 : Nat) (Option.some Jvm.ClassFile.FieldType.long), Jvm.Cond.code ({ cls := "nearcast/engine/Best", name := "leftOut", desc := "()D" } : Jvm.MethodName) prog_15_method_8_code (1 : Nat) (Option.some Jvm.ClassFile.FieldType.double), Jvm.Cond.code ({ cls := "nearcast/engine/Best", name := "score", desc := "(I)D" } : Jvm.MethodName) prog_15_method_13_code (2 : Nat) (Option.some Jvm.ClassFile.FieldType.double)]
set_option maxRecDepth 65536 in
theorem codes_eq : words1.filter isCode = codes1 := rfl
theorem w_codes : ∀ c ∈ words1.filter isCode, c.before args0 about1 = true := by
  rw [codes_eq]
  intro c hc
  simp only [codes1, List.mem_cons, List.not_mem_nil, or_false] at hc
  rcases hc with rfl | rfl | rfl | rfl | rfl | rfl | rfl | rfl | rfl | rfl | rfl | rfl | rfl | rfl | rfl | rfl | rfl | rfl | rfl | rfl | rfl | rfl
  · exact w_c0
  · exact w_c1
  · exact w_c2
  · exact w_c3
  · exact w_c4
  · exact w_c5
  · exact w_c6
  · exact w_c7
  · exact w_c8
  · exact w_c9
  · exact w_c10
  · exact w_c11
  · exact w_c12
  · exact w_c13
  · exact w_c14
  · exact w_c15
  · exact w_c16
  · exact w_c17
  · exact w_c18
  · exact w_c19
  · exact w_c20
  · exact w_c21
set_option maxRecDepth 65536 in
theorem w_t1 : (words1.take 24).all (fun c => isCode c || c.before args0 about1) = true := by decide +kernel
set_option maxRecDepth 65536 in
theorem w_t2 : ((words1.drop 24).take 24).all (fun c => isCode c || c.before args0 about1) = true := by decide +kernel
set_option maxRecDepth 65536 in
theorem w_t3 : (((words1.drop 24).drop 24).take 24).all (fun c => isCode c || c.before args0 about1) = true := by decide +kernel
set_option maxRecDepth 65536 in
theorem w_t4 : ((((words1.drop 24).drop 24).drop 24).take 24).all (fun c => isCode c || c.before args0 about1) = true := by decide +kernel
set_option maxRecDepth 65536 in
theorem w_t5 : (((((words1.drop 24).drop 24).drop 24).drop 24).take 24).all (fun c => isCode c || c.before args0 about1) = true := by decide +kernel
set_option maxRecDepth 65536 in
theorem w_t6 : (((((words1.drop 24).drop 24).drop 24).drop 24).drop 24).all (fun c => isCode c || c.before args0 about1) = true := by decide +kernel
theorem w_tables : (allAtoms (Jvm.Cond.code x code maxLocals ret :: tables_1)).before args0 about1 = true := by
  rw [allAtoms_all]
  show words1.all (fun c => c.before args0 about1) = true
  refine all_split ?_ w_codes
  rw [← List.take_append_drop 24 words1, List.all_append, w_t1, ← List.take_append_drop 24 (words1.drop 24), List.all_append, w_t2, ← List.take_append_drop 24 ((words1.drop 24).drop 24), List.all_append, w_t3, ← List.take_append_drop 24 (((words1.drop 24).drop 24).drop 24), List.all_append, w_t4, ← List.take_append_drop 24 ((((words1.drop 24).drop 24).drop 24).drop 24), List.all_append, w_t5, w_t6]
  rfl
set_option maxRecDepth 65536 in
theorem w_case : (Jvm.Cond.and given_1 narrow_1).before args0 about1 = true := by decide +kernel
theorem w_applies : (headSpec (Jvm.Cond.code x code maxLocals ret :: tables_1) room_1).applies x e0.platform about1 = true :=
  (Spec.applies_iff w_frames).mpr ⟨w_running, w_runnable, w_alone, w_named, w_hears, w_ripe, w_room, w_tables⟩
theorem atStart : AtStart classFile x code maxLocals ret World_1 tables_1 room_1 Calls_1 rest_1 Pre_1 launch0 p0 e0 about1 theMethod args0 below0 :=
  ⟨lists_1, trivial, launch0.admits_env _ _ _, launch0.least_env, fairChoices_fair.cas, fairChoices_fair.clock, w_frames, w_args, w_heap, w_applies, trivial, trivial, w_case⟩
end start1
theorem witness_1 : WitnessClaimed_1 := ⟨start1.p0, start1.e0, start1.about1, start1.theMethod, start1.args0, start1.below0, start1.atStart⟩
end Jvm.Pilot.@@N@@
