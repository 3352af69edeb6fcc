import JvmDerived
import JvmDerived.Pilot.@@N@@Statement
import JvmDerived.Pilot.@@N@@Code
set_option linter.unusedVariables false
set_option linter.unusedSimpArgs false
namespace Jvm.Pilot.@@N@@
open Jvm Jvm.ClassFile Sem Op Lib Jvm.Free Jvm.Stand Jvm.LawKit Jvm.RoadKit Bundle Jvm.Pilot.@@N@@.Jvm.D
section Own
variable {p : Program} {l : Launch} {e : Env} {R : Room} {s : State} {m : MethodId} {args : Array Value} {below : List Frame} {meth : Method} {c : Code} {T : State} {locs : List Loc} {cells slots : Nat} {Z : State} {a0 : Array Value} {h : Heap}
theorem wd (hw : ∀ d ∈ tables_1, d.before a0 Z = true) (k : Nat) {d : Jvm.Cond} (q : tables_1[k]? = some d) : d.before a0 Z = true := hw d (List.mem_of_getElem? q)
theorem old_sz {n0 : Nat} (O : Old Z n0 h) : n0 ≤ h.size := O.1 ▸ O.2.1
/-- what is left to show from the state t on -/
def Run (p : Program) (e : Env) (below : List Frame) (A : Outcome → State → Prop) (t : State) : Prop := ∃ u o, Steps p.tables e below t u ∧ u.status = .running ∧ Ended u below o ∧ A o u
theorem go {A : Outcome → State → Prop} {t t' : State} (st : ∀ u, Steps p.tables e below t' u → Steps p.tables e below t u) (k : Run p e below A t') : Run p e below A t := by
  obtain ⟨u, o, k1, k2⟩ := k
  exact ⟨u, o, st u k1, k2⟩
theorem goT {A : Outcome → State → Prop} {t t' : State} (st : Steps p.tables e below t t') (k : Run p e below A t') : Run p e below A t := by
  obtain ⟨u, o, k1, k2⟩ := k
  exact ⟨u, o, st.trans k1, k2⟩
theorem goTsw {A : Outcome → State → Prop} (h : At T m c below) (hx : p.tables.exec = Jvm.exec) {pc pc' len : Nat} {Ls : Array Slot} {rest : List Value} {i : Int32} {dflt low high o : Int} {offs : Array Int} (hd : decode c.code pc = .ok (.tableswitch dflt low high offs, len)) (hin : ¬ (i.toInt < low ∨ i.toInt > high)) (hoff : offs[(i.toInt - low).toNat]? = some o) (ho : 0 ≤ (pc : Int) + o) (hp : ((pc : Int) + o).toNat = pc')
    (k : Run p e below A (T.setTop (mkF m pc' Ls rest))) : Run p e below A (T.setTop (mkF m pc Ls (.int i :: rest))) := go (fun _ => XS.tswIn (g := mkF m pc Ls (.int i :: rest)) h hx rfl (pc0 := pc) rfl hd rfl hin hoff ho hp) k
theorem goTswD {A : Outcome → State → Prop} (h : At T m c below) (hx : p.tables.exec = Jvm.exec) {pc pc' len : Nat} {Ls : Array Slot} {rest : List Value} {i : Int32} {dflt low high : Int} {offs : Array Int} (hd : decode c.code pc = .ok (.tableswitch dflt low high offs, len)) (hout : i.toInt < low ∨ i.toInt > high) (ho : 0 ≤ (pc : Int) + dflt) (hp : ((pc : Int) + dflt).toNat = pc')
    (k : Run p e below A (T.setTop (mkF m pc' Ls rest))) : Run p e below A (T.setTop (mkF m pc Ls (.int i :: rest))) := go (fun _ => XS.tswOut (g := mkF m pc Ls (.int i :: rest)) h hx rfl (pc0 := pc) rfl hd rfl hout ho hp) k
def Ends (s : State) (Q : Option Value → Heap → List Loc → Prop) (k n : Nat) (o : Outcome) (U : State) : Prop := ∃ v L, o = .returned v ∧ Q v U.heap L ∧ FrameEnd s o U L k n
def Meets (l : Launch) (y : MethodName) (bytes : ByteArray) (maxL : Nat) (ret : Option FieldType) (ws : List Jvm.Cond) (rm : Room) (Z : State) (as' : Array Value) (h0 : Heap) (Q : Option Value → Heap → List Loc → Prop) (k n : Nat) : Prop :=
  MetFree l y (head1 (Jvm.Cond.code y bytes maxL ret :: ws) rm) (fun a U => a = as' ∧ Z.Warmed39 U.vm ∧ U.heap = h0) (fun _ _ _ _ _ => True) (fun _ U o U' => ∃ v L, o = .returned v ∧ Q v U'.heap L ∧ FrameEnd U o U' L k n)
theorem enter {y : MethodName} {bytes : ByteArray} {maxL : Nat} {ret : Option FieldType} {ws : List Jvm.Cond} {rm : Room} {as' : Array Value} {h0 : Heap} {Q : Option Value → Heap → List Loc → Prop} {k n : Nat} {Ls : Array Slot} (pf : plainFor y = true) (ef : ∀ m, entryFrame m as' maxL = mkF m 0 Ls [])
    (body : ∀ (p : Program) (e : Env) (s : State) (m : MethodId) (below : List Frame) (meth : Method) (c : Code) (T : State), p.tables.exec = Jvm.exec → c.code = bytes → c.maxLocals = maxL → s.vm.findClass y.cls = some m.cls → meth.name = y.name → meth.sig.returnType = ret → meth.locks = false → Z.Warmed39 s.vm → Stand p l e rm s m as' below meth c T [] 0 0 → T.heap = h0 → Run p e below (Ends s Q k n) (T.setTop (mkF m 0 Ls []))) :
    Meets l y bytes maxL ret ws rm Z as' h0 Q k n := by
  refine MetFree.of_bodySF pf hisR ?_
  intro p e s m args below meth c s₁ Bd hml0 hP hK
  obtain ⟨rfl, hZ, hh⟩ := hP
  obtain ⟨u, o, k1, k2, k3, k4⟩ := body p e s m below meth c s₁ Bd.exec Bd.bytes hml0 (findClass_of_methodNamed Bd.named) (name_of_methodNamed Bd.named Bd.method).1 Bd.returns (BodyLoose.notSynchronized Bd) hZ (Stand.of_body Bd) (by rw [← hh, Bd.state]; rfl)
  exact ⟨u, o, castTop (ef m) k1, k2, k3, k4⟩
theorem smono (X : Stand p l e R s m args below meth c T locs cells slots) {k n : Nat} (hk : cells ≤ k) (hn : slots ≤ n) : Stand p l e R s m args below meth c T locs k n :=
  ⟨X.admits, X.cas, X.clock, X.frames, X.room, X.hears, X.method, X.code, X.here, X.tail, X.warmed, X.limits, X.bytes, X.same.mono hk hn⟩
theorem retI (X : Stand p l e R s m args below meth c T locs cells slots) (hx : p.tables.exec = Jvm.exec) {pc : Nat} {Ls : Array Slot} {z : Int32} {rest : List Value} (hret : meth.sig.returnType = some .int) (hd : decode c.code pc = .ok (.ireturn, 1)) {fs : List Frame}
    (hl : ∀ (f : JFrame) (acts : List Action), f.method = m → f.locked = none → f.entered = [] → (doReturn e (T.setTop f) acts (some (.int z))).1 = T.setFrames fs) : Steps p.tables e below (T.setTop (mkF m pc Ls (.int z :: rest))) (T.setFrames fs) :=
  retOut X hx hret rfl (Or.inl ⟨rfl, Or.inl rfl, _, rfl⟩) hd hl
theorem endI (X : Stand p l e R s m args below meth c T locs cells slots) (hx : p.tables.exec = Jvm.exec) (hlk : meth.locks = false) {Q : Option Value → Heap → List Loc → Prop} {k n pc : Nat} {Ls : Array Slot} {z : Int32} {rest : List Value} (hret : meth.sig.returnType = some .int) (hd : decode c.code pc = .ok (.ireturn, 1)) (hq : Q (some (.int z)) T.heap locs) (hk : cells ≤ k) (hn : slots ≤ n) :
    Run p e below (Ends s Q k n) (T.setTop (mkF m pc Ls (.int z :: rest))) := by
  obtain ⟨fs, hr, hrun, hended, hW, hsame⟩ := X.leave (v := some (.int z)) (fun h => by rw [hret] at h; cases h) hlk
  exact ⟨_, _, retI X hx hret hd hr, hrun, hended, _, _, rfl, hq, ⟨_, rfl⟩, hW, hsame.mono hk hn⟩
theorem endN (X : Stand p l e R s m args below meth c T locs cells slots) (hx : p.tables.exec = Jvm.exec) (hlk : meth.locks = false) {Q : Option Value → Heap → List Loc → Prop} {k n pc : Nat} {Ls : Array Slot} {z : Int32} {rest : List Value} {t : FieldType} (hret : meth.sig.returnType = some t) (ht : t = .boolean ∨ t = .byte ∨ t = .char ∨ t = .short) (hd : decode c.code pc = .ok (.ireturn, 1)) (hq : Q (some (.int (nar t z))) T.heap locs) (hk : cells ≤ k) (hn : slots ≤ n) :
    Run p e below (Ends s Q k n) (T.setTop (mkF m pc Ls (.int z :: rest))) := by
  obtain ⟨fs, hr, hrun, hended, hW, hsame⟩ := X.leave (v := some (.int (nar t z))) (fun h => by rw [hret] at h; cases h) hlk
  exact ⟨_, _, retN X hx hret ht hd hr, hrun, hended, _, _, rfl, hq, ⟨_, rfl⟩, hW, hsame.mono hk hn⟩
theorem endA (X : Stand p l e R s m args below meth c T locs cells slots) (hx : p.tables.exec = Jvm.exec) (hlk : meth.locks = false) {Q : Option Value → Heap → List Loc → Prop} {k n pc : Nat} {Ls : Array Slot} {w : Value} {rest : List Value} {t : FieldType} (hret : meth.sig.returnType = some t) (ht : t.isReference = true) (hv : w.isRef = true) (hd : decode c.code pc = .ok (.areturn, 1)) (hq : Q (some w) T.heap locs) (hk : cells ≤ k) (hn : slots ≤ n) :
    Run p e below (Ends s Q k n) (T.setTop (mkF m pc Ls (w :: rest))) := by
  obtain ⟨fs, hr, hrun, hended, hW, hsame⟩ := X.leave (v := some w) (fun h => by rw [hret] at h; cases h) hlk
  have hn' : narrow t w = w := by cases w <;> first | (cases hv; done) | (cases t <;> first | rfl | (cases ht; done))
  exact ⟨_, _, retOut X hx hret hn' (Or.inr (Or.inr (Or.inr (Or.inr ⟨rfl, ht, hv⟩)))) hd hr, hrun, hended, _, _, rfl, hq, ⟨_, rfl⟩, hW, hsame.mono hk hn⟩
theorem endJ (X : Stand p l e R s m args below meth c T locs cells slots) (hx : p.tables.exec = Jvm.exec) (hlk : meth.locks = false) {Q : Option Value → Heap → List Loc → Prop} {k n pc : Nat} {Ls : Array Slot} {z : Int64} {rest : List Value} (hret : meth.sig.returnType = some .long) (hd : decode c.code pc = .ok (.lreturn, 1)) (hq : Q (some (.long z)) T.heap locs) (hk : cells ≤ k) (hn : slots ≤ n) :
    Run p e below (Ends s Q k n) (T.setTop (mkF m pc Ls (.long z :: rest))) := by
  obtain ⟨fs, hr, hrun, hended, hW, hsame⟩ := X.leave (v := some (.long z)) (fun h => by rw [hret] at h; cases h) hlk
  exact ⟨_, _, retOut X hx hret rfl (Or.inr (Or.inl ⟨rfl, rfl, _, rfl⟩)) hd hr, hrun, hended, _, _, rfl, hq, ⟨_, rfl⟩, hW, hsame.mono hk hn⟩
theorem endD (X : Stand p l e R s m args below meth c T locs cells slots) (hx : p.tables.exec = Jvm.exec) (hlk : meth.locks = false) {Q : Option Value → Heap → List Loc → Prop} {k n pc : Nat} {Ls : Array Slot} {z : UInt64} {rest : List Value} (hret : meth.sig.returnType = some .double) (hd : decode c.code pc = .ok (.dreturn, 1)) (hq : Q (some (.double z)) T.heap locs) (hk : cells ≤ k) (hn : slots ≤ n) :
    Run p e below (Ends s Q k n) (T.setTop (mkF m pc Ls (.double z :: rest))) := by
  obtain ⟨fs, hr, hrun, hended, hW, hsame⟩ := X.leave (v := some (.double z)) (fun h => by rw [hret] at h; cases h) hlk
  exact ⟨_, _, retOut X hx hret rfl (Or.inr (Or.inr (Or.inl ⟨rfl, rfl, _, rfl⟩))) hd hr, hrun, hended, _, _, rfl, hq, ⟨_, rfl⟩, hW, hsame.mono hk hn⟩
theorem endV (X : Stand p l e R s m args below meth c T locs cells slots) (hx : p.tables.exec = Jvm.exec) (hlk : meth.locks = false) {Q : Option Value → Heap → List Loc → Prop} {k n pc : Nat} {Ls : Array Slot} (hret : meth.sig.returnType = none) (hd : decode c.code pc = .ok (.return_, 1)) (hq : Q none T.heap locs) (hk : cells ≤ k) (hn : slots ≤ n) :
    Run p e below (Ends s Q k n) (T.setTop (mkF m pc Ls [])) := by
  obtain ⟨fs, hr, hrun, hended, hW, hsame⟩ := X.leave (v := none) (fun _ => rfl) hlk
  exact ⟨_, _, X.returnOut hx hret hd hr, hrun, hended, _, _, rfl, hq, ⟨_, rfl⟩, hW, hsame.mono hk hn⟩
abbrev Pay (l : Launch) (R : Room) (p : Program) (e : Env) (below : List Frame) (s : State) (args : Array Value) (y : MethodName) (len W : Nat) (as' : Array Value) (h : Heap) (Q : Option Value → Heap → List Loc → Prop) (rc rs : Nat) : Prop :=
  Back l R p e below s args y len W (fun A a => a = as' ∧ A.U.heap = h ∧ A.cells + rc ≤ R.cells ∧ A.slots + rs ≤ R.slots) (fun A _ v B => ∃ L, Q v B.U.heap L ∧ B.locs = A.locs ++ L ∧ B.cells = A.cells + rc ∧ B.slots = A.slots + rs)
theorem Pay.more {y : MethodName} {len W rc rs rs' : Nat} {as' : Array Value} {Q : Option Value → Heap → List Loc → Prop} (hK : Pay l R p e below s args y len W as' h Q rc rs) (q : rs ≤ rs') : Pay l R p e below s args y len W as' h Q rc rs' := fun m meth c A g ig mk a X hg hsz hd hW hn hp => by
  obtain ⟨v, B, X', ⟨L, q1, q2, q3, q4⟩, st⟩ := hK m meth c A g ig mk a X hg hsz hd hW hn ⟨hp.1, hp.2.1, hp.2.2.1, Nat.le_trans (Nat.add_le_add_left q _) hp.2.2.2⟩
  exact ⟨v, (B.U, B.locs, B.cells, A.slots + rs'), smono X' (Nat.le_refl _) (by rw [q4]; exact Nat.add_le_add_left q _), ⟨L, q1, q2, q3, rfl⟩, st⟩
theorem narR {v : Value} {C : String} (h : v.isRef = true) : narrow (.object C) v = v := by cases v <;> first | rfl | (cases h; done)
theorem catR {v : Value} (h : v.isRef = true) : v.category = 1 := by cases v <;> first | rfl | (cases h; done)
theorem fitR {v : Value} {C : String} (h : v.isRef = true) : fits (.object C) v = true := by cases v <;> first | rfl | (cases h; done)
theorem callSt (X : Stand p l e R s m args below meth c T locs cells slots) (hx : p.tables.exec = Jvm.exec) (hZ : Z.Warmed39 s.vm) {own : String} {index : Nat} {y : MethodName} {bytes : ByteArray} {maxL : Nat} {ret : Option FieldType} {rm : Room} {Q : Option Value → Heap → List Loc → Prop} (hown : s.vm.findClass own = some m.cls)
    (w1 : (Jvm.Cond.methodLink own index y).before a0 Z = true) (w2 : (Jvm.Cond.static y).before a0 Z = true) (w3 : (Jvm.Cond.initialized y.cls).before a0 Z = true) (w4 : (Jvm.Cond.code y bytes maxL ret).before a0 Z = true) (hy : y.cls ≠ "java/lang/invoke/MethodHandle" ∧ y.cls ≠ "java/lang/invoke/VarHandle") (eT : T.heap = h) {argsL rest : List Value}
    (hM : Meets l y bytes maxL ret [] rm Z argsL.toArray h Q rm.cells rm.slots) {W : Nat} (hf : rm.frames + 1 ≤ R.frames) (hl : W + (maxL + 11) + rm.locals ≤ R.locals) (hc : cells + rm.cells ≤ R.cells) (hn : slots + rm.slots ≤ R.slots)
    {pc : Nat} {Ls : Array Slot} {st : List Value} (hsize : Ls.size = c.maxLocals) (hlen : ∀ sig, parseMethodDescriptor y.desc = some sig → argsL.length = sig.parameters.length) (hst : st = argsL.reverse ++ rest) (hW : (rest.map fun v => v.category).sum ≤ W) (hd : decode c.code pc = .ok (.invokestatic index, 3)) {A : Outcome → State → Prop}
    (kk : ∀ (v : Option Value) (T' : State) (L : List Loc) (h' : Heap), Stand p l e R s m args below meth c T' (locs ++ L) (cells + rm.cells) (slots + rm.slots) → T'.heap = h' → Q v h' L → Run p e below A (T'.setTop (mkF m (pc + 3) Ls (v.toList ++ rest)))) : Run p e below A (T.setTop (mkF m pc Ls st)) := by
  obtain ⟨v, _, ⟨T18, L18, k18, n18⟩, -, X18, ⟨Lc18, hQ18, l18, y18, z18⟩, st18⟩ := Jvm.LawKit.callS X hx hown (mvT hZ w1) (mvT hZ w2) (mvT hZ w3) (mvT hZ w4) hy (backOf (W := W) hM hZ w4 w3 hf hl) (g := mkF m pc Ls st) rfl hsize (argsL := argsL) (rest := rest) hlen hst (by show 2 * 0 + _ ≤ _; omega) hd (fun _ _ => ⟨rfl, eT, hc, hn⟩)
  dsimp only [Pt.U, Pt.locs, Pt.cells, Pt.slots] at X18 l18 y18 z18 st18 hQ18
  subst l18 y18 z18
  exact go st18 (kk v _ _ _ X18 rfl hQ18)
theorem callVi (X : Stand p l e R s m args below meth c T locs cells slots) (hx : p.tables.exec = Jvm.exec) (hZ : Z.Warmed39 s.vm) {own C : String} {index : Nat} {y z : MethodName} {bytes : ByteArray} {maxL : Nat} {ret : Option FieldType} {rm : Room} {Q : Option Value → Heap → List Loc → Prop} (hown : s.vm.findClass own = some m.cls)
    (w1 : (Jvm.Cond.methodLink own index y).before a0 Z = true) (w2 : (Jvm.Cond.declares y).before a0 Z = true) (nf : NotFace s y) (w5 : (Jvm.Cond.selects C y z).before a0 Z = true) (w6 : (Jvm.Cond.instanceMethod z).before a0 Z = true) (w4 : (Jvm.Cond.code z bytes maxL ret).before a0 Z = true) (w3 : (Jvm.Cond.initialized z.cls).before a0 Z = true) (hy : y.cls ≠ "java/lang/invoke/MethodHandle" ∧ y.cls ≠ "java/lang/invoke/VarHandle") (eT : T.heap = h) {a : Addr} (E : Exa Z h a C) {argsL rest : List Value}
    (hM : Meets l z bytes maxL ret [] rm Z (.ref a :: argsL).toArray h Q rm.cells rm.slots) {W : Nat} (hf : rm.frames + 1 ≤ R.frames) (hl : W + (maxL + 11) + rm.locals ≤ R.locals) (hc : cells + rm.cells ≤ R.cells) (hn : slots + rm.slots ≤ R.slots)
    {pc : Nat} {Ls : Array Slot} {st : List Value} (hsize : Ls.size = c.maxLocals) (hlen : ∀ sig, parseMethodDescriptor y.desc = some sig → argsL.length = sig.parameters.length) (hst : st = argsL.reverse ++ .ref a :: rest) (hW : (rest.map fun v => v.category).sum ≤ W) (hd : decode c.code pc = .ok (.invokevirtual index, 3)) {A : Outcome → State → Prop}
    (kk : ∀ (v : Option Value) (T' : State) (L : List Loc) (h' : Heap), Stand p l e R s m args below meth c T' (locs ++ L) (cells + rm.cells) (slots + rm.slots) → T'.heap = h' → Q v h' L → Run p e below A (T'.setTop (mkF m (pc + 3) Ls (v.toList ++ rest)))) : Run p e below A (T.setTop (mkF m pc Ls st)) := by
  obtain ⟨cq, kq, qa, qb, qc⟩ := isOf hZ eT E
  obtain ⟨v, _, ⟨T18, L18, k18, n18⟩, -, X18, ⟨Lc18, hQ18, l18, y18, z18⟩, st18⟩ := X.virtualBack hx (y := y) (z := z) hown (mvT hZ w1) (mvT hZ w2) nf (mvT hZ w5) (mvT hZ w6) hy (backOf (W := W) hM hZ w4 w3 hf hl) qa qc (g := mkF m pc Ls st) rfl hsize (Steps.refl _) (argsL := argsL) (rest := rest) hlen hst (by show 2 * 0 + _ ≤ _; omega) hd (fun _ _ => ⟨rfl, eT, hc, hn⟩)
  dsimp only [Pt.U, Pt.locs, Pt.cells, Pt.slots] at X18 l18 y18 z18 st18 hQ18
  subst l18 y18 z18
  exact goT st18 (kk v _ _ _ X18 rfl hQ18)
theorem callSp (X : Stand p l e R s m args below meth c T locs cells slots) (hx : p.tables.exec = Jvm.exec) (hZ : Z.Warmed39 s.vm) {own : String} {index : Nat} {y : MethodName} (hy1 : y.name = "<init>") {bytes : ByteArray} {maxL : Nat} {rm : Room} {Q : Option Value → Heap → List Loc → Prop} (hown : s.vm.findClass own = some m.cls)
    (w1 : (Jvm.Cond.methodLink own index y).before a0 Z = true) (w6 : (Jvm.Cond.instanceMethod y).before a0 Z = true) (w4 : (Jvm.Cond.code y bytes maxL none).before a0 Z = true) (w3 : (Jvm.Cond.initialized y.cls).before a0 Z = true) (hy : y.cls ≠ "java/lang/invoke/MethodHandle" ∧ y.cls ≠ "java/lang/invoke/VarHandle") (eT : T.heap = h) {a : Addr} {argsL rest : List Value}
    (hM : Meets l y bytes maxL none [] rm Z (.ref a :: argsL).toArray h Q rm.cells rm.slots) {W : Nat} (hf : rm.frames + 1 ≤ R.frames) (hl : W + (maxL + 11) + rm.locals ≤ R.locals) (hc : cells + rm.cells ≤ R.cells) (hn : slots + rm.slots ≤ R.slots)
    {pc : Nat} {Ls : Array Slot} {st : List Value} (hsize : Ls.size = c.maxLocals) (hlen : ∀ sig, parseMethodDescriptor y.desc = some sig → argsL.length = sig.parameters.length) (hst : st = argsL.reverse ++ .ref a :: rest) (hW : (rest.map fun v => v.category).sum ≤ W) (hd : decode c.code pc = .ok (.invokespecial index, 3)) {A : Outcome → State → Prop}
    (kk : ∀ (v : Option Value) (T' : State) (L : List Loc) (h' : Heap), Stand p l e R s m args below meth c T' (locs ++ L) (cells + rm.cells) (slots + rm.slots) → T'.heap = h' → Q v h' L → Run p e below A (T'.setTop (mkF m (pc + 3) Ls (v.toList ++ rest)))) : Run p e below A (T.setTop (mkF m pc Ls st)) := by
  obtain ⟨v, _, ⟨T18, L18, k18, n18⟩, -, X18, ⟨Lc18, hQ18, l18, y18, z18⟩, st18⟩ := X.specialBack hx (y := y) hy1 hown (mvT hZ w1) (mvT hZ w6) (mvT hZ w4) hy (backOf (W := W) hM hZ w4 w3 hf hl) (g := mkF m pc Ls st) rfl hsize (Steps.refl _) (a := a) (argsL := argsL) (rest := rest) hlen hst (by show 2 * 0 + _ ≤ _; omega) hd (fun _ _ => ⟨rfl, eT, hc, hn⟩)
  dsimp only [Pt.U, Pt.locs, Pt.cells, Pt.slots] at X18 l18 y18 z18 st18 hQ18
  subst l18 y18 z18
  exact goT st18 (kk v _ _ _ X18 rfl hQ18)
theorem callSpN (X : Stand p l e R s m args below meth c T locs cells slots) (hx : p.tables.exec = Jvm.exec) (hZ : Z.Warmed39 s.vm) {own host : String} {index : Nat} {y : MethodName} (hy1 : y.name = "<init>") {bytes : ByteArray} {maxL : Nat} {rm : Room} {Q : Option Value → Heap → List Loc → Prop} (hown : s.vm.findClass own = some m.cls)
    (w1 : (Jvm.Cond.methodLinkNest own index y host).before a0 Z = true) (w6 : (Jvm.Cond.instanceMethod y).before a0 Z = true) (w4 : (Jvm.Cond.code y bytes maxL none).before a0 Z = true) (w3 : (Jvm.Cond.initialized y.cls).before a0 Z = true) (hy : y.cls ≠ "java/lang/invoke/MethodHandle" ∧ y.cls ≠ "java/lang/invoke/VarHandle") (eT : T.heap = h) {a : Addr} {argsL rest : List Value}
    (hM : Meets l y bytes maxL none [] rm Z (.ref a :: argsL).toArray h Q rm.cells rm.slots) {W : Nat} (hf : rm.frames + 1 ≤ R.frames) (hl : W + (maxL + 11) + rm.locals ≤ R.locals) (hc : cells + rm.cells ≤ R.cells) (hn : slots + rm.slots ≤ R.slots)
    {pc : Nat} {Ls : Array Slot} {st : List Value} (hsize : Ls.size = c.maxLocals) (hlen : ∀ sig, parseMethodDescriptor y.desc = some sig → argsL.length = sig.parameters.length) (hst : st = argsL.reverse ++ .ref a :: rest) (hW : (rest.map fun v => v.category).sum ≤ W) (hd : decode c.code pc = .ok (.invokespecial index, 3)) {A : Outcome → State → Prop}
    (kk : ∀ (v : Option Value) (T' : State) (L : List Loc) (h' : Heap), Stand p l e R s m args below meth c T' (locs ++ L) (cells + rm.cells) (slots + rm.slots) → T'.heap = h' → Q v h' L → Run p e below A (T'.setTop (mkF m (pc + 3) Ls (v.toList ++ rest)))) : Run p e below A (T.setTop (mkF m pc Ls st)) := by
  obtain ⟨v, _, ⟨T18, L18, k18, n18⟩, -, X18, ⟨Lc18, hQ18, l18, y18, z18⟩, st18⟩ := X.specialBackNest hx (y := y) hy1 hown (Cond.methodLinkNest_wide hZ w1 :) (mvT hZ w6) (mvT hZ w4) hy (backOf (W := W) hM hZ w4 w3 hf hl) (g := mkF m pc Ls st) rfl hsize (Steps.refl _) (a := a) (argsL := argsL) (rest := rest) hlen hst (by show 2 * 0 + _ ≤ _; omega) hd (fun _ _ => ⟨rfl, eT, hc, hn⟩)
  dsimp only [Pt.U, Pt.locs, Pt.cells, Pt.slots] at X18 l18 y18 z18 st18 hQ18
  subst l18 y18 z18
  exact goT st18 (kk v _ _ _ X18 rfl hQ18)
theorem callPr (X : Stand p l e R s m args below meth c T locs cells slots) (hx : p.tables.exec = Jvm.exec) (hZ : Z.Warmed39 s.vm) {own C : String} {index : Nat} {y : MethodName} {bytes : ByteArray} {maxL : Nat} {ret : Option FieldType} {rm : Room} {Q : Option Value → Heap → List Loc → Prop} (hown : s.vm.findClass own = some m.cls)
    (w1 : (Jvm.Cond.methodLink own index y).before a0 Z = true) (w2 : (Jvm.Cond.privateMethod y).before a0 Z = true) (w5 : (Jvm.Cond.selects y.cls y y).before a0 Z = true) (w6 : (Jvm.Cond.instanceMethod y).before a0 Z = true) (w4 : (Jvm.Cond.code y bytes maxL ret).before a0 Z = true) (w3 : (Jvm.Cond.initialized y.cls).before a0 Z = true) (hy : y.cls ≠ "java/lang/invoke/MethodHandle" ∧ y.cls ≠ "java/lang/invoke/VarHandle") (eT : T.heap = h) {a : Addr} (E : Exa Z h a C) {argsL rest : List Value}
    (hM : Meets l y bytes maxL ret [] rm Z (.ref a :: argsL).toArray h Q rm.cells rm.slots) {W : Nat} (hf : rm.frames + 1 ≤ R.frames) (hl : W + (maxL + 11) + rm.locals ≤ R.locals) (hc : cells + rm.cells ≤ R.cells) (hn : slots + rm.slots ≤ R.slots)
    {pc : Nat} {Ls : Array Slot} {st : List Value} (hsize : Ls.size = c.maxLocals) (hlen : ∀ sig, parseMethodDescriptor y.desc = some sig → argsL.length = sig.parameters.length) (hst : st = argsL.reverse ++ .ref a :: rest) (hW : (rest.map fun v => v.category).sum ≤ W) (hd : decode c.code pc = .ok (.invokevirtual index, 3)) {A : Outcome → State → Prop}
    (kk : ∀ (v : Option Value) (T' : State) (L : List Loc) (h' : Heap), Stand p l e R s m args below meth c T' (locs ++ L) (cells + rm.cells) (slots + rm.slots) → T'.heap = h' → Q v h' L → Run p e below A (T'.setTop (mkF m (pc + 3) Ls (v.toList ++ rest)))) : Run p e below A (T.setTop (mkF m pc Ls st)) := by
  obtain ⟨cl, hcl, hob⟩ := Exa.cell E
  obtain ⟨v, _, ⟨T18, L18, k18, n18⟩, -, X18, ⟨Lc18, hQ18, l18, y18, z18⟩, st18⟩ := X.privateBack hx (y := y) hown (mvT hZ w1) (mvT hZ w6) (mvT hZ w5) (Cond.privateMethod_at (mvP hZ w2 (args := #[]))) (mvT hZ w4) hy (backOf (W := W) hM hZ w4 w3 hf hl) (g := mkF m pc Ls st) rfl hsize (Steps.refl _) (a := a) (by rw [eT]; exact hcl) hob (argsL := argsL) (rest := rest) hlen hst (by show 2 * 0 + _ ≤ _; omega) hd (fun _ _ => ⟨rfl, eT, hc, hn⟩)
  dsimp only [Pt.U, Pt.locs, Pt.cells, Pt.slots] at X18 l18 y18 z18 st18 hQ18
  subst l18 y18 z18
  exact goT st18 (kk v _ _ _ X18 rfl hQ18)
theorem callIf (X : Stand p l e R s m args below meth c T locs cells slots) (hx : p.tables.exec = Jvm.exec) (hZ : Z.Warmed39 s.vm) {own C : String} {index count : Nat} {y z : MethodName} {bytes : ByteArray} {maxL : Nat} {ret : Option FieldType} {rm : Room} {Q : Option Value → Heap → List Loc → Prop} (hown : s.vm.findClass own = some m.cls)
    (w1 : (Jvm.Cond.methodLink own index y).before a0 Z = true) (w2 : (Jvm.Cond.declares y).before a0 Z = true) (w7 : (Jvm.Cond.interfaceMethod y.cls y.cls y.name y.desc).before a0 Z = true) (k7 : ((Jvm.Cond.interfaceMethod y.cls y.cls y.name y.desc).onTables && (Jvm.Cond.interfaceMethod y.cls y.cls y.name y.desc).keepsFace) = true) (w5 : (Jvm.Cond.selects C y z).before a0 Z = true) (w6 : (Jvm.Cond.instanceMethod z).before a0 Z = true) (w8 : (Jvm.Cond.publicMethod z).before a0 Z = true) (w9 : (Jvm.Cond.unhidden C y.name y.desc).before a0 Z = true) (w10 : (Jvm.Cond.castable C y.cls).before a0 Z = true)
    (w4 : (Jvm.Cond.code z bytes maxL ret).before a0 Z = true) (w3 : (Jvm.Cond.initialized z.cls).before a0 Z = true) (hy : y.cls ≠ "java/lang/invoke/MethodHandle" ∧ y.cls ≠ "java/lang/invoke/VarHandle") (eT : T.heap = h) {a : Addr} (E : Exa Z h a C) {argsL rest : List Value}
    (hM : Meets l z bytes maxL ret [] rm Z (.ref a :: argsL).toArray h Q rm.cells rm.slots) {W : Nat} (hf : rm.frames + 1 ≤ R.frames) (hl : W + (maxL + 11) + rm.locals ≤ R.locals) (hc : cells + rm.cells ≤ R.cells) (hn : slots + rm.slots ≤ R.slots)
    {pc : Nat} {Ls : Array Slot} {st : List Value} (hsize : Ls.size = c.maxLocals) (hlen : ∀ sig, parseMethodDescriptor y.desc = some sig → argsL.length = sig.parameters.length) (hst : st = argsL.reverse ++ .ref a :: rest) (hW : (rest.map fun v => v.category).sum ≤ W) (hd : decode c.code pc = .ok (.invokeinterface index count, 5)) {A : Outcome → State → Prop}
    (kk : ∀ (v : Option Value) (T' : State) (L : List Loc) (h' : Heap), Stand p l e R s m args below meth c T' (locs ++ L) (cells + rm.cells) (slots + rm.slots) → T'.heap = h' → Q v h' L → Run p e below A (T'.setTop (mkF m (pc + 5) Ls (v.toList ++ rest)))) : Run p e below A (T.setTop (mkF m pc Ls st)) := by
  obtain ⟨cq, kq, qa, qb, qc⟩ := isOf hZ eT E
  obtain ⟨v, _, ⟨T18, L18, k18, n18⟩, -, X18, ⟨Lc18, hQ18, l18, y18, z18⟩, st18⟩ := X.interfaceBack hx (xi := y) (y := z) hown (mvT hZ w1) (mvT hZ w2) (mvT hZ w7 k7) (mvT hZ w5) (mvT hZ w6) (mvT hZ w8) (mvT hZ w9) (mvT hZ w10) hy (backOf (W := W) hM hZ w4 w3 hf hl) qa qb qc (g := mkF m pc Ls st) rfl hsize (Steps.refl _) (argsL := argsL) (rest := rest) hlen hst (by show 2 * 0 + _ ≤ _; omega) hd (fun _ _ => ⟨rfl, eT, hc, hn⟩)
  dsimp only [Pt.U, Pt.locs, Pt.cells, Pt.slots] at X18 l18 y18 z18 st18 hQ18
  subst l18 y18 z18
  exact goT st18 (kk v _ _ _ X18 rfl hQ18)
theorem callViK (X : Stand p l e R s m args below meth c T locs cells slots) (hx : p.tables.exec = Jvm.exec) (hZ : Z.Warmed39 s.vm) {own C : String} {index : Nat} {y z : MethodName} {Q : Option Value → Heap → List Loc → Prop} (hown : s.vm.findClass own = some m.cls)
    (w1 : (Jvm.Cond.methodLink own index y).before a0 Z = true) (w2 : (Jvm.Cond.declares y).before a0 Z = true) (nf : NotFace s y) (w5 : (Jvm.Cond.selects C y z).before a0 Z = true) (w6 : (Jvm.Cond.instanceMethod z).before a0 Z = true) (hy : y.cls ≠ "java/lang/invoke/MethodHandle" ∧ y.cls ≠ "java/lang/invoke/VarHandle") (eT : T.heap = h) {a : Addr} (E : Exa Z h a C) {argsL rest : List Value}
    {rc rs W : Nat} (hK : Pay l R p e below s args z 3 W (.ref a :: argsL).toArray h Q rc rs) (hc : cells + rc ≤ R.cells) (hn : slots + rs ≤ R.slots)
    {pc : Nat} {Ls : Array Slot} {st : List Value} (hsize : Ls.size = c.maxLocals) (hlen : ∀ sig, parseMethodDescriptor y.desc = some sig → argsL.length = sig.parameters.length) (hst : st = argsL.reverse ++ .ref a :: rest) (hW : (rest.map fun v => v.category).sum ≤ W) (hd : decode c.code pc = .ok (.invokevirtual index, 3)) {A : Outcome → State → Prop}
    (kk : ∀ (v : Option Value) (T' : State) (L : List Loc) (h' : Heap), Stand p l e R s m args below meth c T' (locs ++ L) (cells + rc) (slots + rs) → T'.heap = h' → Q v h' L → Run p e below A (T'.setTop (mkF m (pc + 3) Ls (v.toList ++ rest)))) : Run p e below A (T.setTop (mkF m pc Ls st)) := by
  obtain ⟨cq, kq, qa, qb, qc⟩ := isOf hZ eT E
  obtain ⟨v, _, ⟨T18, L18, k18, n18⟩, -, X18, ⟨Lc18, hQ18, l18, y18, z18⟩, st18⟩ := X.virtualBack hx (y := y) (z := z) hown (mvT hZ w1) (mvT hZ w2) nf (mvT hZ w5) (mvT hZ w6) hy hK qa qc (g := mkF m pc Ls st) rfl hsize (Steps.refl _) (argsL := argsL) (rest := rest) hlen hst (by show 2 * 0 + _ ≤ _; omega) hd (fun _ _ => ⟨rfl, eT, hc, hn⟩)
  dsimp only [Pt.U, Pt.locs, Pt.cells, Pt.slots] at X18 l18 y18 z18 st18 hQ18
  subst l18 y18 z18
  exact goT st18 (kk v _ _ _ X18 rfl hQ18)
theorem callSpK (X : Stand p l e R s m args below meth c T locs cells slots) (hx : p.tables.exec = Jvm.exec) (hZ : Z.Warmed39 s.vm) {own : String} {index : Nat} {y : MethodName} (hy1 : y.name = "<init>") {bytes : ByteArray} {maxL : Nat} {Q : Option Value → Heap → List Loc → Prop} (hown : s.vm.findClass own = some m.cls)
    (w1 : (Jvm.Cond.methodLink own index y).before a0 Z = true) (w6 : (Jvm.Cond.instanceMethod y).before a0 Z = true) (w4 : (Jvm.Cond.code y bytes maxL none).before a0 Z = true) (hy : y.cls ≠ "java/lang/invoke/MethodHandle" ∧ y.cls ≠ "java/lang/invoke/VarHandle") (eT : T.heap = h) {a : Addr} {argsL rest : List Value}
    {rc rs W : Nat} (hK : Pay l R p e below s args y 3 W (.ref a :: argsL).toArray h Q rc rs) (hc : cells + rc ≤ R.cells) (hn : slots + rs ≤ R.slots)
    {pc : Nat} {Ls : Array Slot} {st : List Value} (hsize : Ls.size = c.maxLocals) (hlen : ∀ sig, parseMethodDescriptor y.desc = some sig → argsL.length = sig.parameters.length) (hst : st = argsL.reverse ++ .ref a :: rest) (hW : (rest.map fun v => v.category).sum ≤ W) (hd : decode c.code pc = .ok (.invokespecial index, 3)) {A : Outcome → State → Prop}
    (kk : ∀ (v : Option Value) (T' : State) (L : List Loc) (h' : Heap), Stand p l e R s m args below meth c T' (locs ++ L) (cells + rc) (slots + rs) → T'.heap = h' → Q v h' L → Run p e below A (T'.setTop (mkF m (pc + 3) Ls (v.toList ++ rest)))) : Run p e below A (T.setTop (mkF m pc Ls st)) := by
  obtain ⟨v, _, ⟨T18, L18, k18, n18⟩, -, X18, ⟨Lc18, hQ18, l18, y18, z18⟩, st18⟩ := X.specialBack hx (y := y) hy1 hown (mvT hZ w1) (mvT hZ w6) (mvT hZ w4) hy hK (g := mkF m pc Ls st) rfl hsize (Steps.refl _) (a := a) (argsL := argsL) (rest := rest) hlen hst (by show 2 * 0 + _ ≤ _; omega) hd (fun _ _ => ⟨rfl, eT, hc, hn⟩)
  dsimp only [Pt.U, Pt.locs, Pt.cells, Pt.slots] at X18 l18 y18 z18 st18 hQ18
  subst l18 y18 z18
  exact goT st18 (kk v _ _ _ X18 rfl hQ18)
/-- no subclass, by the words of the one's superclasses and of the other's 'instantiable' -/
theorem ns_root {O K : String} {n : Nat} (w : (Jvm.Cond.noSuperclass O).before a0 Z = true) (wk : (Jvm.Cond.instantiable K n).before a0 Z = true) (hn : O ≠ K) : NS Z O K := by
  obtain ⟨c, k, h1, h2, h3, -, -⟩ := Cond.noSuperclass_spec w
  obtain ⟨t, kt, g1, -⟩ := Cond.instantiable_spec wk
  have ne := ids_ne h1 g1 hn
  refine ⟨c, t, h1, g1, fun fuel => ?_⟩
  cases fuel with
  | zero => rfl
  | succ f => simp [Vm.isSubclassAux, ne, h2, h3]
theorem ns_no {C S K : String} {n : Nat} (w : (Jvm.Cond.superclass C S).before a0 Z = true) (wk : (Jvm.Cond.instantiable K n).before a0 Z = true) (q : NS Z C K) (hn : C ≠ K) : ∃ c t, Z.vm.findClass C = some c ∧ Z.vm.findClass K = some t ∧ Z.vm.assignable c t = false := by
  obtain ⟨c, t, h0, g0, n3⟩ := q
  obtain ⟨p, k, kp, h1, h2, h3, h4, h5, -, h7⟩ := Cond.superclass_spec h0 w
  obtain ⟨t', kt, g1, g2, g3, g4, -⟩ := Cond.instantiable_spec wk
  cases g0.symm.trans g1
  have ne := ids_ne h0 g0 hn
  have g5 : kt.isInterface = false := by
    cases hi : kt.isInterface with
    | false => rfl
    | true => simp [hi] at g4
  refine ⟨c, t, h0, g0, ?_⟩
  show Z.vm.assignableAux (255 + 1) c t = false
  simp [Vm.assignableAux, ne, h2, g2, h5, g3, g5, Vm.isSubclass, n3]
/-- a static that holds an object of one class, out of the case's words -/
theorem sta_exa {C n d K : String} (w1 : (Jvm.Cond.initialized C).before a0 Z = true) (w2 : (Jvm.Cond.laysStatic C n d).before a0 Z = true) (hx : (Jvm.Cond.exactly (Jvm.Term.static C n d) K).value a0 Z none Z [] = some true) :
    ∃ a, (Jvm.Term.static C n d).eval a0 Z none [] Z = some (.ref a) ∧ Sta Z Z.heap C n d (.ref a) ∧ Exa Z Z.heap a K := by
  obtain ⟨a, ev⟩ := exa_v hx
  exact ⟨a, ev, Sta.start ev (Or.inr ⟨w1, w2⟩), Exa.start ev hx⟩
theorem fld_int {t : Jvm.Term} {a : Addr} {C n d : String} {k : Int32} (ev : t.eval a0 Z none [] Z = some (.ref a)) (hq : (Jvm.Cond.eq (Jvm.Term.field t C n d) (Jvm.Term.int k)).value a0 Z none Z [] = some true) : Fld Z Z.heap a C n d (.int k) := by
  refine Fld.start ?_
  have e1 : (Jvm.Term.field t C n d).eval a0 Z none [] Z = Z.fieldOf? a C n d := fld_at ev
  have e2 : (Jvm.Term.int k).eval a0 Z none [] Z = some (.int k) := Term.int_eval k
  simp only [Cond.value, e1, e2] at hq
  cases hf : Z.fieldOf? a C n d with
  | none => simp [hf] at hq
  | some x => cases x <;> simp [hf] at hq ⊢; exact hq
end Own
theorem own_len {Z : State} {a0 : Array Value} {t : Jvm.Term} {a : Addr} {c : Cell} {ty : FieldType} {n : Int32} (ev : t.eval a0 Z none [] Z = some (.ref a)) (A : Arr Z Z.heap a c ty) (el : (Jvm.Term.length t).eval a0 Z none [] Z = some (.int n)) : c.slots.size < 2 ^ 31 ∧ c.slots.size.toInt32 = n := by
  have hA := A.fin (Vm.Alike.refl _)
  by_cases hl : c.slots.size < 2 ^ 31
  · rw [len_f ev hA hl] at el
    exact ⟨hl, by injection el with el; injection el⟩
  · simp [Term.eval, ev, hA, hl] at el
theorem own_mir {Z s : State} {args : Array Value} {C : String} {mr : Addr} (hZ : Z.Warmed39 s.vm) (M : Mir Z C mr) : (Jvm.Term.mirror C).eval args s none [] s = some (.ref mr) := by
  obtain ⟨c, k, h1, h2, h3, -⟩ := M
  obtain ⟨k', q, ek⟩ := hZ.alike.2.2 _ _ h2
  have e1 : s.vm.findClass C = some c := by rw [hZ.alike.findClass]; exact h1
  have e2 : k'.mirror = some mr := by rw [ek]; exact h3
  simp [Term.eval, e1, q, e2]
theorem own_insK {Z : State} {h h' : Heap} {x : Addr} {C : String} {b : Bool} {ws : List Addr} (I : Ins Z h x C b) (K : Keep h h' ws) : Ins Z h' x C b := by
  obtain ⟨cell, cT, h1, h2, h3⟩ := I
  obtain ⟨c', q1, q2, q3, -⟩ := K.2.2 _ _ h1
  exact ⟨c', cT, q1, h2, by rw [q2, q3]; exact h3⟩
theorem d_j22_m1_0 : decode jdk_22_method_1_code 0 = .ok (.aload_n 0, 1) := by decide +kernel
theorem d_j22_m1_1 : decode jdk_22_method_1_code 1 = .ok (.invokespecial 1, 3) := by decide +kernel
theorem d_j22_m1_4 : decode jdk_22_method_1_code 4 = .ok (.return_, 1) := by decide +kernel
theorem pn_0 : plainName "java/util/AbstractCollection" = true := by first | (simp [plainName, overriddenIn]; done) | decide +kernel
def Q_rm_abc (a : Addr) (h0 : Heap) (n0 : Nat) (v : Option Value) (h : Heap) (L : List Loc) : Prop := v = none ∧ Fr n0 L ∧ h = h0
set_option maxRecDepth 65536 in
set_option maxHeartbeats 40000000 in
theorem rm_abc (l : Launch) (Z : State) (a0 : Array Value) (hw : ∀ d ∈ tables_1, d.before a0 Z = true) (ws : List Jvm.Cond) (a : Addr) (h0 : Heap) (n0 : Nat) (O0 : Old Z n0 h0)  :
    Meets l (⟨"java/util/AbstractCollection", "<init>", "()V"⟩ : MethodName) jdk_22_method_1_code 1 none ws ({ frames := 1, cells := 0, slots := 0, locals := 12 } : Room) Z #[(.ref a)] h0 (Q_rm_abc a h0 n0) 0 0 := by
  refine enter (Ls := #[.val (.ref a)]) (plainFor_of_name pn_0) (fun m => by first | (simp [entryFrame, mkF, argsToLocals, Value.category]; done) | rfl) ?_
  intro p e s m below meth c T0 hx hby hml hown hnm hret hlk hZ X0 e0
  have N0 := Fr.nil n0
  replace hown : s.vm.findClass "java/util/AbstractCollection" = some m.cls := hown
  show Run p e below _ (T0.setTop (mkF m 0 #[.val (.ref a)] []))
  refine go (fun _ => XS.aloadN X0.here hx rfl (hb hby d_j22_m1_0) rfl rfl) ?_
  show Run p e below _ (T0.setTop (mkF m 1 #[.val (.ref a)] [(.ref a)]))
  obtain ⟨T1, X1, e1, st1⟩ := initO X0 hx hZ hown (wd hw 21 rfl) (wd hw 22 rfl) (wd hw 23 rfl) e0 (g := (mkF m 1 #[.val (.ref a)] [(.ref a)])) rfl (by rw [hml]; rfl) rfl (hb hby d_j22_m1_1) (by decide) (W := 0) (by show 2 * 0 + _ ≤ _; exact Nat.le_of_eq rfl) (by decide)
  refine go st1 ?_
  show Run p e below _ (T1.setTop (mkF m 4 #[.val (.ref a)] []))
  exact endV X1 hx hlk hret (hb hby d_j22_m1_4) (⟨rfl, N0, e1⟩) (by decide) (by decide)
theorem d_j39_m1_0 : decode jdk_39_method_1_code 0 = .ok (.aload_n 0, 1) := by decide +kernel
theorem d_j39_m1_1 : decode jdk_39_method_1_code 1 = .ok (.invokespecial 1, 3) := by decide +kernel
theorem pd_0 : parseMethodDescriptor "()V" = some ⟨[], none⟩ := by decide +kernel
theorem d_j39_m1_4 : decode jdk_39_method_1_code 4 = .ok (.aload_n 0, 1) := by decide +kernel
theorem d_j39_m1_5 : decode jdk_39_method_1_code 5 = .ok (.iconst 0, 1) := by decide +kernel
theorem d_j39_m1_6 : decode jdk_39_method_1_code 6 = .ok (.putfield 7, 3) := by decide +kernel
theorem d_j39_m1_9 : decode jdk_39_method_1_code 9 = .ok (.return_, 1) := by decide +kernel
theorem pn_1 : plainName "java/util/AbstractList" = true := by first | (simp [plainName, overriddenIn]; done) | decide +kernel
def Q_rm_abl (Z : State) (a : Addr) (h0 : Heap) (n0 : Nat) (v : Option Value) (h : Heap) (L : List Loc) : Prop := v = none ∧ Fr n0 L ∧ Keep h0 h [a] ∧ Exa Z h a "java/util/ArrayList" ∧ Fld Z h a "java/util/AbstractList" "modCount" "I" (.int (0 : Int32)) ∧ Fld Z h a "java/util/ArrayList" "elementData" "[Ljava/lang/Object;" .null ∧ Fld Z h a "java/util/ArrayList" "size" "I" (.int (0 : Int32))
set_option maxRecDepth 65536 in
set_option maxHeartbeats 40000000 in
theorem rm_abl (l : Launch) (Z : State) (a0 : Array Value) (hw : ∀ d ∈ tables_1, d.before a0 Z = true) (ws : List Jvm.Cond) (a : Addr) (h0 : Heap) (n0 : Nat) (O0 : Old Z n0 h0) (E_a : Exa Z h0 a "java/util/ArrayList") (F_modCount_a : Fld Z h0 a "java/util/AbstractList" "modCount" "I" (.int (0 : Int32))) (F_elementData_a : Fld Z h0 a "java/util/ArrayList" "elementData" "[Ljava/lang/Object;" .null) (F_size_a : Fld Z h0 a "java/util/ArrayList" "size" "I" (.int (0 : Int32))) (g_a : n0 ≤ a) :
    Meets l (⟨"java/util/AbstractList", "<init>", "()V"⟩ : MethodName) jdk_39_method_1_code 1 none ws ({ frames := 2, cells := 0, slots := 0, locals := 24 } : Room) Z #[(.ref a)] h0 (Q_rm_abl Z a h0 n0) 0 0 := by
  refine enter (Ls := #[.val (.ref a)]) (plainFor_of_name pn_1) (fun m => by first | (simp [entryFrame, mkF, argsToLocals, Value.category]; done) | rfl) ?_
  intro p e s m below meth c T0 hx hby hml hown hnm hret hlk hZ X0 e0
  have N0 := Fr.nil n0
  replace hown : s.vm.findClass "java/util/AbstractList" = some m.cls := hown
  show Run p e below _ (T0.setTop (mkF m 0 #[.val (.ref a)] []))
  have K0 := Keep.refl h0 [a]
  refine go (fun _ => XS.aloadN X0.here hx rfl (hb hby d_j39_m1_0) rfl rfl) ?_
  show Run p e below _ (T0.setTop (mkF m 1 #[.val (.ref a)] [(.ref a)]))
  refine callSp X0 hx hZ rfl hown (wd hw 15 rfl) (wd hw 16 rfl) (wd hw 20 rfl) (wd hw 19 rfl) (by decide) e0 (a := a) (argsL := []) (rest := []) (rm_abc l Z a0 hw [] a h0 n0 O0) (W := 0) (by decide) (by decide) (by decide) (by decide) (by rw [hml]; rfl) (lenOf pd_0 rfl) rfl (Nat.le_of_eq rfl) (hb hby d_j39_m1_1) ?_
  intro v2 T2 L2 h2 X2 e2 q2
  obtain ⟨rfl, n2, k2⟩ := q2
  have e2 := e2.trans k2
  have N2 := Fr.app N0 n2
  show Run p e below _ (T2.setTop (mkF m 4 #[.val (.ref a)] []))
  refine go (fun _ => XS.aloadN X2.here hx rfl (hb hby d_j39_m1_4) rfl rfl) ?_
  show Run p e below _ (T2.setTop (mkF m 5 #[.val (.ref a)] [(.ref a)]))
  refine go (fun _ => XS.iconst X2.here hx rfl (hb hby d_j39_m1_5)) ?_
  show Run p e below _ (T2.setTop (mkF m 6 #[.val (.ref a)] [(.int (0 : Int32)), (.ref a)]))
  obtain ⟨T3, h3, X3, e3, W3, st3⟩ := putF X2 hx hZ hown (host := "") (Or.inl (wd hw 24 rfl)) Via.refl e2 F_modCount_a E_a (Or.inl (wd hw 25 rfl)) (wd hw 4 rfl) (ty := .int) (by decide) rfl rfl (g := (mkF m 6 #[.val (.ref a)] [(.int (0 : Int32)), (.ref a)])) rfl rfl (hb hby d_j39_m1_6)
  have O0 := O0.wr W3 g_a
  have E_a := E_a.wr W3
  have F_modCount_a := F_modCount_a.same W3
  have F_elementData_a := F_elementData_a.other W3 (Or.inr (slot_ne (Or.inl (wd hw 28 rfl)) (Or.inl (wd hw 25 rfl)) (by decide) (t := (.array (.object "java/lang/Object"))) (t' := .int) (by decide) (by decide)))
  have F_size_a := F_size_a.other W3 (Or.inr (slot_ne (Or.inl (wd hw 57 rfl)) (Or.inl (wd hw 25 rfl)) (by decide) (t := .int) (t' := .int) (by decide) (by decide)))
  have K0 := K0.wr W3 (Or.inl (by simp))
  have N3 := Fr.snoc X3 N2 g_a
  refine go st3 ?_
  show Run p e below _ (T3.setTop (mkF m 9 #[.val (.ref a)] []))
  exact endV X3 hx hlk hret (hb hby d_j39_m1_9) (by rw [e3]; exact ⟨rfl, N3, K0, E_a, F_modCount_a, F_elementData_a, F_size_a⟩) (by decide) (by decide)
theorem d_j38_m2_0 : decode jdk_38_method_2_code 0 = .ok (.aload_n 0, 1) := by decide +kernel
theorem d_j38_m2_1 : decode jdk_38_method_2_code 1 = .ok (.invokespecial 1, 3) := by decide +kernel
theorem d_j38_m2_4 : decode jdk_38_method_2_code 4 = .ok (.aload_n 0, 1) := by decide +kernel
theorem d_j38_m2_5 : decode jdk_38_method_2_code 5 = .ok (.getstatic 39, 3) := by decide +kernel
theorem d_j38_m2_8 : decode jdk_38_method_2_code 8 = .ok (.putfield 9, 3) := by decide +kernel
theorem d_j38_m2_11 : decode jdk_38_method_2_code 11 = .ok (.return_, 1) := by decide +kernel
theorem pn_2 : plainName "java/util/ArrayList" = true := by first | (simp [plainName, overriddenIn]; done) | decide +kernel
def Q_rm_ali (Z : State) (a wD : Addr) (h0 : Heap) (n0 : Nat) (v : Option Value) (h : Heap) (L : List Loc) : Prop := v = none ∧ Fr n0 L ∧ Keep h0 h [a] ∧ Exa Z h a "java/util/ArrayList" ∧ Fld Z h a "java/util/AbstractList" "modCount" "I" (.int (0 : Int32)) ∧ Fld Z h a "java/util/ArrayList" "elementData" "[Ljava/lang/Object;" (.ref wD) ∧ Fld Z h a "java/util/ArrayList" "size" "I" (.int (0 : Int32))
set_option maxRecDepth 65536 in
set_option maxHeartbeats 40000000 in
theorem rm_ali (l : Launch) (Z : State) (a0 : Array Value) (hw : ∀ d ∈ tables_1, d.before a0 Z = true) (ws : List Jvm.Cond) (a wD : Addr) (h0 : Heap) (n0 : Nat) (O0 : Old Z n0 h0) (S_DEFAULTCAPACITY_EMPTY_ELEMENTDATA : Sta Z Z.heap "java/util/ArrayList" "DEFAULTCAPACITY_EMPTY_ELEMENTDATA" "[Ljava/lang/Object;" (.ref wD)) (E_a : Exa Z h0 a "java/util/ArrayList") (F_modCount_a : Fld Z h0 a "java/util/AbstractList" "modCount" "I" (.int (0 : Int32))) (F_elementData_a : Fld Z h0 a "java/util/ArrayList" "elementData" "[Ljava/lang/Object;" .null) (F_size_a : Fld Z h0 a "java/util/ArrayList" "size" "I" (.int (0 : Int32))) (g_a : n0 ≤ a) :
    Meets l (⟨"java/util/ArrayList", "<init>", "()V"⟩ : MethodName) jdk_38_method_2_code 1 none ws ({ frames := 3, cells := 0, slots := 0, locals := 36 } : Room) Z #[(.ref a)] h0 (Q_rm_ali Z a wD h0 n0) 0 0 := by
  refine enter (Ls := #[.val (.ref a)]) (plainFor_of_name pn_2) (fun m => by first | (simp [entryFrame, mkF, argsToLocals, Value.category]; done) | rfl) ?_
  intro p e s m below meth c T0 hx hby hml hown hnm hret hlk hZ X0 e0
  have N0 := Fr.nil n0
  replace hown : s.vm.findClass "java/util/ArrayList" = some m.cls := hown
  show Run p e below _ (T0.setTop (mkF m 0 #[.val (.ref a)] []))
  have K0 := Keep.refl h0 [a]
  refine go (fun _ => XS.aloadN X0.here hx rfl (hb hby d_j38_m2_0) rfl rfl) ?_
  show Run p e below _ (T0.setTop (mkF m 1 #[.val (.ref a)] [(.ref a)]))
  refine callSp X0 hx hZ rfl hown (wd hw 9 rfl) (wd hw 10 rfl) (wd hw 14 rfl) (wd hw 13 rfl) (by decide) e0 (a := a) (argsL := []) (rest := []) (rm_abl l Z a0 hw [] a h0 n0 O0 E_a F_modCount_a F_elementData_a F_size_a g_a) (W := 0) (by decide) (by decide) (by decide) (by decide) (by rw [hml]; rfl) (lenOf pd_0 rfl) rfl (Nat.le_of_eq rfl) (hb hby d_j38_m2_1) ?_
  intro v4 T4 L4 h4 X4 e4 q4
  obtain ⟨rfl, n4, K4, E_a, F_modCount_a, F_elementData_a, F_size_a⟩ := q4
  have O0 := O0.keep K4 (allS g_a all0)
  have K0 := K0.trans K4 (allS (Or.inl (by simp)) all0)
  have N4 := Fr.app N0 n4
  show Run p e below _ (T4.setTop (mkF m 4 #[.val (.ref a)] []))
  refine go (fun _ => XS.aloadN X4.here hx rfl (hb hby d_j38_m2_4) rfl rfl) ?_
  show Run p e below _ (T4.setTop (mkF m 5 #[.val (.ref a)] [(.ref a)]))
  obtain ⟨T5, X5, e5, st5⟩ := getS2 X4 hx hZ hown (host := "") (Or.inl (wd hw 26 rfl)) Via.refl e4 (S_DEFAULTCAPACITY_EMPTY_ELEMENTDATA.ext O0.2) (g := (mkF m 5 #[.val (.ref a)] [(.ref a)])) rfl (hb hby d_j38_m2_5)
  refine go st5 ?_
  show Run p e below _ (T5.setTop (mkF m 8 #[.val (.ref a)] [(.ref wD), (.ref a)]))
  obtain ⟨T6, h6, X6, e6, W6, st6⟩ := putF X5 hx hZ hown (host := "") (Or.inl (wd hw 27 rfl)) Via.refl e5 F_elementData_a E_a (Or.inl (wd hw 28 rfl)) (wd hw 4 rfl) (ty := (.array (.object "java/lang/Object"))) (by decide) rfl rfl (g := (mkF m 8 #[.val (.ref a)] [(.ref wD), (.ref a)])) rfl rfl (hb hby d_j38_m2_8)
  have O0 := O0.wr W6 g_a
  have E_a := E_a.wr W6
  have K0 := K0.wr W6 (Or.inl (by simp))
  have F_modCount_a := F_modCount_a.other W6 (Or.inr (slot_ne (Or.inl (wd hw 25 rfl)) (Or.inl (wd hw 28 rfl)) (by decide) (t := .int) (t' := (.array (.object "java/lang/Object"))) (by decide) (by decide)))
  have F_elementData_a := F_elementData_a.same W6
  have F_size_a := F_size_a.other W6 (Or.inr (slot_ne (Or.inl (wd hw 57 rfl)) (Or.inl (wd hw 28 rfl)) (by decide) (t := .int) (t' := (.array (.object "java/lang/Object"))) (by decide) (by decide)))
  have N6 := Fr.snoc X6 N4 g_a
  refine go st6 ?_
  show Run p e below _ (T6.setTop (mkF m 11 #[.val (.ref a)] []))
  exact endV X6 hx hlk hret (hb hby d_j38_m2_11) (by rw [e6]; exact ⟨rfl, N6, K0, E_a, F_modCount_a, F_elementData_a, F_size_a⟩) (by decide) (by decide)
theorem d_j29_m65_0 : decode jdk_29_method_65_code 0 = .ok (.iload_n 0, 1) := by decide +kernel
theorem d_j29_m65_1 : decode jdk_29_method_65_code 1 = .ok (.iload_n 1, 1) := by decide +kernel
theorem d_j29_m65_2 : decode jdk_29_method_65_code 2 = .ok (.if_icmp .lt 7, 3) := by decide +kernel
theorem d_j29_m65_9 : decode jdk_29_method_65_code 9 = .ok (.iload_n 1, 1) := by decide +kernel
theorem d_j29_m65_10 : decode jdk_29_method_65_code 10 = .ok (.ireturn, 1) := by decide +kernel
theorem d_j29_m65_5 : decode jdk_29_method_65_code 5 = .ok (.iload_n 0, 1) := by decide +kernel
theorem d_j29_m65_6 : decode jdk_29_method_65_code 6 = .ok (.goto 4, 3) := by decide +kernel
theorem pn_3 : plainFor (⟨"java/lang/Math", "max", "(II)I"⟩ : MethodName) = true := by decide +kernel
def Q_rm_max (p1 p2 : Int32) (h0 : Heap) (n0 : Nat) (v : Option Value) (h : Heap) (L : List Loc) : Prop := v = some (.int (if p1 < p2 then p2 else p1)) ∧ Fr n0 L ∧ h = h0
set_option maxRecDepth 65536 in
set_option maxHeartbeats 40000000 in
theorem rm_max (l : Launch) (Z : State) (a0 : Array Value) (hw : ∀ d ∈ tables_1, d.before a0 Z = true) (ws : List Jvm.Cond) (p1 p2 : Int32) (h0 : Heap) (n0 : Nat) (O0 : Old Z n0 h0)  :
    Meets l (⟨"java/lang/Math", "max", "(II)I"⟩ : MethodName) jdk_29_method_65_code 2 (some .int) ws ({ frames := 0, cells := 0, slots := 0, locals := 0 } : Room) Z #[(.int p1), (.int p2)] h0 (Q_rm_max p1 p2 h0 n0) 0 0 := by
  refine enter (Ls := #[.val (.int p1), .val (.int p2)]) pn_3 (fun m => by first | (simp [entryFrame, mkF, argsToLocals, Value.category]; done) | rfl) ?_
  intro p e s m below meth c T0 hx hby hml hown hnm hret hlk hZ X0 e0
  have N0 := Fr.nil n0
  replace hown : s.vm.findClass "java/lang/Math" = some m.cls := hown
  show Run p e below _ (T0.setTop (mkF m 0 #[.val (.int p1), .val (.int p2)] []))
  refine go (fun _ => XS.iloadN X0.here hx rfl (hb hby d_j29_m65_0) rfl) ?_
  show Run p e below _ (T0.setTop (mkF m 1 #[.val (.int p1), .val (.int p2)] [(.int p1)]))
  refine go (fun _ => XS.iloadN X0.here hx rfl (hb hby d_j29_m65_1) rfl) ?_
  show Run p e below _ (T0.setTop (mkF m 2 #[.val (.int p1), .val (.int p2)] [(.int p2), (.int p1)]))
  by_cases c7 : p1 < p2
  · skip
    refine go (fun _ => XS.icmpYes X0.here hx rfl (pc0 := 2) (pc' := 9) rfl (hb hby d_j29_m65_2) rfl (tlt c7).1 (by decide) (by decide)) ?_
    show Run p e below _ (T0.setTop (mkF m 9 #[.val (.int p1), .val (.int p2)] []))
    refine go (fun _ => XS.iloadN X0.here hx rfl (hb hby d_j29_m65_9) rfl) ?_
    show Run p e below _ (T0.setTop (mkF m 10 #[.val (.int p1), .val (.int p2)] [(.int p2)]))
    exact endI X0 hx hlk hret (hb hby d_j29_m65_10) (⟨by simp [c7], N0, e0⟩) (by decide) (by decide)
  · skip
    refine go (fun _ => XS.icmpNo X0.here hx rfl (hb hby d_j29_m65_2) rfl (flt c7).1) ?_
    show Run p e below _ (T0.setTop (mkF m 5 #[.val (.int p1), .val (.int p2)] []))
    refine go (fun _ => XS.iloadN X0.here hx rfl (hb hby d_j29_m65_5) rfl) ?_
    show Run p e below _ (T0.setTop (mkF m 6 #[.val (.int p1), .val (.int p2)] [(.int p1)]))
    refine go (fun _ => XS.goto X0.here hx rfl (pc0 := 6) (pc' := 10) rfl (hb hby d_j29_m65_6) (by decide) (by decide)) ?_
    show Run p e below _ (T0.setTop (mkF m 10 #[.val (.int p1), .val (.int p2)] [(.int p1)]))
    exact endI X0 hx hlk hret (hb hby d_j29_m65_10) (⟨by simp [c7], N0, e0⟩) (by decide) (by decide)
theorem d_j38_m6_0 : decode jdk_38_method_6_code 0 = .ok (.aload_n 0, 1) := by decide +kernel
theorem d_j38_m6_1 : decode jdk_38_method_6_code 1 = .ok (.getfield 9, 3) := by decide +kernel
theorem d_j38_m6_4 : decode jdk_38_method_6_code 4 = .ok (.arraylength, 1) := by decide +kernel
theorem d_j38_m6_5 : decode jdk_38_method_6_code 5 = .ok (.istore_n 2, 1) := by decide +kernel
theorem d_j38_m6_6 : decode jdk_38_method_6_code 6 = .ok (.iload_n 2, 1) := by decide +kernel
theorem d_j38_m6_7 : decode jdk_38_method_6_code 7 = .ok (.ifCond .gt 13, 3) := by decide +kernel
theorem d_j38_m6_10 : decode jdk_38_method_6_code 10 = .ok (.aload_n 0, 1) := by decide +kernel
theorem d_j38_m6_11 : decode jdk_38_method_6_code 11 = .ok (.getfield 9, 3) := by decide +kernel
theorem d_j38_m6_14 : decode jdk_38_method_6_code 14 = .ok (.getstatic 39, 3) := by decide +kernel
theorem d_j38_m6_17 : decode jdk_38_method_6_code 17 = .ok (.if_acmp .eq 28, 3) := by decide +kernel
theorem d_j38_m6_45 : decode jdk_38_method_6_code 45 = .ok (.aload_n 0, 1) := by decide +kernel
theorem d_j38_m6_46 : decode jdk_38_method_6_code 46 = .ok (.bipush 10, 2) := by decide +kernel
theorem d_j38_m6_48 : decode jdk_38_method_6_code 48 = .ok (.iload_n 1, 1) := by decide +kernel
theorem d_j38_m6_49 : decode jdk_38_method_6_code 49 = .ok (.invokestatic 79, 3) := by decide +kernel
theorem pd_1 : parseMethodDescriptor "(II)I" = some ⟨[.int, .int], some .int⟩ := by decide +kernel
theorem d_j38_m6_52 : decode jdk_38_method_6_code 52 = .ok (.anewarray 7, 3) := by decide +kernel
theorem d_j38_m6_55 : decode jdk_38_method_6_code 55 = .ok (.dup_x1, 1) := by decide +kernel
theorem d_j38_m6_56 : decode jdk_38_method_6_code 56 = .ok (.putfield 9, 3) := by decide +kernel
theorem d_j38_m6_59 : decode jdk_38_method_6_code 59 = .ok (.areturn, 1) := by decide +kernel
def Q_rm_gr1 (Z : State) (a wD : Addr) (kD : ClassId) (mc : Int32) (h0 : Heap) (n0 : Nat) (v : Option Value) (h : Heap) (L : List Loc) : Prop := ∃ (b : Addr) (k : ClassId), v = some (.ref b) ∧ Fr n0 L ∧ Keep h0 h [a] ∧ h0.size ≤ b ∧ n0 ≤ b ∧ Exa Z h a "java/util/ArrayList" ∧ Fld Z h a "java/util/AbstractList" "modCount" "I" (.int mc) ∧ Fld Z h a "java/util/ArrayList" "elementData" "[Ljava/lang/Object;" (.ref b) ∧ Fld Z h a "java/util/ArrayList" "size" "I" (.int (0 : Int32)) ∧ Ovr Z k "java/lang/Object" ∧ Arv Z h b k (.object "java/lang/Object") (10 : Int32) [.null, .null, .null, .null, .null, .null, .null, .null, .null, .null] .null ∧ Exa Z h b "[Ljava/lang/Object;"
set_option maxRecDepth 65536 in
set_option maxHeartbeats 40000000 in
theorem rm_gr1 (l : Launch) (Z : State) (a0 : Array Value) (hw : ∀ d ∈ tables_1, d.before a0 Z = true) (ws : List Jvm.Cond) (a wD : Addr) (kD : ClassId) (mc : Int32) (h0 : Heap) (n0 : Nat) (O0 : Old Z n0 h0) (S_DEFAULTCAPACITY_EMPTY_ELEMENTDATA : Sta Z Z.heap "java/util/ArrayList" "DEFAULTCAPACITY_EMPTY_ELEMENTDATA" "[Ljava/lang/Object;" (.ref wD)) (VD : Arv Z Z.heap wD kD (.object "java/lang/Object") (0 : Int32) [] .null) (E_a : Exa Z h0 a "java/util/ArrayList") (F_modCount_a : Fld Z h0 a "java/util/AbstractList" "modCount" "I" (.int mc)) (F_elementData_a : Fld Z h0 a "java/util/ArrayList" "elementData" "[Ljava/lang/Object;" (.ref wD)) (F_size_a : Fld Z h0 a "java/util/ArrayList" "size" "I" (.int (0 : Int32))) (g_a : n0 ≤ a) :
    Meets l (⟨"java/util/ArrayList", "grow", "(I)[Ljava/lang/Object;"⟩ : MethodName) jdk_38_method_6_code 4 (some (.array (.object "java/lang/Object"))) ws ({ frames := 1, cells := 1, slots := 10, locals := 14 } : Room) Z #[(.ref a), (.int (1 : Int32))] h0 (Q_rm_gr1 Z a wD kD mc h0 n0) 1 10 := by
  refine enter (Ls := #[.val (.ref a), .val (.int (1 : Int32)), .unset, .unset]) (plainFor_of_name pn_2) (fun m => by first | (simp [entryFrame, mkF, argsToLocals, Value.category]; done) | rfl) ?_
  intro p e s m below meth c T0 hx hby hml hown hnm hret hlk hZ X0 e0
  have N0 := Fr.nil n0
  replace hown : s.vm.findClass "java/util/ArrayList" = some m.cls := hown
  show Run p e below _ (T0.setTop (mkF m 0 #[.val (.ref a), .val (.int (1 : Int32)), .unset, .unset] []))
  have K0 := Keep.refl h0 [a]
  have V_wD := VD.ext O0.2
  have ne_wD_a : wD ≠ a := O0.ne VD.lt g_a
  refine go (fun _ => XS.aloadN X0.here hx rfl (hb hby d_j38_m6_0) rfl rfl) ?_
  show Run p e below _ (T0.setTop (mkF m 1 #[.val (.ref a), .val (.int (1 : Int32)), .unset, .unset] [(.ref a)]))
  obtain ⟨T8, X8, e8, st8⟩ := getF X0 hx hZ hown (host := "") (Or.inl (wd hw 27 rfl)) Via.refl e0 F_elementData_a (g := (mkF m 1 #[.val (.ref a), .val (.int (1 : Int32)), .unset, .unset] [(.ref a)])) rfl rfl (hb hby d_j38_m6_1)
  refine go st8 ?_
  show Run p e below _ (T8.setTop (mkF m 4 #[.val (.ref a), .val (.int (1 : Int32)), .unset, .unset] [(.ref wD)]))
  obtain ⟨cl9, Ar9, ak9, as9, an9, ah9, ag9⟩ := id V_wD
  refine go (fun _ => X8.arraylength hx (by rw [e8]; exact Ar9.1) (State.isArrayOf_alike hZ.alike Ar9.2.1) (g := (mkF m 4 #[.val (.ref a), .val (.int (1 : Int32)), .unset, .unset] [(.ref wD)])) rfl rfl (hb hby d_j38_m6_4) _) ?_
  rw [len_of as9 an9]
  show Run p e below _ (T8.setTop (mkF m 5 #[.val (.ref a), .val (.int (1 : Int32)), .unset, .unset] [(.int (0 : Int32))]))
  refine go (fun _ => XS.istoreN X8.here hx rfl (hb hby d_j38_m6_5) rfl (l' := #[.val (.ref a), .val (.int (1 : Int32)), .val (.int (0 : Int32)), .unset]) rfl) ?_
  show Run p e below _ (T8.setTop (mkF m 6 #[.val (.ref a), .val (.int (1 : Int32)), .val (.int (0 : Int32)), .unset] []))
  refine go (fun _ => XS.iloadN X8.here hx rfl (hb hby d_j38_m6_6) rfl) ?_
  show Run p e below _ (T8.setTop (mkF m 7 #[.val (.ref a), .val (.int (1 : Int32)), .val (.int (0 : Int32)), .unset] [(.int (0 : Int32))]))
  refine go (fun _ => XS.ifNo X8.here hx rfl (hb hby d_j38_m6_7) rfl ((if0 _ _).trans (flt (by decide : ¬ ((0 : Int32) < 0))).2.2.1)) ?_
  show Run p e below _ (T8.setTop (mkF m 10 #[.val (.ref a), .val (.int (1 : Int32)), .val (.int (0 : Int32)), .unset] []))
  refine go (fun _ => XS.aloadN X8.here hx rfl (hb hby d_j38_m6_10) rfl rfl) ?_
  show Run p e below _ (T8.setTop (mkF m 11 #[.val (.ref a), .val (.int (1 : Int32)), .val (.int (0 : Int32)), .unset] [(.ref a)]))
  obtain ⟨T10, X10, e10, st10⟩ := getF X8 hx hZ hown (host := "") (Or.inl (wd hw 27 rfl)) Via.refl e8 F_elementData_a (g := (mkF m 11 #[.val (.ref a), .val (.int (1 : Int32)), .val (.int (0 : Int32)), .unset] [(.ref a)])) rfl rfl (hb hby d_j38_m6_11)
  refine go st10 ?_
  show Run p e below _ (T10.setTop (mkF m 14 #[.val (.ref a), .val (.int (1 : Int32)), .val (.int (0 : Int32)), .unset] [(.ref wD)]))
  obtain ⟨T11, X11, e11, st11⟩ := getS2 X10 hx hZ hown (host := "") (Or.inl (wd hw 26 rfl)) Via.refl e10 (S_DEFAULTCAPACITY_EMPTY_ELEMENTDATA.ext O0.2) (g := (mkF m 14 #[.val (.ref a), .val (.int (1 : Int32)), .val (.int (0 : Int32)), .unset] [(.ref wD)])) rfl (hb hby d_j38_m6_14)
  refine go st11 ?_
  show Run p e below _ (T11.setTop (mkF m 17 #[.val (.ref a), .val (.int (1 : Int32)), .val (.int (0 : Int32)), .unset] [(.ref wD), (.ref wD)]))
  refine go (fun _ => acmp X11 hx rfl (x := (.ref wD)) (y := (.ref wD)) rfl rfl (pc0 := 17) (pc' := 45) (same := true) rfl (hb hby d_j38_m6_17) rfl (decide_eq_true rfl) (by decide) (by decide)) ?_
  show Run p e below _ (T11.setTop (mkF m 45 #[.val (.ref a), .val (.int (1 : Int32)), .val (.int (0 : Int32)), .unset] []))
  refine go (fun _ => XS.aloadN X11.here hx rfl (hb hby d_j38_m6_45) rfl rfl) ?_
  show Run p e below _ (T11.setTop (mkF m 46 #[.val (.ref a), .val (.int (1 : Int32)), .val (.int (0 : Int32)), .unset] [(.ref a)]))
  refine go (fun _ => XS.bipush X11.here hx rfl (hb hby d_j38_m6_46)) ?_
  show Run p e below _ (T11.setTop (mkF m 48 #[.val (.ref a), .val (.int (1 : Int32)), .val (.int (0 : Int32)), .unset] [(.int (10 : Int32)), (.ref a)]))
  refine go (fun _ => XS.iloadN X11.here hx rfl (hb hby d_j38_m6_48) rfl) ?_
  show Run p e below _ (T11.setTop (mkF m 49 #[.val (.ref a), .val (.int (1 : Int32)), .val (.int (0 : Int32)), .unset] [(.int (1 : Int32)), (.int (10 : Int32)), (.ref a)]))
  refine callSt X11 hx hZ hown (wd hw 106 rfl) (wd hw 107 rfl) (wd hw 108 rfl) (wd hw 109 rfl) (by decide) e11 (argsL := [(.int (10 : Int32)), (.int (1 : Int32))]) (rest := [(.ref a)]) (rm_max l Z a0 hw [] (10 : Int32) (1 : Int32) h0 n0 O0) (W := 1) (by decide) (by decide) (by decide) (by decide) (by rw [hml]; rfl) (lenOf pd_1 rfl) rfl (Nat.le_of_eq rfl) (hb hby d_j38_m6_49) ?_
  intro v12 T12 L12 h12 X12 e12 q12
  obtain ⟨rv, n12, k12⟩ := q12
  replace rv : v12 = some (.int (10 : Int32)) := rv
  subst rv
  have e12 := e12.trans k12
  have N12 := Fr.app N0 n12
  show Run p e below _ (T12.setTop (mkF m 52 #[.val (.ref a), .val (.int (1 : Int32)), .val (.int (0 : Int32)), .unset] [(.int (10 : Int32)), (.ref a)]))
  obtain ⟨T13, h13, k13, X13, e13, E13, A13, B13, O13, st13⟩ := newRE X12 hx hZ hown (wd hw 110 rfl) (wd hw 111 rfl) e12 (g := (mkF m 52 #[.val (.ref a), .val (.int (1 : Int32)), .val (.int (0 : Int32)), .unset] [(.int (10 : Int32)), (.ref a)])) rfl (hb hby d_j38_m6_52) rfl (by decide) (cap := 10) (by decide) (by decide) (by decide) (by decide) (ad := "[Ljava/lang/Object;") (by decide)
  obtain ⟨b13, y13⟩ : ∃ z, z = h0.size := ⟨_, rfl⟩
  rw [← y13] at A13 B13 st13
  have g_b13 : n0 ≤ b13 := y13.symm ▸ old_sz O0
  have sz_b13 : h0.size ≤ b13 := y13.symm ▸ K0.1
  have ne_a_b13 : a ≠ b13 := Nat.ne_of_lt (y13.symm ▸ E_a.lt)
  have ne_wD_b13 : wD ≠ b13 := Nat.ne_of_lt (y13.symm ▸ V_wD.lt)
  have O0 := O0.ext E13
  have E_a := E_a.ext E13
  have F_modCount_a := F_modCount_a.ext E13
  have F_elementData_a := F_elementData_a.ext E13
  have F_size_a := F_size_a.ext E13
  have K0 := K0.ext E13
  have V_wD := V_wD.ext E13
  have E_b13 := B13
  have V_b13 : Arv Z h13 b13 k13 (.object "java/lang/Object") (10 : Int32) [.null, .null, .null, .null, .null, .null, .null, .null, .null, .null] .null := (Arv.new A13 (by decide)).pad (pad_rep [] .null 10)
  refine go st13 ?_
  show Run p e below _ (T13.setTop (mkF m 55 #[.val (.ref a), .val (.int (1 : Int32)), .val (.int (0 : Int32)), .unset] [(.ref b13), (.ref a)]))
  refine go (fun _ => XS.dupX1 X13.here hx rfl (hb hby d_j38_m6_55) rfl rfl rfl) ?_
  show Run p e below _ (T13.setTop (mkF m 56 #[.val (.ref a), .val (.int (1 : Int32)), .val (.int (0 : Int32)), .unset] [(.ref b13), (.ref a), (.ref b13)]))
  obtain ⟨T14, h14, X14, e14, W14, st14⟩ := putF X13 hx hZ hown (host := "") (Or.inl (wd hw 27 rfl)) Via.refl e13 F_elementData_a E_a (Or.inl (wd hw 28 rfl)) (wd hw 4 rfl) (ty := (.array (.object "java/lang/Object"))) (by decide) rfl rfl (g := (mkF m 56 #[.val (.ref a), .val (.int (1 : Int32)), .val (.int (0 : Int32)), .unset] [(.ref b13), (.ref a), (.ref b13)])) rfl rfl (hb hby d_j38_m6_56)
  have O0 := O0.wr W14 g_a
  have E_a := E_a.wr W14
  have F_modCount_a := F_modCount_a.other W14 (Or.inr (slot_ne (Or.inl (wd hw 25 rfl)) (Or.inl (wd hw 28 rfl)) (by decide) (t := .int) (t' := (.array (.object "java/lang/Object"))) (by decide) (by decide)))
  have F_elementData_a := F_elementData_a.same W14
  have F_size_a := F_size_a.other W14 (Or.inr (slot_ne (Or.inl (wd hw 57 rfl)) (Or.inl (wd hw 28 rfl)) (by decide) (t := .int) (t' := (.array (.object "java/lang/Object"))) (by decide) (by decide)))
  have K0 := K0.wr W14 (Or.inl (by simp))
  have V_wD := V_wD.other W14 ne_wD_a
  have E_b13 := E_b13.wr W14
  have V_b13 := V_b13.other W14 (Ne.symm ne_a_b13)
  have N14 := Fr.snoc X14 N12 g_a
  refine go st14 ?_
  show Run p e below _ (T14.setTop (mkF m 59 #[.val (.ref a), .val (.int (1 : Int32)), .val (.int (0 : Int32)), .unset] [(.ref b13)]))
  exact endA X14 hx hlk (w := (.ref b13)) hret rfl rfl (hb hby d_j38_m6_59) (by rw [e14]; exact ⟨b13, _, rfl, N14, K0, sz_b13, g_b13, E_a, F_modCount_a, F_elementData_a, F_size_a, O13, V_b13, E_b13⟩) (by decide) (by decide)
theorem d_j38_m7_0 : decode jdk_38_method_7_code 0 = .ok (.aload_n 0, 1) := by decide +kernel
theorem d_j38_m7_1 : decode jdk_38_method_7_code 1 = .ok (.aload_n 0, 1) := by decide +kernel
theorem d_j38_m7_2 : decode jdk_38_method_7_code 2 = .ok (.getfield 48, 3) := by decide +kernel
theorem d_j38_m7_5 : decode jdk_38_method_7_code 5 = .ok (.iconst 1, 1) := by decide +kernel
theorem d_j38_m7_6 : decode jdk_38_method_7_code 6 = .ok (.iadd, 1) := by decide +kernel
theorem d_j38_m7_7 : decode jdk_38_method_7_code 7 = .ok (.invokevirtual 69, 3) := by decide +kernel
theorem pd_2 : parseMethodDescriptor "(I)[Ljava/lang/Object;" = some ⟨[.int], some (.array (.object "java/lang/Object"))⟩ := by decide +kernel
theorem d_j38_m7_10 : decode jdk_38_method_7_code 10 = .ok (.areturn, 1) := by decide +kernel
def Q_rm_gr0 (Z : State) (a wD : Addr) (kD : ClassId) (mc : Int32) (h0 : Heap) (n0 : Nat) (v : Option Value) (h : Heap) (L : List Loc) : Prop := ∃ (b : Addr) (k : ClassId), v = some (.ref b) ∧ Fr n0 L ∧ Keep h0 h [a] ∧ h0.size ≤ b ∧ n0 ≤ b ∧ Exa Z h a "java/util/ArrayList" ∧ Fld Z h a "java/util/AbstractList" "modCount" "I" (.int mc) ∧ Fld Z h a "java/util/ArrayList" "elementData" "[Ljava/lang/Object;" (.ref b) ∧ Fld Z h a "java/util/ArrayList" "size" "I" (.int (0 : Int32)) ∧ Ovr Z k "java/lang/Object" ∧ Arv Z h b k (.object "java/lang/Object") (10 : Int32) [.null, .null, .null, .null, .null, .null, .null, .null, .null, .null] .null ∧ Exa Z h b "[Ljava/lang/Object;"
set_option maxRecDepth 65536 in
set_option maxHeartbeats 40000000 in
theorem rm_gr0 (l : Launch) (Z : State) (a0 : Array Value) (hw : ∀ d ∈ tables_1, d.before a0 Z = true) (ws : List Jvm.Cond) (a wD : Addr) (kD : ClassId) (mc : Int32) (h0 : Heap) (n0 : Nat) (O0 : Old Z n0 h0) (S_DEFAULTCAPACITY_EMPTY_ELEMENTDATA : Sta Z Z.heap "java/util/ArrayList" "DEFAULTCAPACITY_EMPTY_ELEMENTDATA" "[Ljava/lang/Object;" (.ref wD)) (VD : Arv Z Z.heap wD kD (.object "java/lang/Object") (0 : Int32) [] .null) (E_a : Exa Z h0 a "java/util/ArrayList") (F_modCount_a : Fld Z h0 a "java/util/AbstractList" "modCount" "I" (.int mc)) (F_elementData_a : Fld Z h0 a "java/util/ArrayList" "elementData" "[Ljava/lang/Object;" (.ref wD)) (F_size_a : Fld Z h0 a "java/util/ArrayList" "size" "I" (.int (0 : Int32))) (g_a : n0 ≤ a) :
    Meets l (⟨"java/util/ArrayList", "grow", "()[Ljava/lang/Object;"⟩ : MethodName) jdk_38_method_7_code 1 (some (.array (.object "java/lang/Object"))) ws ({ frames := 2, cells := 1, slots := 10, locals := 29 } : Room) Z #[(.ref a)] h0 (Q_rm_gr0 Z a wD kD mc h0 n0) 1 10 := by
  refine enter (Ls := #[.val (.ref a)]) (plainFor_of_name pn_2) (fun m => by first | (simp [entryFrame, mkF, argsToLocals, Value.category]; done) | rfl) ?_
  intro p e s m below meth c T0 hx hby hml hown hnm hret hlk hZ X0 e0
  have N0 := Fr.nil n0
  replace hown : s.vm.findClass "java/util/ArrayList" = some m.cls := hown
  show Run p e below _ (T0.setTop (mkF m 0 #[.val (.ref a)] []))
  have K0 := Keep.refl h0 [a]
  refine go (fun _ => XS.aloadN X0.here hx rfl (hb hby d_j38_m7_0) rfl rfl) ?_
  show Run p e below _ (T0.setTop (mkF m 1 #[.val (.ref a)] [(.ref a)]))
  refine go (fun _ => XS.aloadN X0.here hx rfl (hb hby d_j38_m7_1) rfl rfl) ?_
  show Run p e below _ (T0.setTop (mkF m 2 #[.val (.ref a)] [(.ref a), (.ref a)]))
  obtain ⟨T15, X15, e15, st15⟩ := getF X0 hx hZ hown (host := "") (Or.inl (wd hw 56 rfl)) Via.refl e0 F_size_a (g := (mkF m 2 #[.val (.ref a)] [(.ref a), (.ref a)])) rfl rfl (hb hby d_j38_m7_2)
  refine go st15 ?_
  show Run p e below _ (T15.setTop (mkF m 5 #[.val (.ref a)] [(.int (0 : Int32)), (.ref a)]))
  refine go (fun _ => XS.iconst X15.here hx rfl (hb hby d_j38_m7_5)) ?_
  show Run p e below _ (T15.setTop (mkF m 6 #[.val (.ref a)] [(.int (1 : Int32)), (.int (0 : Int32)), (.ref a)]))
  refine go (fun _ => XS.iadd X15.here hx rfl (hb hby d_j38_m7_6) rfl) ?_
  show Run p e below _ (T15.setTop (mkF m 7 #[.val (.ref a)] [(.int ((0 : Int32) + (1 : Int32))), (.ref a)]))
  show Run p e below _ (T15.setTop (mkF m 7 #[.val (.ref a)] [(.int (1 : Int32)), (.ref a)]))
  refine callPr X15 hx hZ hown (wd hw 101 rfl) (wd hw 103 rfl) (wd hw 104 rfl) (wd hw 102 rfl) (wd hw 105 rfl) (wd hw 5 rfl) (by decide) e15 E_a (argsL := [(.int (1 : Int32))]) (rest := []) (rm_gr1 l Z a0 hw [] a wD kD mc h0 n0 O0 S_DEFAULTCAPACITY_EMPTY_ELEMENTDATA VD E_a F_modCount_a F_elementData_a F_size_a g_a) (W := 0) (by decide) (by decide) (by decide) (by decide) (by rw [hml]; rfl) (lenOf pd_2 rfl) rfl (Nat.le_of_eq rfl) (hb hby d_j38_m7_7) ?_
  intro v16 T16 L16 h16 X16 e16 q16
  have lt17_a := E_a.lt
  obtain ⟨b16, k16, rfl, n16, K16, sb16, g_b16, E_a, F_modCount_a, F_elementData_a, F_size_a, O16, V_b16, E_b16⟩ := q16
  have szq16 := K0.1
  have ne_a_b16 : a ≠ b16 := Nat.ne_of_lt (Nat.lt_of_lt_of_le lt17_a sb16)
  have O0 := O0.keep K16 (allS g_a all0)
  have K0 := K0.trans K16 (allS (Or.inl (by simp)) all0)
  have sz_b16 : h0.size ≤ b16 := Nat.le_trans szq16 sb16
  have N16 := Fr.app N0 n16
  show Run p e below _ (T16.setTop (mkF m 10 #[.val (.ref a)] [(.ref b16)]))
  exact endA X16 hx hlk (w := (.ref b16)) hret rfl rfl (hb hby d_j38_m7_10) (by rw [e16]; exact ⟨b16, _, rfl, N16, K0, sz_b16, g_b16, E_a, F_modCount_a, F_elementData_a, F_size_a, O16, V_b16, E_b16⟩) (by decide) (by decide)
theorem d_j29_m69_0 : decode jdk_29_method_69_code 0 = .ok (.iload_n 0, 1) := by decide +kernel
theorem d_j29_m69_1 : decode jdk_29_method_69_code 1 = .ok (.iload_n 1, 1) := by decide +kernel
theorem d_j29_m69_2 : decode jdk_29_method_69_code 2 = .ok (.if_icmp .gt 7, 3) := by decide +kernel
theorem d_j29_m69_9 : decode jdk_29_method_69_code 9 = .ok (.iload_n 1, 1) := by decide +kernel
theorem d_j29_m69_10 : decode jdk_29_method_69_code 10 = .ok (.ireturn, 1) := by decide +kernel
theorem d_j29_m69_5 : decode jdk_29_method_69_code 5 = .ok (.iload_n 0, 1) := by decide +kernel
theorem d_j29_m69_6 : decode jdk_29_method_69_code 6 = .ok (.goto 4, 3) := by decide +kernel
theorem pn_4 : plainFor (⟨"java/lang/Math", "min", "(II)I"⟩ : MethodName) = true := by decide +kernel
def Q_rm_min (p1 p2 : Int32) (h0 : Heap) (n0 : Nat) (v : Option Value) (h : Heap) (L : List Loc) : Prop := v = some (.int (if p2 < p1 then p2 else p1)) ∧ Fr n0 L ∧ h = h0
set_option maxRecDepth 65536 in
set_option maxHeartbeats 40000000 in
theorem rm_min (l : Launch) (Z : State) (a0 : Array Value) (hw : ∀ d ∈ tables_1, d.before a0 Z = true) (ws : List Jvm.Cond) (p1 p2 : Int32) (h0 : Heap) (n0 : Nat) (O0 : Old Z n0 h0)  :
    Meets l (⟨"java/lang/Math", "min", "(II)I"⟩ : MethodName) jdk_29_method_69_code 2 (some .int) ws ({ frames := 0, cells := 0, slots := 0, locals := 0 } : Room) Z #[(.int p1), (.int p2)] h0 (Q_rm_min p1 p2 h0 n0) 0 0 := by
  refine enter (Ls := #[.val (.int p1), .val (.int p2)]) pn_4 (fun m => by first | (simp [entryFrame, mkF, argsToLocals, Value.category]; done) | rfl) ?_
  intro p e s m below meth c T0 hx hby hml hown hnm hret hlk hZ X0 e0
  have N0 := Fr.nil n0
  replace hown : s.vm.findClass "java/lang/Math" = some m.cls := hown
  show Run p e below _ (T0.setTop (mkF m 0 #[.val (.int p1), .val (.int p2)] []))
  refine go (fun _ => XS.iloadN X0.here hx rfl (hb hby d_j29_m69_0) rfl) ?_
  show Run p e below _ (T0.setTop (mkF m 1 #[.val (.int p1), .val (.int p2)] [(.int p1)]))
  refine go (fun _ => XS.iloadN X0.here hx rfl (hb hby d_j29_m69_1) rfl) ?_
  show Run p e below _ (T0.setTop (mkF m 2 #[.val (.int p1), .val (.int p2)] [(.int p2), (.int p1)]))
  by_cases c18 : p2 < p1
  · skip
    refine go (fun _ => XS.icmpYes X0.here hx rfl (pc0 := 2) (pc' := 9) rfl (hb hby d_j29_m69_2) rfl (tlt c18).2.2.1 (by decide) (by decide)) ?_
    show Run p e below _ (T0.setTop (mkF m 9 #[.val (.int p1), .val (.int p2)] []))
    refine go (fun _ => XS.iloadN X0.here hx rfl (hb hby d_j29_m69_9) rfl) ?_
    show Run p e below _ (T0.setTop (mkF m 10 #[.val (.int p1), .val (.int p2)] [(.int p2)]))
    exact endI X0 hx hlk hret (hb hby d_j29_m69_10) (⟨by simp [c18], N0, e0⟩) (by decide) (by decide)
  · skip
    refine go (fun _ => XS.icmpNo X0.here hx rfl (hb hby d_j29_m69_2) rfl (flt c18).2.2.1) ?_
    show Run p e below _ (T0.setTop (mkF m 5 #[.val (.int p1), .val (.int p2)] []))
    refine go (fun _ => XS.iloadN X0.here hx rfl (hb hby d_j29_m69_5) rfl) ?_
    show Run p e below _ (T0.setTop (mkF m 6 #[.val (.int p1), .val (.int p2)] [(.int p1)]))
    refine go (fun _ => XS.goto X0.here hx rfl (pc0 := 6) (pc' := 10) rfl (hb hby d_j29_m69_6) (by decide) (by decide)) ?_
    show Run p e below _ (T0.setTop (mkF m 10 #[.val (.int p1), .val (.int p2)] [(.int p1)]))
    exact endI X0 hx hlk hret (hb hby d_j29_m69_10) (⟨by simp [c18], N0, e0⟩) (by decide) (by decide)
theorem d_j38_m9_0 : decode jdk_38_method_9_code 0 = .ok (.aload_n 0, 1) := by decide +kernel
theorem d_j38_m9_1 : decode jdk_38_method_9_code 1 = .ok (.getfield 48, 3) := by decide +kernel
theorem d_j38_m9_4 : decode jdk_38_method_9_code 4 = .ok (.ifCond .ne 7, 3) := by decide +kernel
theorem d_j38_m9_7 : decode jdk_38_method_9_code 7 = .ok (.iconst 1, 1) := by decide +kernel
theorem d_j38_m9_8 : decode jdk_38_method_9_code 8 = .ok (.goto 4, 3) := by decide +kernel
theorem d_j38_m9_12 : decode jdk_38_method_9_code 12 = .ok (.ireturn, 1) := by decide +kernel
theorem d_j38_m9_11 : decode jdk_38_method_9_code 11 = .ok (.iconst 0, 1) := by decide +kernel
def Q_rm_ie (a : Addr) (z : Int32) (h0 : Heap) (n0 : Nat) (v : Option Value) (h : Heap) (L : List Loc) : Prop := v = some (.int (if z = 0 then 1 else 0)) ∧ Fr n0 L ∧ h = h0
set_option maxRecDepth 65536 in
set_option maxHeartbeats 40000000 in
theorem rm_ie (l : Launch) (Z : State) (a0 : Array Value) (hw : ∀ d ∈ tables_1, d.before a0 Z = true) (ws : List Jvm.Cond) (a : Addr) (z : Int32) (h0 : Heap) (n0 : Nat) (O0 : Old Z n0 h0) (F_size_a : Fld Z h0 a "java/util/ArrayList" "size" "I" (.int z)) :
    Meets l (⟨"java/util/ArrayList", "isEmpty", "()Z"⟩ : MethodName) jdk_38_method_9_code 1 (some .boolean) ws ({ frames := 0, cells := 0, slots := 0, locals := 0 } : Room) Z #[(.ref a)] h0 (Q_rm_ie a z h0 n0) 0 0 := by
  refine enter (Ls := #[.val (.ref a)]) (plainFor_of_name pn_2) (fun m => by first | (simp [entryFrame, mkF, argsToLocals, Value.category]; done) | rfl) ?_
  intro p e s m below meth c T0 hx hby hml hown hnm hret hlk hZ X0 e0
  have N0 := Fr.nil n0
  replace hown : s.vm.findClass "java/util/ArrayList" = some m.cls := hown
  show Run p e below _ (T0.setTop (mkF m 0 #[.val (.ref a)] []))
  refine go (fun _ => XS.aloadN X0.here hx rfl (hb hby d_j38_m9_0) rfl rfl) ?_
  show Run p e below _ (T0.setTop (mkF m 1 #[.val (.ref a)] [(.ref a)]))
  obtain ⟨T19, X19, e19, st19⟩ := getF X0 hx hZ hown (host := "") (Or.inl (wd hw 56 rfl)) Via.refl e0 F_size_a (g := (mkF m 1 #[.val (.ref a)] [(.ref a)])) rfl rfl (hb hby d_j38_m9_1)
  refine go st19 ?_
  show Run p e below _ (T19.setTop (mkF m 4 #[.val (.ref a)] [(.int z)]))
  by_cases c20 : z = 0
  · skip
    refine go (fun _ => XS.ifNo X19.here hx rfl (hb hby d_j38_m9_4) rfl ((if0 _ _).trans (teq c20).2)) ?_
    show Run p e below _ (T19.setTop (mkF m 7 #[.val (.ref a)] []))
    refine go (fun _ => XS.iconst X19.here hx rfl (hb hby d_j38_m9_7)) ?_
    show Run p e below _ (T19.setTop (mkF m 8 #[.val (.ref a)] [(.int (1 : Int32))]))
    refine go (fun _ => XS.goto X19.here hx rfl (pc0 := 8) (pc' := 12) rfl (hb hby d_j38_m9_8) (by decide) (by decide)) ?_
    show Run p e below _ (T19.setTop (mkF m 12 #[.val (.ref a)] [(.int (1 : Int32))]))
    exact endN X19 hx hlk (t := .boolean) hret (by simp) (hb hby d_j38_m9_12) (⟨by simp [c20] <;> rfl, N0, e19⟩) (by decide) (by decide)
  · skip
    refine go (fun _ => XS.ifYes X19.here hx rfl (pc0 := 4) (pc' := 11) rfl (hb hby d_j38_m9_4) rfl ((if0 _ _).trans (feq c20).2) (by decide) (by decide)) ?_
    show Run p e below _ (T19.setTop (mkF m 11 #[.val (.ref a)] []))
    refine go (fun _ => XS.iconst X19.here hx rfl (hb hby d_j38_m9_11)) ?_
    show Run p e below _ (T19.setTop (mkF m 12 #[.val (.ref a)] [(.int (0 : Int32))]))
    exact endN X19 hx hlk (t := .boolean) hret (by simp) (hb hby d_j38_m9_12) (⟨by simp [c20] <;> rfl, N0, e19⟩) (by decide) (by decide)
theorem d_j40_m36_0 : decode jdk_40_method_36_code 0 = .ok (.getstatic 90, 3) := by decide +kernel
theorem d_j40_m36_3 : decode jdk_40_method_36_code 3 = .ok (.areturn, 1) := by decide +kernel
theorem pn_5 : plainName "java/util/List" = true := by first | (simp [plainName, overriddenIn]; done) | decide +kernel
def Q_rm_of0 (wEL : Addr) (h0 : Heap) (n0 : Nat) (v : Option Value) (h : Heap) (L : List Loc) : Prop := v = some (.ref wEL) ∧ Fr n0 L ∧ h = h0
set_option maxRecDepth 65536 in
set_option maxHeartbeats 40000000 in
theorem rm_of0 (l : Launch) (Z : State) (a0 : Array Value) (hw : ∀ d ∈ tables_1, d.before a0 Z = true) (ws : List Jvm.Cond) (wEL : Addr) (h0 : Heap) (n0 : Nat) (O0 : Old Z n0 h0) (S_EMPTY_LIST : Sta Z Z.heap "java/util/ImmutableCollections" "EMPTY_LIST" "Ljava/util/ImmutableCollections$ListN;" (.ref wEL)) :
    Meets l (⟨"java/util/List", "of", "()Ljava/util/List;"⟩ : MethodName) jdk_40_method_36_code 0 (some (.object "java/util/List")) ws ({ frames := 0, cells := 0, slots := 0, locals := 0 } : Room) Z #[] h0 (Q_rm_of0 wEL h0 n0) 0 0 := by
  refine enter (Ls := #[]) (plainFor_of_name pn_5) (fun m => by first | (simp [entryFrame, mkF, argsToLocals, Value.category]; done) | rfl) ?_
  intro p e s m below meth c T0 hx hby hml hown hnm hret hlk hZ X0 e0
  have N0 := Fr.nil n0
  replace hown : s.vm.findClass "java/util/List" = some m.cls := hown
  show Run p e below _ (T0.setTop (mkF m 0 #[] []))
  obtain ⟨T21, X21, e21, st21⟩ := getS2 X0 hx hZ hown (host := "") (Or.inl (wd hw 61 rfl)) Via.refl e0 (S_EMPTY_LIST.ext O0.2) (g := (mkF m 0 #[] [])) rfl (hb hby d_j40_m36_0)
  refine go st21 ?_
  show Run p e below _ (T21.setTop (mkF m 3 #[] [(.ref wEL)]))
  exact endA X21 hx hlk (w := (.ref wEL)) hret rfl rfl (hb hby d_j40_m36_3) (⟨rfl, N0, e21⟩) (by decide) (by decide)
theorem d_j31_m10_0 : decode jdk_31_method_10_code 0 = .ok (.aload_n 0, 1) := by decide +kernel
theorem d_j31_m10_1 : decode jdk_31_method_10_code 1 = .ok (.ifnonnull 11, 3) := by decide +kernel
theorem d_j31_m10_12 : decode jdk_31_method_10_code 12 = .ok (.aload_n 0, 1) := by decide +kernel
theorem d_j31_m10_13 : decode jdk_31_method_10_code 13 = .ok (.areturn, 1) := by decide +kernel
theorem pn_6 : plainName "java/util/Objects" = true := by first | (simp [plainName, overriddenIn]; done) | decide +kernel
def Q_rm_rn (a : Addr) (h0 : Heap) (n0 : Nat) (v : Option Value) (h : Heap) (L : List Loc) : Prop := v = some (.ref a) ∧ Fr n0 L ∧ h = h0
set_option maxRecDepth 65536 in
set_option maxHeartbeats 40000000 in
theorem rm_rn (l : Launch) (Z : State) (a0 : Array Value) (hw : ∀ d ∈ tables_1, d.before a0 Z = true) (ws : List Jvm.Cond) (a : Addr) (h0 : Heap) (n0 : Nat) (O0 : Old Z n0 h0)  :
    Meets l (⟨"java/util/Objects", "requireNonNull", "(Ljava/lang/Object;)Ljava/lang/Object;"⟩ : MethodName) jdk_31_method_10_code 1 (some (.object "java/lang/Object")) ws ({ frames := 0, cells := 0, slots := 0, locals := 0 } : Room) Z #[(.ref a)] h0 (Q_rm_rn a h0 n0) 0 0 := by
  refine enter (Ls := #[.val (.ref a)]) (plainFor_of_name pn_6) (fun m => by first | (simp [entryFrame, mkF, argsToLocals, Value.category]; done) | rfl) ?_
  intro p e s m below meth c T0 hx hby hml hown hnm hret hlk hZ X0 e0
  have N0 := Fr.nil n0
  replace hown : s.vm.findClass "java/util/Objects" = some m.cls := hown
  show Run p e below _ (T0.setTop (mkF m 0 #[.val (.ref a)] []))
  refine go (fun _ => XS.aloadN X0.here hx rfl (hb hby d_j31_m10_0) rfl rfl) ?_
  show Run p e below _ (T0.setTop (mkF m 1 #[.val (.ref a)] [(.ref a)]))
  refine go (fun _ => XS.ifnonnullYes X0.here hx rfl (pc0 := 1) (pc' := 12) rfl (hb hby d_j31_m10_1) rfl (by decide) (by decide)) ?_
  show Run p e below _ (T0.setTop (mkF m 12 #[.val (.ref a)] []))
  refine go (fun _ => XS.aloadN X0.here hx rfl (hb hby d_j31_m10_12) rfl rfl) ?_
  show Run p e below _ (T0.setTop (mkF m 13 #[.val (.ref a)] [(.ref a)]))
  exact endA X0 hx hlk (w := (.ref a)) hret rfl rfl (hb hby d_j31_m10_13) (⟨rfl, N0, e0⟩) (by decide) (by decide)
theorem d_j47_m1_0 : decode jdk_47_method_1_code 0 = .ok (.aload_n 0, 1) := by decide +kernel
theorem d_j47_m1_1 : decode jdk_47_method_1_code 1 = .ok (.invokespecial 1, 3) := by decide +kernel
theorem d_j47_m1_4 : decode jdk_47_method_1_code 4 = .ok (.return_, 1) := by decide +kernel
theorem pn_7 : plainName "java/util/ImmutableCollections$AbstractImmutableCollection" = true := by first | (simp [plainName, overriddenIn]; done) | decide +kernel
def Q_rm_aic (a : Addr) (h0 : Heap) (n0 : Nat) (v : Option Value) (h : Heap) (L : List Loc) : Prop := v = none ∧ Fr n0 L ∧ h = h0
set_option maxRecDepth 65536 in
set_option maxHeartbeats 40000000 in
theorem rm_aic (l : Launch) (Z : State) (a0 : Array Value) (hw : ∀ d ∈ tables_1, d.before a0 Z = true) (ws : List Jvm.Cond) (a : Addr) (h0 : Heap) (n0 : Nat) (O0 : Old Z n0 h0)  :
    Meets l (⟨"java/util/ImmutableCollections$AbstractImmutableCollection", "<init>", "()V"⟩ : MethodName) jdk_47_method_1_code 1 none ws ({ frames := 2, cells := 0, slots := 0, locals := 24 } : Room) Z #[(.ref a)] h0 (Q_rm_aic a h0 n0) 0 0 := by
  refine enter (Ls := #[.val (.ref a)]) (plainFor_of_name pn_7) (fun m => by first | (simp [entryFrame, mkF, argsToLocals, Value.category]; done) | rfl) ?_
  intro p e s m below meth c T0 hx hby hml hown hnm hret hlk hZ X0 e0
  have N0 := Fr.nil n0
  replace hown : s.vm.findClass "java/util/ImmutableCollections$AbstractImmutableCollection" = some m.cls := hown
  show Run p e below _ (T0.setTop (mkF m 0 #[.val (.ref a)] []))
  refine go (fun _ => XS.aloadN X0.here hx rfl (hb hby d_j47_m1_0) rfl rfl) ?_
  show Run p e below _ (T0.setTop (mkF m 1 #[.val (.ref a)] [(.ref a)]))
  refine callSp X0 hx hZ rfl hown (wd hw 180 rfl) (wd hw 16 rfl) (wd hw 20 rfl) (wd hw 19 rfl) (by decide) e0 (a := a) (argsL := []) (rest := []) (rm_abc l Z a0 hw [] a h0 n0 O0) (W := 0) (by decide) (by decide) (by decide) (by decide) (by rw [hml]; rfl) (lenOf pd_0 rfl) rfl (Nat.le_of_eq rfl) (hb hby d_j47_m1_1) ?_
  intro v22 T22 L22 h22 X22 e22 q22
  obtain ⟨rfl, n22, k22⟩ := q22
  have e22 := e22.trans k22
  have N22 := Fr.app N0 n22
  show Run p e below _ (T22.setTop (mkF m 4 #[.val (.ref a)] []))
  exact endV X22 hx hlk hret (hb hby d_j47_m1_4) (⟨rfl, N22, e22⟩) (by decide) (by decide)
theorem d_j46_m1_0 : decode jdk_46_method_1_code 0 = .ok (.aload_n 0, 1) := by decide +kernel
theorem d_j46_m1_1 : decode jdk_46_method_1_code 1 = .ok (.invokespecial 1, 3) := by decide +kernel
theorem d_j46_m1_4 : decode jdk_46_method_1_code 4 = .ok (.return_, 1) := by decide +kernel
theorem pn_8 : plainName "java/util/ImmutableCollections$AbstractImmutableList" = true := by first | (simp [plainName, overriddenIn]; done) | decide +kernel
def Q_rm_ail (a : Addr) (h0 : Heap) (n0 : Nat) (v : Option Value) (h : Heap) (L : List Loc) : Prop := v = none ∧ Fr n0 L ∧ h = h0
set_option maxRecDepth 65536 in
set_option maxHeartbeats 40000000 in
theorem rm_ail (l : Launch) (Z : State) (a0 : Array Value) (hw : ∀ d ∈ tables_1, d.before a0 Z = true) (ws : List Jvm.Cond) (a : Addr) (h0 : Heap) (n0 : Nat) (O0 : Old Z n0 h0)  :
    Meets l (⟨"java/util/ImmutableCollections$AbstractImmutableList", "<init>", "()V"⟩ : MethodName) jdk_46_method_1_code 1 none ws ({ frames := 3, cells := 0, slots := 0, locals := 36 } : Room) Z #[(.ref a)] h0 (Q_rm_ail a h0 n0) 0 0 := by
  refine enter (Ls := #[.val (.ref a)]) (plainFor_of_name pn_8) (fun m => by first | (simp [entryFrame, mkF, argsToLocals, Value.category]; done) | rfl) ?_
  intro p e s m below meth c T0 hx hby hml hown hnm hret hlk hZ X0 e0
  have N0 := Fr.nil n0
  replace hown : s.vm.findClass "java/util/ImmutableCollections$AbstractImmutableList" = some m.cls := hown
  show Run p e below _ (T0.setTop (mkF m 0 #[.val (.ref a)] []))
  refine go (fun _ => XS.aloadN X0.here hx rfl (hb hby d_j46_m1_0) rfl rfl) ?_
  show Run p e below _ (T0.setTop (mkF m 1 #[.val (.ref a)] [(.ref a)]))
  refine callSp X0 hx hZ rfl hown (wd hw 174 rfl) (wd hw 175 rfl) (wd hw 179 rfl) (wd hw 178 rfl) (by decide) e0 (a := a) (argsL := []) (rest := []) (rm_aic l Z a0 hw [] a h0 n0 O0) (W := 0) (by decide) (by decide) (by decide) (by decide) (by rw [hml]; rfl) (lenOf pd_0 rfl) rfl (Nat.le_of_eq rfl) (hb hby d_j46_m1_1) ?_
  intro v23 T23 L23 h23 X23 e23 q23
  obtain ⟨rfl, n23, k23⟩ := q23
  have e23 := e23.trans k23
  have N23 := Fr.app N0 n23
  show Run p e below _ (T23.setTop (mkF m 4 #[.val (.ref a)] []))
  exact endV X23 hx hlk hret (hb hby d_j46_m1_4) (⟨rfl, N23, e23⟩) (by decide) (by decide)
theorem d_j44_m1_0 : decode jdk_44_method_1_code 0 = .ok (.aload_n 0, 1) := by decide +kernel
theorem d_j44_m1_1 : decode jdk_44_method_1_code 1 = .ok (.invokespecial 1, 3) := by decide +kernel
theorem d_j44_m1_4 : decode jdk_44_method_1_code 4 = .ok (.aload_n 0, 1) := by decide +kernel
theorem d_j44_m1_5 : decode jdk_44_method_1_code 5 = .ok (.aload_n 1, 1) := by decide +kernel
theorem d_j44_m1_6 : decode jdk_44_method_1_code 6 = .ok (.invokestatic 7, 3) := by decide +kernel
theorem pd_3 : parseMethodDescriptor "(Ljava/lang/Object;)Ljava/lang/Object;" = some ⟨[(.object "java/lang/Object")], some (.object "java/lang/Object")⟩ := by decide +kernel
theorem d_j44_m1_9 : decode jdk_44_method_1_code 9 = .ok (.putfield 13, 3) := by decide +kernel
theorem d_j44_m1_12 : decode jdk_44_method_1_code 12 = .ok (.aload_n 0, 1) := by decide +kernel
theorem d_j44_m1_13 : decode jdk_44_method_1_code 13 = .ok (.getstatic 19, 3) := by decide +kernel
theorem d_j44_m1_16 : decode jdk_44_method_1_code 16 = .ok (.putfield 24, 3) := by decide +kernel
theorem d_j44_m1_19 : decode jdk_44_method_1_code 19 = .ok (.return_, 1) := by decide +kernel
theorem pn_9 : plainName "java/util/ImmutableCollections$List12" = true := by first | (simp [plainName, overriddenIn]; done) | decide +kernel
def Q_rm_l1 (Z : State) (a x wE : Addr) (h0 : Heap) (n0 : Nat) (v : Option Value) (h : Heap) (L : List Loc) : Prop := v = none ∧ Fr n0 L ∧ Keep h0 h [a] ∧ Exa Z h a "java/util/ImmutableCollections$List12"
set_option maxRecDepth 65536 in
set_option maxHeartbeats 40000000 in
theorem rm_l1 (l : Launch) (Z : State) (a0 : Array Value) (hw : ∀ d ∈ tables_1, d.before a0 Z = true) (ws : List Jvm.Cond) (a x wE : Addr) (h0 : Heap) (n0 : Nat) (O0 : Old Z n0 h0) (S_EMPTY : Sta Z Z.heap "java/util/ImmutableCollections" "EMPTY" "Ljava/lang/Object;" (.ref wE)) (E_a : Exa Z h0 a "java/util/ImmutableCollections$List12") (F_e0_a : Fld Z h0 a "java/util/ImmutableCollections$List12" "e0" "Ljava/lang/Object;" .null) (F_e1_a : Fld Z h0 a "java/util/ImmutableCollections$List12" "e1" "Ljava/lang/Object;" .null) (g_a : n0 ≤ a) :
    Meets l (⟨"java/util/ImmutableCollections$List12", "<init>", "(Ljava/lang/Object;)V"⟩ : MethodName) jdk_44_method_1_code 2 none ws ({ frames := 4, cells := 0, slots := 0, locals := 48 } : Room) Z #[(.ref a), (.ref x)] h0 (Q_rm_l1 Z a x wE h0 n0) 0 0 := by
  refine enter (Ls := #[.val (.ref a), .val (.ref x)]) (plainFor_of_name pn_9) (fun m => by first | (simp [entryFrame, mkF, argsToLocals, Value.category]; done) | rfl) ?_
  intro p e s m below meth c T0 hx hby hml hown hnm hret hlk hZ X0 e0
  have N0 := Fr.nil n0
  replace hown : s.vm.findClass "java/util/ImmutableCollections$List12" = some m.cls := hown
  show Run p e below _ (T0.setTop (mkF m 0 #[.val (.ref a), .val (.ref x)] []))
  have K0 := Keep.refl h0 [a]
  refine go (fun _ => XS.aloadN X0.here hx rfl (hb hby d_j44_m1_0) rfl rfl) ?_
  show Run p e below _ (T0.setTop (mkF m 1 #[.val (.ref a), .val (.ref x)] [(.ref a)]))
  refine callSp X0 hx hZ rfl hown (wd hw 212 rfl) (wd hw 169 rfl) (wd hw 173 rfl) (wd hw 172 rfl) (by decide) e0 (a := a) (argsL := []) (rest := []) (rm_ail l Z a0 hw [] a h0 n0 O0) (W := 0) (by decide) (by decide) (by decide) (by decide) (by rw [hml]; rfl) (lenOf pd_0 rfl) rfl (Nat.le_of_eq rfl) (hb hby d_j44_m1_1) ?_
  intro v24 T24 L24 h24 X24 e24 q24
  obtain ⟨rfl, n24, k24⟩ := q24
  have e24 := e24.trans k24
  have N24 := Fr.app N0 n24
  show Run p e below _ (T24.setTop (mkF m 4 #[.val (.ref a), .val (.ref x)] []))
  refine go (fun _ => XS.aloadN X24.here hx rfl (hb hby d_j44_m1_4) rfl rfl) ?_
  show Run p e below _ (T24.setTop (mkF m 5 #[.val (.ref a), .val (.ref x)] [(.ref a)]))
  refine go (fun _ => XS.aloadN X24.here hx rfl (hb hby d_j44_m1_5) rfl rfl) ?_
  show Run p e below _ (T24.setTop (mkF m 6 #[.val (.ref a), .val (.ref x)] [(.ref x), (.ref a)]))
  refine callSt X24 hx hZ hown (wd hw 216 rfl) (wd hw 159 rfl) (wd hw 160 rfl) (wd hw 161 rfl) (by decide) e24 (argsL := [(.ref x)]) (rest := [(.ref a)]) (rm_rn l Z a0 hw [] x h0 n0 O0) (W := 1) (by decide) (by decide) (by decide) (by decide) (by rw [hml]; rfl) (lenOf pd_3 rfl) rfl (Nat.le_of_eq rfl) (hb hby d_j44_m1_6) ?_
  intro v25 T25 L25 h25 X25 e25 q25
  obtain ⟨rv, n25, k25⟩ := q25
  replace rv : v25 = some (.ref x) := rv
  subst rv
  have e25 := e25.trans k25
  have N25 := Fr.app N24 n25
  show Run p e below _ (T25.setTop (mkF m 9 #[.val (.ref a), .val (.ref x)] [(.ref x), (.ref a)]))
  obtain ⟨T26, h26, X26, e26, W26, st26⟩ := putF X25 hx hZ hown (host := "") (Or.inl (wd hw 217 rfl)) Via.refl e25 F_e0_a E_a (Or.inr ⟨(wd hw 218 rfl), rfl, hnm⟩) (wd hw 206 rfl) (ty := (.object "java/lang/Object")) (by decide) rfl rfl (g := (mkF m 9 #[.val (.ref a), .val (.ref x)] [(.ref x), (.ref a)])) rfl rfl (hb hby d_j44_m1_9)
  have O0 := O0.wr W26 g_a
  have E_a := E_a.wr W26
  have F_e0_a := F_e0_a.same W26
  have F_e1_a := F_e1_a.other W26 (Or.inr (slot_ne (Or.inr (wd hw 220 rfl)) (Or.inr (wd hw 218 rfl)) (by decide) (t := (.object "java/lang/Object")) (t' := (.object "java/lang/Object")) (by decide) (by decide)))
  have K0 := K0.wr W26 (Or.inl (by simp))
  have N26 := Fr.snoc X26 N25 g_a
  refine go st26 ?_
  show Run p e below _ (T26.setTop (mkF m 12 #[.val (.ref a), .val (.ref x)] []))
  refine go (fun _ => XS.aloadN X26.here hx rfl (hb hby d_j44_m1_12) rfl rfl) ?_
  show Run p e below _ (T26.setTop (mkF m 13 #[.val (.ref a), .val (.ref x)] [(.ref a)]))
  obtain ⟨T27, X27, e27, st27⟩ := getS2 X26 hx hZ hown (Or.inr (wd hw 224 rfl)) Via.refl e26 (S_EMPTY.ext O0.2) (g := (mkF m 13 #[.val (.ref a), .val (.ref x)] [(.ref a)])) rfl (hb hby d_j44_m1_13)
  refine go st27 ?_
  show Run p e below _ (T27.setTop (mkF m 16 #[.val (.ref a), .val (.ref x)] [(.ref wE), (.ref a)]))
  obtain ⟨T28, h28, X28, e28, W28, st28⟩ := putF X27 hx hZ hown (host := "") (Or.inl (wd hw 219 rfl)) Via.refl e27 F_e1_a E_a (Or.inr ⟨(wd hw 220 rfl), rfl, hnm⟩) (wd hw 206 rfl) (ty := (.object "java/lang/Object")) (by decide) rfl rfl (g := (mkF m 16 #[.val (.ref a), .val (.ref x)] [(.ref wE), (.ref a)])) rfl rfl (hb hby d_j44_m1_16)
  have O0 := O0.wr W28 g_a
  have E_a := E_a.wr W28
  have F_e0_a := F_e0_a.other W28 (Or.inr (slot_ne (Or.inr (wd hw 218 rfl)) (Or.inr (wd hw 220 rfl)) (by decide) (t := (.object "java/lang/Object")) (t' := (.object "java/lang/Object")) (by decide) (by decide)))
  have F_e1_a := F_e1_a.same W28
  have K0 := K0.wr W28 (Or.inl (by simp))
  have N28 := Fr.snoc X28 N26 g_a
  refine go st28 ?_
  show Run p e below _ (T28.setTop (mkF m 19 #[.val (.ref a), .val (.ref x)] []))
  exact endV X28 hx hlk hret (hb hby d_j44_m1_19) (by rw [e28]; exact ⟨rfl, N28, K0, E_a⟩) (by decide) (by decide)
theorem d_j44_m2_0 : decode jdk_44_method_2_code 0 = .ok (.aload_n 0, 1) := by decide +kernel
theorem d_j44_m2_1 : decode jdk_44_method_2_code 1 = .ok (.invokespecial 1, 3) := by decide +kernel
theorem d_j44_m2_4 : decode jdk_44_method_2_code 4 = .ok (.aload_n 0, 1) := by decide +kernel
theorem d_j44_m2_5 : decode jdk_44_method_2_code 5 = .ok (.aload_n 1, 1) := by decide +kernel
theorem d_j44_m2_6 : decode jdk_44_method_2_code 6 = .ok (.invokestatic 7, 3) := by decide +kernel
theorem d_j44_m2_9 : decode jdk_44_method_2_code 9 = .ok (.putfield 13, 3) := by decide +kernel
theorem d_j44_m2_12 : decode jdk_44_method_2_code 12 = .ok (.aload_n 0, 1) := by decide +kernel
theorem d_j44_m2_13 : decode jdk_44_method_2_code 13 = .ok (.aload_n 2, 1) := by decide +kernel
theorem d_j44_m2_14 : decode jdk_44_method_2_code 14 = .ok (.invokestatic 7, 3) := by decide +kernel
theorem d_j44_m2_17 : decode jdk_44_method_2_code 17 = .ok (.putfield 24, 3) := by decide +kernel
theorem d_j44_m2_20 : decode jdk_44_method_2_code 20 = .ok (.return_, 1) := by decide +kernel
def Q_rm_l2 (Z : State) (a x y : Addr) (h0 : Heap) (n0 : Nat) (v : Option Value) (h : Heap) (L : List Loc) : Prop := v = none ∧ Fr n0 L ∧ Keep h0 h [a] ∧ Exa Z h a "java/util/ImmutableCollections$List12"
set_option maxRecDepth 65536 in
set_option maxHeartbeats 40000000 in
theorem rm_l2 (l : Launch) (Z : State) (a0 : Array Value) (hw : ∀ d ∈ tables_1, d.before a0 Z = true) (ws : List Jvm.Cond) (a x y : Addr) (h0 : Heap) (n0 : Nat) (O0 : Old Z n0 h0) (E_a : Exa Z h0 a "java/util/ImmutableCollections$List12") (F_e0_a : Fld Z h0 a "java/util/ImmutableCollections$List12" "e0" "Ljava/lang/Object;" .null) (F_e1_a : Fld Z h0 a "java/util/ImmutableCollections$List12" "e1" "Ljava/lang/Object;" .null) (g_a : n0 ≤ a) :
    Meets l (⟨"java/util/ImmutableCollections$List12", "<init>", "(Ljava/lang/Object;Ljava/lang/Object;)V"⟩ : MethodName) jdk_44_method_2_code 3 none ws ({ frames := 4, cells := 0, slots := 0, locals := 48 } : Room) Z #[(.ref a), (.ref x), (.ref y)] h0 (Q_rm_l2 Z a x y h0 n0) 0 0 := by
  refine enter (Ls := #[.val (.ref a), .val (.ref x), .val (.ref y)]) (plainFor_of_name pn_9) (fun m => by first | (simp [entryFrame, mkF, argsToLocals, Value.category]; done) | rfl) ?_
  intro p e s m below meth c T0 hx hby hml hown hnm hret hlk hZ X0 e0
  have N0 := Fr.nil n0
  replace hown : s.vm.findClass "java/util/ImmutableCollections$List12" = some m.cls := hown
  show Run p e below _ (T0.setTop (mkF m 0 #[.val (.ref a), .val (.ref x), .val (.ref y)] []))
  have K0 := Keep.refl h0 [a]
  refine go (fun _ => XS.aloadN X0.here hx rfl (hb hby d_j44_m2_0) rfl rfl) ?_
  show Run p e below _ (T0.setTop (mkF m 1 #[.val (.ref a), .val (.ref x), .val (.ref y)] [(.ref a)]))
  refine callSp X0 hx hZ rfl hown (wd hw 212 rfl) (wd hw 169 rfl) (wd hw 173 rfl) (wd hw 172 rfl) (by decide) e0 (a := a) (argsL := []) (rest := []) (rm_ail l Z a0 hw [] a h0 n0 O0) (W := 0) (by decide) (by decide) (by decide) (by decide) (by rw [hml]; rfl) (lenOf pd_0 rfl) rfl (Nat.le_of_eq rfl) (hb hby d_j44_m2_1) ?_
  intro v29 T29 L29 h29 X29 e29 q29
  obtain ⟨rfl, n29, k29⟩ := q29
  have e29 := e29.trans k29
  have N29 := Fr.app N0 n29
  show Run p e below _ (T29.setTop (mkF m 4 #[.val (.ref a), .val (.ref x), .val (.ref y)] []))
  refine go (fun _ => XS.aloadN X29.here hx rfl (hb hby d_j44_m2_4) rfl rfl) ?_
  show Run p e below _ (T29.setTop (mkF m 5 #[.val (.ref a), .val (.ref x), .val (.ref y)] [(.ref a)]))
  refine go (fun _ => XS.aloadN X29.here hx rfl (hb hby d_j44_m2_5) rfl rfl) ?_
  show Run p e below _ (T29.setTop (mkF m 6 #[.val (.ref a), .val (.ref x), .val (.ref y)] [(.ref x), (.ref a)]))
  refine callSt X29 hx hZ hown (wd hw 216 rfl) (wd hw 159 rfl) (wd hw 160 rfl) (wd hw 161 rfl) (by decide) e29 (argsL := [(.ref x)]) (rest := [(.ref a)]) (rm_rn l Z a0 hw [] x h0 n0 O0) (W := 1) (by decide) (by decide) (by decide) (by decide) (by rw [hml]; rfl) (lenOf pd_3 rfl) rfl (Nat.le_of_eq rfl) (hb hby d_j44_m2_6) ?_
  intro v30 T30 L30 h30 X30 e30 q30
  obtain ⟨rv, n30, k30⟩ := q30
  replace rv : v30 = some (.ref x) := rv
  subst rv
  have e30 := e30.trans k30
  have N30 := Fr.app N29 n30
  show Run p e below _ (T30.setTop (mkF m 9 #[.val (.ref a), .val (.ref x), .val (.ref y)] [(.ref x), (.ref a)]))
  obtain ⟨T31, h31, X31, e31, W31, st31⟩ := putF X30 hx hZ hown (host := "") (Or.inl (wd hw 217 rfl)) Via.refl e30 F_e0_a E_a (Or.inr ⟨(wd hw 218 rfl), rfl, hnm⟩) (wd hw 206 rfl) (ty := (.object "java/lang/Object")) (by decide) rfl rfl (g := (mkF m 9 #[.val (.ref a), .val (.ref x), .val (.ref y)] [(.ref x), (.ref a)])) rfl rfl (hb hby d_j44_m2_9)
  have O0 := O0.wr W31 g_a
  have E_a := E_a.wr W31
  have F_e0_a := F_e0_a.same W31
  have F_e1_a := F_e1_a.other W31 (Or.inr (slot_ne (Or.inr (wd hw 220 rfl)) (Or.inr (wd hw 218 rfl)) (by decide) (t := (.object "java/lang/Object")) (t' := (.object "java/lang/Object")) (by decide) (by decide)))
  have K0 := K0.wr W31 (Or.inl (by simp))
  have N31 := Fr.snoc X31 N30 g_a
  refine go st31 ?_
  show Run p e below _ (T31.setTop (mkF m 12 #[.val (.ref a), .val (.ref x), .val (.ref y)] []))
  refine go (fun _ => XS.aloadN X31.here hx rfl (hb hby d_j44_m2_12) rfl rfl) ?_
  show Run p e below _ (T31.setTop (mkF m 13 #[.val (.ref a), .val (.ref x), .val (.ref y)] [(.ref a)]))
  refine go (fun _ => XS.aloadN X31.here hx rfl (hb hby d_j44_m2_13) rfl rfl) ?_
  show Run p e below _ (T31.setTop (mkF m 14 #[.val (.ref a), .val (.ref x), .val (.ref y)] [(.ref y), (.ref a)]))
  refine callSt X31 hx hZ hown (wd hw 216 rfl) (wd hw 159 rfl) (wd hw 160 rfl) (wd hw 161 rfl) (by decide) e31 (argsL := [(.ref y)]) (rest := [(.ref a)]) (rm_rn l Z a0 hw [] y h31 n0 O0) (W := 1) (by decide) (by decide) (by decide) (by decide) (by rw [hml]; rfl) (lenOf pd_3 rfl) rfl (Nat.le_of_eq rfl) (hb hby d_j44_m2_14) ?_
  intro v32 T32 L32 h32 X32 e32 q32
  obtain ⟨rv, n32, k32⟩ := q32
  replace rv : v32 = some (.ref y) := rv
  subst rv
  have e32 := e32.trans k32
  have N32 := Fr.app N31 n32
  show Run p e below _ (T32.setTop (mkF m 17 #[.val (.ref a), .val (.ref x), .val (.ref y)] [(.ref y), (.ref a)]))
  obtain ⟨T33, h33, X33, e33, W33, st33⟩ := putF X32 hx hZ hown (host := "") (Or.inl (wd hw 219 rfl)) Via.refl e32 F_e1_a E_a (Or.inr ⟨(wd hw 220 rfl), rfl, hnm⟩) (wd hw 206 rfl) (ty := (.object "java/lang/Object")) (by decide) rfl rfl (g := (mkF m 17 #[.val (.ref a), .val (.ref x), .val (.ref y)] [(.ref y), (.ref a)])) rfl rfl (hb hby d_j44_m2_17)
  have O0 := O0.wr W33 g_a
  have E_a := E_a.wr W33
  have F_e0_a := F_e0_a.other W33 (Or.inr (slot_ne (Or.inr (wd hw 218 rfl)) (Or.inr (wd hw 220 rfl)) (by decide) (t := (.object "java/lang/Object")) (t' := (.object "java/lang/Object")) (by decide) (by decide)))
  have F_e1_a := F_e1_a.same W33
  have K0 := K0.wr W33 (Or.inl (by simp))
  have N33 := Fr.snoc X33 N32 g_a
  refine go st33 ?_
  show Run p e below _ (T33.setTop (mkF m 20 #[.val (.ref a), .val (.ref x), .val (.ref y)] []))
  exact endV X33 hx hlk hret (hb hby d_j44_m2_20) (by rw [e33]; exact ⟨rfl, N33, K0, E_a⟩) (by decide) (by decide)
theorem d_j45_m1_0 : decode jdk_45_method_1_code 0 = .ok (.aload_n 0, 1) := by decide +kernel
theorem d_j45_m1_1 : decode jdk_45_method_1_code 1 = .ok (.invokespecial 1, 3) := by decide +kernel
theorem d_j45_m1_4 : decode jdk_45_method_1_code 4 = .ok (.aload_n 0, 1) := by decide +kernel
theorem d_j45_m1_5 : decode jdk_45_method_1_code 5 = .ok (.aload_n 1, 1) := by decide +kernel
theorem d_j45_m1_6 : decode jdk_45_method_1_code 6 = .ok (.putfield 7, 3) := by decide +kernel
theorem d_j45_m1_9 : decode jdk_45_method_1_code 9 = .ok (.aload_n 0, 1) := by decide +kernel
theorem d_j45_m1_10 : decode jdk_45_method_1_code 10 = .ok (.iload_n 2, 1) := by decide +kernel
theorem d_j45_m1_11 : decode jdk_45_method_1_code 11 = .ok (.putfield 13, 3) := by decide +kernel
theorem d_j45_m1_14 : decode jdk_45_method_1_code 14 = .ok (.return_, 1) := by decide +kernel
theorem pn_10 : plainName "java/util/ImmutableCollections$ListN" = true := by first | (simp [plainName, overriddenIn]; done) | decide +kernel
def Q_rm_lN (Z : State) (a x : Addr) (h0 : Heap) (n0 : Nat) (v : Option Value) (h : Heap) (L : List Loc) : Prop := v = none ∧ Fr n0 L ∧ Keep h0 h [a] ∧ Exa Z h a "java/util/ImmutableCollections$ListN" ∧ Fld Z h a "java/util/ImmutableCollections$ListN" "elements" "[Ljava/lang/Object;" (.ref x)
set_option maxRecDepth 65536 in
set_option maxHeartbeats 40000000 in
theorem rm_lN (l : Launch) (Z : State) (a0 : Array Value) (hw : ∀ d ∈ tables_1, d.before a0 Z = true) (ws : List Jvm.Cond) (a x : Addr) (h0 : Heap) (n0 : Nat) (O0 : Old Z n0 h0) (E_a : Exa Z h0 a "java/util/ImmutableCollections$ListN") (F_elements_a : Fld Z h0 a "java/util/ImmutableCollections$ListN" "elements" "[Ljava/lang/Object;" .null) (F_allowNulls_a : Fld Z h0 a "java/util/ImmutableCollections$ListN" "allowNulls" "Z" (.int (0 : Int32))) (g_a : n0 ≤ a) :
    Meets l (⟨"java/util/ImmutableCollections$ListN", "<init>", "([Ljava/lang/Object;Z)V"⟩ : MethodName) jdk_45_method_1_code 3 none ws ({ frames := 4, cells := 0, slots := 0, locals := 48 } : Room) Z #[(.ref a), (.ref x), (.int (0 : Int32))] h0 (Q_rm_lN Z a x h0 n0) 0 0 := by
  refine enter (Ls := #[.val (.ref a), .val (.ref x), .val (.int (0 : Int32))]) (plainFor_of_name pn_10) (fun m => by first | (simp [entryFrame, mkF, argsToLocals, Value.category]; done) | rfl) ?_
  intro p e s m below meth c T0 hx hby hml hown hnm hret hlk hZ X0 e0
  have N0 := Fr.nil n0
  replace hown : s.vm.findClass "java/util/ImmutableCollections$ListN" = some m.cls := hown
  show Run p e below _ (T0.setTop (mkF m 0 #[.val (.ref a), .val (.ref x), .val (.int (0 : Int32))] []))
  have K0 := Keep.refl h0 [a]
  refine go (fun _ => XS.aloadN X0.here hx rfl (hb hby d_j45_m1_0) rfl rfl) ?_
  show Run p e below _ (T0.setTop (mkF m 1 #[.val (.ref a), .val (.ref x), .val (.int (0 : Int32))] [(.ref a)]))
  refine callSp X0 hx hZ rfl hown (wd hw 168 rfl) (wd hw 169 rfl) (wd hw 173 rfl) (wd hw 172 rfl) (by decide) e0 (a := a) (argsL := []) (rest := []) (rm_ail l Z a0 hw [] a h0 n0 O0) (W := 0) (by decide) (by decide) (by decide) (by decide) (by rw [hml]; rfl) (lenOf pd_0 rfl) rfl (Nat.le_of_eq rfl) (hb hby d_j45_m1_1) ?_
  intro v34 T34 L34 h34 X34 e34 q34
  obtain ⟨rfl, n34, k34⟩ := q34
  have e34 := e34.trans k34
  have N34 := Fr.app N0 n34
  show Run p e below _ (T34.setTop (mkF m 4 #[.val (.ref a), .val (.ref x), .val (.int (0 : Int32))] []))
  refine go (fun _ => XS.aloadN X34.here hx rfl (hb hby d_j45_m1_4) rfl rfl) ?_
  show Run p e below _ (T34.setTop (mkF m 5 #[.val (.ref a), .val (.ref x), .val (.int (0 : Int32))] [(.ref a)]))
  refine go (fun _ => XS.aloadN X34.here hx rfl (hb hby d_j45_m1_5) rfl rfl) ?_
  show Run p e below _ (T34.setTop (mkF m 6 #[.val (.ref a), .val (.ref x), .val (.int (0 : Int32))] [(.ref x), (.ref a)]))
  obtain ⟨T35, h35, X35, e35, W35, st35⟩ := putF X34 hx hZ hown (host := "") (Or.inl (wd hw 182 rfl)) Via.refl e34 F_elements_a E_a (Or.inr ⟨(wd hw 183 rfl), rfl, hnm⟩) (wd hw 162 rfl) (ty := (.array (.object "java/lang/Object"))) (by decide) rfl rfl (g := (mkF m 6 #[.val (.ref a), .val (.ref x), .val (.int (0 : Int32))] [(.ref x), (.ref a)])) rfl rfl (hb hby d_j45_m1_6)
  have O0 := O0.wr W35 g_a
  have E_a := E_a.wr W35
  have F_elements_a := F_elements_a.same W35
  have F_allowNulls_a := F_allowNulls_a.other W35 (Or.inr (slot_ne (Or.inr (wd hw 185 rfl)) (Or.inr (wd hw 183 rfl)) (by decide) (t := .boolean) (t' := (.array (.object "java/lang/Object"))) (by decide) (by decide)))
  have K0 := K0.wr W35 (Or.inl (by simp))
  have N35 := Fr.snoc X35 N34 g_a
  refine go st35 ?_
  show Run p e below _ (T35.setTop (mkF m 9 #[.val (.ref a), .val (.ref x), .val (.int (0 : Int32))] []))
  refine go (fun _ => XS.aloadN X35.here hx rfl (hb hby d_j45_m1_9) rfl rfl) ?_
  show Run p e below _ (T35.setTop (mkF m 10 #[.val (.ref a), .val (.ref x), .val (.int (0 : Int32))] [(.ref a)]))
  refine go (fun _ => XS.iloadN X35.here hx rfl (hb hby d_j45_m1_10) rfl) ?_
  show Run p e below _ (T35.setTop (mkF m 11 #[.val (.ref a), .val (.ref x), .val (.int (0 : Int32))] [(.int (0 : Int32)), (.ref a)]))
  obtain ⟨T36, h36, X36, e36, W36, st36⟩ := putFN X35 hx hZ hown (wd hw 184 rfl) Via.refl e35 F_allowNulls_a E_a (Or.inr ⟨(wd hw 185 rfl), rfl, hnm⟩) (wd hw 162 rfl) (ty := .boolean) (v' := (.int (nar .boolean (0 : Int32)))) (by decide) rfl (fits_nar_bool _) (g := (mkF m 11 #[.val (.ref a), .val (.ref x), .val (.int (0 : Int32))] [(.int (0 : Int32)), (.ref a)])) rfl rfl (hb hby d_j45_m1_11)
  have O0 := O0.wr W36 g_a
  have E_a := E_a.wr W36
  have F_elements_a := F_elements_a.other W36 (Or.inr (slot_ne (Or.inr (wd hw 183 rfl)) (Or.inr (wd hw 185 rfl)) (by decide) (t := (.array (.object "java/lang/Object"))) (t' := .boolean) (by decide) (by decide)))
  have F_allowNulls_a := F_allowNulls_a.same W36
  have K0 := K0.wr W36 (Or.inl (by simp))
  have N36 := Fr.snoc X36 N35 g_a
  refine go st36 ?_
  show Run p e below _ (T36.setTop (mkF m 14 #[.val (.ref a), .val (.ref x), .val (.int (0 : Int32))] []))
  exact endV X36 hx hlk hret (hb hby d_j45_m1_14) (by rw [e36]; exact ⟨rfl, N36, K0, E_a, F_elements_a⟩) (by decide) (by decide)
theorem d_j65_m120_0 : decode jdk_65_method_120_code 0 = .ok (.aload_n 2, 1) := by decide +kernel
theorem d_j65_m120_1 : decode jdk_65_method_120_code 1 = .ok (.ldc 110, 2) := by decide +kernel
theorem d_j65_m120_3 : decode jdk_65_method_120_code 3 = .ok (.if_acmp .ne 10, 3) := by decide +kernel
theorem d_j65_m120_6 : decode jdk_65_method_120_code 6 = .ok (.iload_n 1, 1) := by decide +kernel
theorem d_j65_m120_7 : decode jdk_65_method_120_code 7 = .ok (.anewarray 2, 3) := by decide +kernel
theorem d_j65_m120_10 : decode jdk_65_method_120_code 10 = .ok (.goto 14, 3) := by decide +kernel
theorem d_j65_m120_24 : decode jdk_65_method_120_code 24 = .ok (.astore_n 3, 1) := by decide +kernel
theorem d_j65_m120_25 : decode jdk_65_method_120_code 25 = .ok (.aload_n 0, 1) := by decide +kernel
theorem d_j65_m120_26 : decode jdk_65_method_120_code 26 = .ok (.iconst 0, 1) := by decide +kernel
theorem d_j65_m120_27 : decode jdk_65_method_120_code 27 = .ok (.aload_n 3, 1) := by decide +kernel
theorem d_j65_m120_28 : decode jdk_65_method_120_code 28 = .ok (.iconst 0, 1) := by decide +kernel
theorem d_j65_m120_29 : decode jdk_65_method_120_code 29 = .ok (.aload_n 0, 1) := by decide +kernel
theorem d_j65_m120_30 : decode jdk_65_method_120_code 30 = .ok (.arraylength, 1) := by decide +kernel
theorem d_j65_m120_31 : decode jdk_65_method_120_code 31 = .ok (.iload_n 1, 1) := by decide +kernel
theorem d_j65_m120_32 : decode jdk_65_method_120_code 32 = .ok (.invokestatic 304, 3) := by decide +kernel
theorem d_j65_m120_35 : decode jdk_65_method_120_code 35 = .ok (.invokestatic 150, 3) := by decide +kernel
theorem d_j65_m120_38 : decode jdk_65_method_120_code 38 = .ok (.aload_n 3, 1) := by decide +kernel
theorem d_j65_m120_39 : decode jdk_65_method_120_code 39 = .ok (.areturn, 1) := by decide +kernel
theorem pn_11 : plainName "java/util/Arrays" = true := by first | (simp [plainName, overriddenIn]; done) | decide +kernel
def Q_rm_cpa1 (Z : State) (ea x mr : Addr) (ke : ClassId) (h0 : Heap) (n0 : Nat) (v : Option Value) (h : Heap) (L : List Loc) : Prop := ∃ (b : Addr) (k : ClassId), v = some (.ref b) ∧ Fr n0 L ∧ Keep h0 h [] ∧ h0.size ≤ b ∧ n0 ≤ b ∧ Ovr Z k "java/lang/Object" ∧ Arv Z h b k (.object "java/lang/Object") (1 : Int32) [(.ref x)] .null
set_option maxRecDepth 65536 in
set_option maxHeartbeats 40000000 in
theorem rm_cpa1 (l : Launch) (Z : State) (a0 : Array Value) (hw : ∀ d ∈ tables_1, d.before a0 Z = true) (ws : List Jvm.Cond) (ea x mr : Addr) (ke : ClassId) (h0 : Heap) (n0 : Nat) (O0 : Old Z n0 h0) (Mr : Mir Z "[Ljava/lang/Object;" mr) (V_ea : Arv Z h0 ea ke (.object "java/lang/Object") (10 : Int32) [(.ref x), .null, .null, .null, .null, .null, .null, .null, .null, .null] .null) (E_ea : Exa Z h0 ea "[Ljava/lang/Object;") (I_x : Ins Z h0 x "java/lang/Object" true) :
    Meets l (⟨"java/util/Arrays", "copyOf", "([Ljava/lang/Object;ILjava/lang/Class;)[Ljava/lang/Object;"⟩ : MethodName) jdk_65_method_120_code 4 (some (.array (.object "java/lang/Object"))) ws ({ frames := 1, cells := 1, slots := 1, locals := 40 } : Room) Z #[(.ref ea), (.int (1 : Int32)), (.ref mr)] h0 (Q_rm_cpa1 Z ea x mr ke h0 n0) 1 1 := by
  refine enter (Ls := #[.val (.ref ea), .val (.int (1 : Int32)), .val (.ref mr), .unset]) (plainFor_of_name pn_11) (fun m => by first | (simp [entryFrame, mkF, argsToLocals, Value.category]; done) | rfl) ?_
  intro p e s m below meth c T0 hx hby hml hown hnm hret hlk hZ X0 e0
  have N0 := Fr.nil n0
  replace hown : s.vm.findClass "java/util/Arrays" = some m.cls := hown
  show Run p e below _ (T0.setTop (mkF m 0 #[.val (.ref ea), .val (.int (1 : Int32)), .val (.ref mr), .unset] []))
  have K0 := Keep.refl h0 []
  refine go (fun _ => XS.aloadN X0.here hx rfl (hb hby d_j65_m120_0) rfl rfl) ?_
  show Run p e below _ (T0.setTop (mkF m 1 #[.val (.ref ea), .val (.int (1 : Int32)), .val (.ref mr), .unset] [(.ref mr)]))
  obtain ⟨vm37, X37, st37⟩ := X0.ldcMirror hx (own := "java/util/Arrays") hown (mvT hZ (wd hw 142 rfl)) (a := mr) (own_mir hZ Mr) (g := (mkF m 1 #[.val (.ref ea), .val (.int (1 : Int32)), .val (.ref mr), .unset] [(.ref mr)])) rfl (hb hby d_j65_m120_1)
  have e37 : (T0.setVm vm37).heap = h0 := e0
  refine go st37 ?_
  show Run p e below _ ((T0.setVm vm37).setTop (mkF m 3 #[.val (.ref ea), .val (.int (1 : Int32)), .val (.ref mr), .unset] [(.ref mr), (.ref mr)]))
  refine go (fun _ => acmp X37 hx rfl (x := (.ref mr)) (y := (.ref mr)) rfl rfl (pc0 := 3) (pc' := 6) (same := true) rfl (hb hby d_j65_m120_3) rfl (decide_eq_true rfl) (by decide) (by decide)) ?_
  show Run p e below _ ((T0.setVm vm37).setTop (mkF m 6 #[.val (.ref ea), .val (.int (1 : Int32)), .val (.ref mr), .unset] []))
  refine go (fun _ => XS.iloadN X37.here hx rfl (hb hby d_j65_m120_6) rfl) ?_
  show Run p e below _ ((T0.setVm vm37).setTop (mkF m 7 #[.val (.ref ea), .val (.int (1 : Int32)), .val (.ref mr), .unset] [(.int (1 : Int32))]))
  obtain ⟨T38, h38, k38, X38, e38, E38, A38, O38, st38⟩ := newR X37 hx hZ hown (wd hw 143 rfl) (wd hw 111 rfl) e37 (g := (mkF m 7 #[.val (.ref ea), .val (.int (1 : Int32)), .val (.ref mr), .unset] [(.int (1 : Int32))])) rfl (hb hby d_j65_m120_7) rfl (by decide) (cap := 1) (by decide) (by decide) (by decide) (by decide)
  obtain ⟨b38, y38⟩ : ∃ z, z = h0.size := ⟨_, rfl⟩
  rw [← y38] at A38 st38
  have g_b38 : n0 ≤ b38 := y38.symm ▸ old_sz O0
  have sz_b38 : h0.size ≤ b38 := y38.symm ▸ K0.1
  have ne_ea_b38 : ea ≠ b38 := Nat.ne_of_lt (y38.symm ▸ V_ea.lt)
  have O0 := O0.ext E38
  have V_ea := V_ea.ext E38
  have E_ea := E_ea.ext E38
  have I_x := I_x.ext E38
  have K0 := K0.ext E38
  have V_b38 : Arv Z h38 b38 k38 (.object "java/lang/Object") (1 : Int32) [.null] .null := (Arv.new A38 (by decide)).pad (pad_rep [] .null 1)
  refine go st38 ?_
  show Run p e below _ (T38.setTop (mkF m 10 #[.val (.ref ea), .val (.int (1 : Int32)), .val (.ref mr), .unset] [(.ref b38)]))
  refine go (fun _ => XS.goto X38.here hx rfl (pc0 := 10) (pc' := 24) rfl (hb hby d_j65_m120_10) (by decide) (by decide)) ?_
  show Run p e below _ (T38.setTop (mkF m 24 #[.val (.ref ea), .val (.int (1 : Int32)), .val (.ref mr), .unset] [(.ref b38)]))
  refine go (fun _ => XS.astoreN X38.here hx rfl (hb hby d_j65_m120_24) rfl rfl (l' := #[.val (.ref ea), .val (.int (1 : Int32)), .val (.ref mr), .val (.ref b38)]) rfl) ?_
  show Run p e below _ (T38.setTop (mkF m 25 #[.val (.ref ea), .val (.int (1 : Int32)), .val (.ref mr), .val (.ref b38)] []))
  refine go (fun _ => XS.aloadN X38.here hx rfl (hb hby d_j65_m120_25) rfl rfl) ?_
  show Run p e below _ (T38.setTop (mkF m 26 #[.val (.ref ea), .val (.int (1 : Int32)), .val (.ref mr), .val (.ref b38)] [(.ref ea)]))
  refine go (fun _ => XS.iconst X38.here hx rfl (hb hby d_j65_m120_26)) ?_
  show Run p e below _ (T38.setTop (mkF m 27 #[.val (.ref ea), .val (.int (1 : Int32)), .val (.ref mr), .val (.ref b38)] [(.int (0 : Int32)), (.ref ea)]))
  refine go (fun _ => XS.aloadN X38.here hx rfl (hb hby d_j65_m120_27) rfl rfl) ?_
  show Run p e below _ (T38.setTop (mkF m 28 #[.val (.ref ea), .val (.int (1 : Int32)), .val (.ref mr), .val (.ref b38)] [(.ref b38), (.int (0 : Int32)), (.ref ea)]))
  refine go (fun _ => XS.iconst X38.here hx rfl (hb hby d_j65_m120_28)) ?_
  show Run p e below _ (T38.setTop (mkF m 29 #[.val (.ref ea), .val (.int (1 : Int32)), .val (.ref mr), .val (.ref b38)] [(.int (0 : Int32)), (.ref b38), (.int (0 : Int32)), (.ref ea)]))
  refine go (fun _ => XS.aloadN X38.here hx rfl (hb hby d_j65_m120_29) rfl rfl) ?_
  show Run p e below _ (T38.setTop (mkF m 30 #[.val (.ref ea), .val (.int (1 : Int32)), .val (.ref mr), .val (.ref b38)] [(.ref ea), (.int (0 : Int32)), (.ref b38), (.int (0 : Int32)), (.ref ea)]))
  obtain ⟨cl39, Ar39, ak39, as39, an39, ah39, ag39⟩ := id V_ea
  refine go (fun _ => X38.arraylength hx (by rw [e38]; exact Ar39.1) (State.isArrayOf_alike hZ.alike Ar39.2.1) (g := (mkF m 30 #[.val (.ref ea), .val (.int (1 : Int32)), .val (.ref mr), .val (.ref b38)] [(.ref ea), (.int (0 : Int32)), (.ref b38), (.int (0 : Int32)), (.ref ea)])) rfl rfl (hb hby d_j65_m120_30) _) ?_
  rw [len_of as39 an39]
  show Run p e below _ (T38.setTop (mkF m 31 #[.val (.ref ea), .val (.int (1 : Int32)), .val (.ref mr), .val (.ref b38)] [(.int (10 : Int32)), (.int (0 : Int32)), (.ref b38), (.int (0 : Int32)), (.ref ea)]))
  refine go (fun _ => XS.iloadN X38.here hx rfl (hb hby d_j65_m120_31) rfl) ?_
  show Run p e below _ (T38.setTop (mkF m 32 #[.val (.ref ea), .val (.int (1 : Int32)), .val (.ref mr), .val (.ref b38)] [(.int (1 : Int32)), (.int (10 : Int32)), (.int (0 : Int32)), (.ref b38), (.int (0 : Int32)), (.ref ea)]))
  refine callSt X38 hx hZ hown (wd hw 144 rfl) (wd hw 145 rfl) (wd hw 108 rfl) (wd hw 146 rfl) (by decide) e38 (argsL := [(.int (10 : Int32)), (.int (1 : Int32))]) (rest := [(.int (0 : Int32)), (.ref b38), (.int (0 : Int32)), (.ref ea)]) (rm_min l Z a0 hw [] (10 : Int32) (1 : Int32) h38 n0 O0) (W := 4) (by decide) (by decide) (by decide) (by decide) (by rw [hml]; rfl) (lenOf pd_1 rfl) rfl (Nat.le_of_eq rfl) (hb hby d_j65_m120_32) ?_
  intro v40 T40 L40 h40 X40 e40 q40
  obtain ⟨rv, n40, k40⟩ := q40
  replace rv : v40 = some (.int (1 : Int32)) := rv
  subst rv
  have e40 := e40.trans k40
  have N40 := Fr.app N0 n40
  show Run p e below _ (T40.setTop (mkF m 35 #[.val (.ref ea), .val (.int (1 : Int32)), .val (.ref mr), .val (.ref b38)] [(.int (1 : Int32)), (.int (0 : Int32)), (.ref b38), (.int (0 : Int32)), (.ref ea)]))
  obtain ⟨cb41, Ab41, qb41, -⟩ := id V_b38
  have so41 := Sto.ofV Ab41 qb41 O38 I_x
  have lt42_ea := V_ea.lt
  have lt42_b38 := V_b38.lt
  obtain ⟨T41, h41, L41, X41, e41, N41, K41, V_b38, st41⟩ := cpA X40 hx hZ hown (wd hw 147 rfl) (wd hw 150 rfl) (wd hw 148 rfl) (wd hw 149 rfl) e40 V_ea V_b38 (Or.inr ⟨rfl, rfl, ⟨so41, trivial⟩⟩) (sp := 0) (dp := 0) (nn := (1 : Int32)) (by decide) (by decide) (by decide) (by decide) (by decide) (us := [(.ref x)]) rfl (by decide) N40 g_b38 (g := (mkF m 35 #[.val (.ref ea), .val (.int (1 : Int32)), .val (.ref mr), .val (.ref b38)] [(.int (1 : Int32)), (.int (0 : Int32)), (.ref b38), (.int (0 : Int32)), (.ref ea)])) rfl (by rw [hml]; rfl) rfl (hb hby d_j65_m120_35) (by decide) (W := 0) (Nat.le_of_eq rfl) (by decide)
  have O0 := O0.keep K41 (allS g_b38 all0)
  have V_ea := V_ea.keep K41 (ninS ne_ea_b38 nin0)
  have E_ea := E_ea.keep K41
  have I_x := own_insK I_x K41
  have K0 := K0.trans K41 (allS (Or.inr sz_b38) all0)
  refine go st41 ?_
  show Run p e below _ (T41.setTop (mkF m 38 #[.val (.ref ea), .val (.int (1 : Int32)), .val (.ref mr), .val (.ref b38)] []))
  refine go (fun _ => XS.aloadN X41.here hx rfl (hb hby d_j65_m120_38) rfl rfl) ?_
  show Run p e below _ (T41.setTop (mkF m 39 #[.val (.ref ea), .val (.int (1 : Int32)), .val (.ref mr), .val (.ref b38)] [(.ref b38)]))
  exact endA X41 hx hlk (w := (.ref b38)) hret rfl rfl (hb hby d_j65_m120_39) (by rw [e41]; exact ⟨b38, _, rfl, N41, K0, sz_b38, g_b38, O38, V_b38⟩) (by decide) (by decide)
theorem d_j65_m119_0 : decode jdk_65_method_119_code 0 = .ok (.aload_n 0, 1) := by decide +kernel
theorem d_j65_m119_1 : decode jdk_65_method_119_code 1 = .ok (.iload_n 1, 1) := by decide +kernel
theorem d_j65_m119_2 : decode jdk_65_method_119_code 2 = .ok (.aload_n 0, 1) := by decide +kernel
theorem d_j65_m119_3 : decode jdk_65_method_119_code 3 = .ok (.invokevirtual 86, 3) := by decide +kernel
theorem d_j65_m119_6 : decode jdk_65_method_119_code 6 = .ok (.invokestatic 300, 3) := by decide +kernel
theorem pd_4 : parseMethodDescriptor "([Ljava/lang/Object;ILjava/lang/Class;)[Ljava/lang/Object;" = some ⟨[(.array (.object "java/lang/Object")), .int, (.object "java/lang/Class")], some (.array (.object "java/lang/Object"))⟩ := by decide +kernel
theorem d_j65_m119_9 : decode jdk_65_method_119_code 9 = .ok (.areturn, 1) := by decide +kernel
def Q_rm_cpb1 (Z : State) (ea x mr : Addr) (ke : ClassId) (h0 : Heap) (n0 : Nat) (v : Option Value) (h : Heap) (L : List Loc) : Prop := ∃ (b : Addr) (k : ClassId), v = some (.ref b) ∧ Fr n0 L ∧ Keep h0 h [] ∧ h0.size ≤ b ∧ n0 ≤ b ∧ Ovr Z k "java/lang/Object" ∧ Arv Z h b k (.object "java/lang/Object") (1 : Int32) [(.ref x)] .null
set_option maxRecDepth 65536 in
set_option maxHeartbeats 40000000 in
theorem rm_cpb1 (l : Launch) (Z : State) (a0 : Array Value) (hw : ∀ d ∈ tables_1, d.before a0 Z = true) (ws : List Jvm.Cond) (ea x mr : Addr) (ke : ClassId) (h0 : Heap) (n0 : Nat) (O0 : Old Z n0 h0) (Mr : Mir Z "[Ljava/lang/Object;" mr) (V_ea : Arv Z h0 ea ke (.object "java/lang/Object") (10 : Int32) [(.ref x), .null, .null, .null, .null, .null, .null, .null, .null, .null] .null) (E_ea : Exa Z h0 ea "[Ljava/lang/Object;") (I_x : Ins Z h0 x "java/lang/Object" true) :
    Meets l (⟨"java/util/Arrays", "copyOf", "([Ljava/lang/Object;I)[Ljava/lang/Object;"⟩ : MethodName) jdk_65_method_119_code 2 (some (.array (.object "java/lang/Object"))) ws ({ frames := 2, cells := 1, slots := 1, locals := 55 } : Room) Z #[(.ref ea), (.int (1 : Int32))] h0 (Q_rm_cpb1 Z ea x mr ke h0 n0) 1 1 := by
  refine enter (Ls := #[.val (.ref ea), .val (.int (1 : Int32))]) (plainFor_of_name pn_11) (fun m => by first | (simp [entryFrame, mkF, argsToLocals, Value.category]; done) | rfl) ?_
  intro p e s m below meth c T0 hx hby hml hown hnm hret hlk hZ X0 e0
  have N0 := Fr.nil n0
  replace hown : s.vm.findClass "java/util/Arrays" = some m.cls := hown
  show Run p e below _ (T0.setTop (mkF m 0 #[.val (.ref ea), .val (.int (1 : Int32))] []))
  have K0 := Keep.refl h0 []
  refine go (fun _ => XS.aloadN X0.here hx rfl (hb hby d_j65_m119_0) rfl rfl) ?_
  show Run p e below _ (T0.setTop (mkF m 1 #[.val (.ref ea), .val (.int (1 : Int32))] [(.ref ea)]))
  refine go (fun _ => XS.iloadN X0.here hx rfl (hb hby d_j65_m119_1) rfl) ?_
  show Run p e below _ (T0.setTop (mkF m 2 #[.val (.ref ea), .val (.int (1 : Int32))] [(.int (1 : Int32)), (.ref ea)]))
  refine go (fun _ => XS.aloadN X0.here hx rfl (hb hby d_j65_m119_2) rfl rfl) ?_
  show Run p e below _ (T0.setTop (mkF m 3 #[.val (.ref ea), .val (.int (1 : Int32))] [(.ref ea), (.int (1 : Int32)), (.ref ea)]))
  obtain ⟨T43, X43, e43, st43⟩ := gcls X0 hx hZ hown (wd hw 133 rfl) (wd hw 134 rfl) (wd hw 45 rfl) (wd hw 136 rfl) (wd hw 135 rfl) (wd hw 137 rfl) e0 E_ea Mr (g := (mkF m 3 #[.val (.ref ea), .val (.int (1 : Int32))] [(.ref ea), (.int (1 : Int32)), (.ref ea)])) rfl (by rw [hml]; rfl) rfl (hb hby d_j65_m119_3) (by decide) (W := 2) (Nat.le_of_eq rfl) (by decide)
  refine go st43 ?_
  show Run p e below _ (T43.setTop (mkF m 6 #[.val (.ref ea), .val (.int (1 : Int32))] [(.ref mr), (.int (1 : Int32)), (.ref ea)]))
  refine callSt X43 hx hZ hown (wd hw 139 rfl) (wd hw 140 rfl) (wd hw 131 rfl) (wd hw 141 rfl) (by decide) e43 (argsL := [(.ref ea), (.int (1 : Int32)), (.ref mr)]) (rest := []) (rm_cpa1 l Z a0 hw [] ea x mr ke h0 n0 O0 Mr V_ea E_ea I_x) (W := 0) (by decide) (by decide) (by decide) (by decide) (by rw [hml]; rfl) (lenOf pd_4 rfl) rfl (Nat.le_of_eq rfl) (hb hby d_j65_m119_6) ?_
  intro v44 T44 L44 h44 X44 e44 q44
  have lt45_ea := V_ea.lt
  obtain ⟨b44, k44, rfl, n44, K44, sb44, g_b44, O44, V_b44⟩ := q44
  have szq44 := K0.1
  have ne_ea_b44 : ea ≠ b44 := Nat.ne_of_lt (Nat.lt_of_lt_of_le lt45_ea sb44)
  have O0 := O0.keep K44 all0
  have V_ea := V_ea.keep K44 nin0
  have E_ea := E_ea.keep K44
  have I_x := own_insK I_x K44
  have K0 := K0.trans K44 all0
  have sz_b44 : h0.size ≤ b44 := Nat.le_trans szq44 sb44
  have N44 := Fr.app N0 n44
  show Run p e below _ (T44.setTop (mkF m 9 #[.val (.ref ea), .val (.int (1 : Int32))] [(.ref b44)]))
  exact endA X44 hx hlk (w := (.ref b44)) hret rfl rfl (hb hby d_j65_m119_9) (by rw [e44]; exact ⟨b44, _, rfl, N44, K0, sz_b44, g_b44, O44, V_b44⟩) (by decide) (by decide)
theorem d_j38_m16_0 : decode jdk_38_method_16_code 0 = .ok (.aload_n 0, 1) := by decide +kernel
theorem d_j38_m16_1 : decode jdk_38_method_16_code 1 = .ok (.getfield 9, 3) := by decide +kernel
theorem d_j38_m16_4 : decode jdk_38_method_16_code 4 = .ok (.aload_n 0, 1) := by decide +kernel
theorem d_j38_m16_5 : decode jdk_38_method_16_code 5 = .ok (.getfield 48, 3) := by decide +kernel
theorem d_j38_m16_8 : decode jdk_38_method_16_code 8 = .ok (.invokestatic 66, 3) := by decide +kernel
theorem pd_5 : parseMethodDescriptor "([Ljava/lang/Object;I)[Ljava/lang/Object;" = some ⟨[(.array (.object "java/lang/Object")), .int], some (.array (.object "java/lang/Object"))⟩ := by decide +kernel
theorem d_j38_m16_11 : decode jdk_38_method_16_code 11 = .ok (.areturn, 1) := by decide +kernel
def Q_rm_ta1 (Z : State) (a ea x mr : Addr) (ke : ClassId) (h0 : Heap) (n0 : Nat) (v : Option Value) (h : Heap) (L : List Loc) : Prop := ∃ (b : Addr) (k : ClassId), v = some (.ref b) ∧ Fr n0 L ∧ Keep h0 h [] ∧ h0.size ≤ b ∧ n0 ≤ b ∧ Ovr Z k "java/lang/Object" ∧ Arv Z h b k (.object "java/lang/Object") (1 : Int32) [(.ref x)] .null
set_option maxRecDepth 65536 in
set_option maxHeartbeats 40000000 in
theorem rm_ta1 (l : Launch) (Z : State) (a0 : Array Value) (hw : ∀ d ∈ tables_1, d.before a0 Z = true) (ws : List Jvm.Cond) (a ea x mr : Addr) (ke : ClassId) (h0 : Heap) (n0 : Nat) (O0 : Old Z n0 h0) (Mr : Mir Z "[Ljava/lang/Object;" mr) (V_ea : Arv Z h0 ea ke (.object "java/lang/Object") (10 : Int32) [(.ref x), .null, .null, .null, .null, .null, .null, .null, .null, .null] .null) (E_ea : Exa Z h0 ea "[Ljava/lang/Object;") (I_x : Ins Z h0 x "java/lang/Object" true) (F_elementData_a : Fld Z h0 a "java/util/ArrayList" "elementData" "[Ljava/lang/Object;" (.ref ea)) (F_size_a : Fld Z h0 a "java/util/ArrayList" "size" "I" (.int (1 : Int32))) :
    Meets l (⟨"java/util/ArrayList", "toArray", "()[Ljava/lang/Object;"⟩ : MethodName) jdk_38_method_16_code 1 (some (.array (.object "java/lang/Object"))) ws ({ frames := 3, cells := 1, slots := 1, locals := 68 } : Room) Z #[(.ref a)] h0 (Q_rm_ta1 Z a ea x mr ke h0 n0) 1 1 := by
  refine enter (Ls := #[.val (.ref a)]) (plainFor_of_name pn_2) (fun m => by first | (simp [entryFrame, mkF, argsToLocals, Value.category]; done) | rfl) ?_
  intro p e s m below meth c T0 hx hby hml hown hnm hret hlk hZ X0 e0
  have N0 := Fr.nil n0
  replace hown : s.vm.findClass "java/util/ArrayList" = some m.cls := hown
  show Run p e below _ (T0.setTop (mkF m 0 #[.val (.ref a)] []))
  have K0 := Keep.refl h0 []
  refine go (fun _ => XS.aloadN X0.here hx rfl (hb hby d_j38_m16_0) rfl rfl) ?_
  show Run p e below _ (T0.setTop (mkF m 1 #[.val (.ref a)] [(.ref a)]))
  obtain ⟨T46, X46, e46, st46⟩ := getF X0 hx hZ hown (host := "") (Or.inl (wd hw 27 rfl)) Via.refl e0 F_elementData_a (g := (mkF m 1 #[.val (.ref a)] [(.ref a)])) rfl rfl (hb hby d_j38_m16_1)
  refine go st46 ?_
  show Run p e below _ (T46.setTop (mkF m 4 #[.val (.ref a)] [(.ref ea)]))
  refine go (fun _ => XS.aloadN X46.here hx rfl (hb hby d_j38_m16_4) rfl rfl) ?_
  show Run p e below _ (T46.setTop (mkF m 5 #[.val (.ref a)] [(.ref a), (.ref ea)]))
  obtain ⟨T47, X47, e47, st47⟩ := getF X46 hx hZ hown (host := "") (Or.inl (wd hw 56 rfl)) Via.refl e46 F_size_a (g := (mkF m 5 #[.val (.ref a)] [(.ref a), (.ref ea)])) rfl rfl (hb hby d_j38_m16_5)
  refine go st47 ?_
  show Run p e below _ (T47.setTop (mkF m 8 #[.val (.ref a)] [(.int (1 : Int32)), (.ref ea)]))
  refine callSt X47 hx hZ hown (wd hw 129 rfl) (wd hw 130 rfl) (wd hw 131 rfl) (wd hw 132 rfl) (by decide) e47 (argsL := [(.ref ea), (.int (1 : Int32))]) (rest := []) (rm_cpb1 l Z a0 hw [] ea x mr ke h0 n0 O0 Mr V_ea E_ea I_x) (W := 0) (by decide) (by decide) (by decide) (by decide) (by rw [hml]; rfl) (lenOf pd_5 rfl) rfl (Nat.le_of_eq rfl) (hb hby d_j38_m16_8) ?_
  intro v48 T48 L48 h48 X48 e48 q48
  have lt49_ea := V_ea.lt
  obtain ⟨b48, k48, rfl, n48, K48, sb48, g_b48, O48, V_b48⟩ := q48
  have szq48 := K0.1
  have ne_ea_b48 : ea ≠ b48 := Nat.ne_of_lt (Nat.lt_of_lt_of_le lt49_ea sb48)
  have O0 := O0.keep K48 all0
  have V_ea := V_ea.keep K48 nin0
  have E_ea := E_ea.keep K48
  have I_x := own_insK I_x K48
  have K0 := K0.trans K48 all0
  have F_elementData_a := F_elementData_a.keep K48 nin0
  have F_size_a := F_size_a.keep K48 nin0
  have sz_b48 : h0.size ≤ b48 := Nat.le_trans szq48 sb48
  have N48 := Fr.app N0 n48
  show Run p e below _ (T48.setTop (mkF m 11 #[.val (.ref a)] [(.ref b48)]))
  exact endA X48 hx hlk (w := (.ref b48)) hret rfl rfl (hb hby d_j38_m16_11) (by rw [e48]; exact ⟨b48, _, rfl, N48, K0, sz_b48, g_b48, O48, V_b48⟩) (by decide) (by decide)
def Q_rm_cpa2 (Z : State) (ea x mr : Addr) (ke : ClassId) (h0 : Heap) (n0 : Nat) (v : Option Value) (h : Heap) (L : List Loc) : Prop := ∃ (b : Addr) (k : ClassId), v = some (.ref b) ∧ Fr n0 L ∧ Keep h0 h [] ∧ h0.size ≤ b ∧ n0 ≤ b ∧ Ovr Z k "java/lang/Object" ∧ Arv Z h b k (.object "java/lang/Object") (2 : Int32) [(.ref x), (.ref x)] .null
set_option maxRecDepth 65536 in
set_option maxHeartbeats 40000000 in
theorem rm_cpa2 (l : Launch) (Z : State) (a0 : Array Value) (hw : ∀ d ∈ tables_1, d.before a0 Z = true) (ws : List Jvm.Cond) (ea x mr : Addr) (ke : ClassId) (h0 : Heap) (n0 : Nat) (O0 : Old Z n0 h0) (Mr : Mir Z "[Ljava/lang/Object;" mr) (V_ea : Arv Z h0 ea ke (.object "java/lang/Object") (10 : Int32) [(.ref x), (.ref x), .null, .null, .null, .null, .null, .null, .null, .null] .null) (E_ea : Exa Z h0 ea "[Ljava/lang/Object;") (I_x : Ins Z h0 x "java/lang/Object" true) :
    Meets l (⟨"java/util/Arrays", "copyOf", "([Ljava/lang/Object;ILjava/lang/Class;)[Ljava/lang/Object;"⟩ : MethodName) jdk_65_method_120_code 4 (some (.array (.object "java/lang/Object"))) ws ({ frames := 1, cells := 1, slots := 2, locals := 40 } : Room) Z #[(.ref ea), (.int (2 : Int32)), (.ref mr)] h0 (Q_rm_cpa2 Z ea x mr ke h0 n0) 1 2 := by
  refine enter (Ls := #[.val (.ref ea), .val (.int (2 : Int32)), .val (.ref mr), .unset]) (plainFor_of_name pn_11) (fun m => by first | (simp [entryFrame, mkF, argsToLocals, Value.category]; done) | rfl) ?_
  intro p e s m below meth c T0 hx hby hml hown hnm hret hlk hZ X0 e0
  have N0 := Fr.nil n0
  replace hown : s.vm.findClass "java/util/Arrays" = some m.cls := hown
  show Run p e below _ (T0.setTop (mkF m 0 #[.val (.ref ea), .val (.int (2 : Int32)), .val (.ref mr), .unset] []))
  have K0 := Keep.refl h0 []
  refine go (fun _ => XS.aloadN X0.here hx rfl (hb hby d_j65_m120_0) rfl rfl) ?_
  show Run p e below _ (T0.setTop (mkF m 1 #[.val (.ref ea), .val (.int (2 : Int32)), .val (.ref mr), .unset] [(.ref mr)]))
  obtain ⟨vm50, X50, st50⟩ := X0.ldcMirror hx (own := "java/util/Arrays") hown (mvT hZ (wd hw 142 rfl)) (a := mr) (own_mir hZ Mr) (g := (mkF m 1 #[.val (.ref ea), .val (.int (2 : Int32)), .val (.ref mr), .unset] [(.ref mr)])) rfl (hb hby d_j65_m120_1)
  have e50 : (T0.setVm vm50).heap = h0 := e0
  refine go st50 ?_
  show Run p e below _ ((T0.setVm vm50).setTop (mkF m 3 #[.val (.ref ea), .val (.int (2 : Int32)), .val (.ref mr), .unset] [(.ref mr), (.ref mr)]))
  refine go (fun _ => acmp X50 hx rfl (x := (.ref mr)) (y := (.ref mr)) rfl rfl (pc0 := 3) (pc' := 6) (same := true) rfl (hb hby d_j65_m120_3) rfl (decide_eq_true rfl) (by decide) (by decide)) ?_
  show Run p e below _ ((T0.setVm vm50).setTop (mkF m 6 #[.val (.ref ea), .val (.int (2 : Int32)), .val (.ref mr), .unset] []))
  refine go (fun _ => XS.iloadN X50.here hx rfl (hb hby d_j65_m120_6) rfl) ?_
  show Run p e below _ ((T0.setVm vm50).setTop (mkF m 7 #[.val (.ref ea), .val (.int (2 : Int32)), .val (.ref mr), .unset] [(.int (2 : Int32))]))
  obtain ⟨T51, h51, k51, X51, e51, E51, A51, O51, st51⟩ := newR X50 hx hZ hown (wd hw 143 rfl) (wd hw 111 rfl) e50 (g := (mkF m 7 #[.val (.ref ea), .val (.int (2 : Int32)), .val (.ref mr), .unset] [(.int (2 : Int32))])) rfl (hb hby d_j65_m120_7) rfl (by decide) (cap := 2) (by decide) (by decide) (by decide) (by decide)
  obtain ⟨b51, y51⟩ : ∃ z, z = h0.size := ⟨_, rfl⟩
  rw [← y51] at A51 st51
  have g_b51 : n0 ≤ b51 := y51.symm ▸ old_sz O0
  have sz_b51 : h0.size ≤ b51 := y51.symm ▸ K0.1
  have ne_ea_b51 : ea ≠ b51 := Nat.ne_of_lt (y51.symm ▸ V_ea.lt)
  have O0 := O0.ext E51
  have V_ea := V_ea.ext E51
  have E_ea := E_ea.ext E51
  have I_x := I_x.ext E51
  have K0 := K0.ext E51
  have V_b51 : Arv Z h51 b51 k51 (.object "java/lang/Object") (2 : Int32) [.null, .null] .null := (Arv.new A51 (by decide)).pad (pad_rep [] .null 2)
  refine go st51 ?_
  show Run p e below _ (T51.setTop (mkF m 10 #[.val (.ref ea), .val (.int (2 : Int32)), .val (.ref mr), .unset] [(.ref b51)]))
  refine go (fun _ => XS.goto X51.here hx rfl (pc0 := 10) (pc' := 24) rfl (hb hby d_j65_m120_10) (by decide) (by decide)) ?_
  show Run p e below _ (T51.setTop (mkF m 24 #[.val (.ref ea), .val (.int (2 : Int32)), .val (.ref mr), .unset] [(.ref b51)]))
  refine go (fun _ => XS.astoreN X51.here hx rfl (hb hby d_j65_m120_24) rfl rfl (l' := #[.val (.ref ea), .val (.int (2 : Int32)), .val (.ref mr), .val (.ref b51)]) rfl) ?_
  show Run p e below _ (T51.setTop (mkF m 25 #[.val (.ref ea), .val (.int (2 : Int32)), .val (.ref mr), .val (.ref b51)] []))
  refine go (fun _ => XS.aloadN X51.here hx rfl (hb hby d_j65_m120_25) rfl rfl) ?_
  show Run p e below _ (T51.setTop (mkF m 26 #[.val (.ref ea), .val (.int (2 : Int32)), .val (.ref mr), .val (.ref b51)] [(.ref ea)]))
  refine go (fun _ => XS.iconst X51.here hx rfl (hb hby d_j65_m120_26)) ?_
  show Run p e below _ (T51.setTop (mkF m 27 #[.val (.ref ea), .val (.int (2 : Int32)), .val (.ref mr), .val (.ref b51)] [(.int (0 : Int32)), (.ref ea)]))
  refine go (fun _ => XS.aloadN X51.here hx rfl (hb hby d_j65_m120_27) rfl rfl) ?_
  show Run p e below _ (T51.setTop (mkF m 28 #[.val (.ref ea), .val (.int (2 : Int32)), .val (.ref mr), .val (.ref b51)] [(.ref b51), (.int (0 : Int32)), (.ref ea)]))
  refine go (fun _ => XS.iconst X51.here hx rfl (hb hby d_j65_m120_28)) ?_
  show Run p e below _ (T51.setTop (mkF m 29 #[.val (.ref ea), .val (.int (2 : Int32)), .val (.ref mr), .val (.ref b51)] [(.int (0 : Int32)), (.ref b51), (.int (0 : Int32)), (.ref ea)]))
  refine go (fun _ => XS.aloadN X51.here hx rfl (hb hby d_j65_m120_29) rfl rfl) ?_
  show Run p e below _ (T51.setTop (mkF m 30 #[.val (.ref ea), .val (.int (2 : Int32)), .val (.ref mr), .val (.ref b51)] [(.ref ea), (.int (0 : Int32)), (.ref b51), (.int (0 : Int32)), (.ref ea)]))
  obtain ⟨cl52, Ar52, ak52, as52, an52, ah52, ag52⟩ := id V_ea
  refine go (fun _ => X51.arraylength hx (by rw [e51]; exact Ar52.1) (State.isArrayOf_alike hZ.alike Ar52.2.1) (g := (mkF m 30 #[.val (.ref ea), .val (.int (2 : Int32)), .val (.ref mr), .val (.ref b51)] [(.ref ea), (.int (0 : Int32)), (.ref b51), (.int (0 : Int32)), (.ref ea)])) rfl rfl (hb hby d_j65_m120_30) _) ?_
  rw [len_of as52 an52]
  show Run p e below _ (T51.setTop (mkF m 31 #[.val (.ref ea), .val (.int (2 : Int32)), .val (.ref mr), .val (.ref b51)] [(.int (10 : Int32)), (.int (0 : Int32)), (.ref b51), (.int (0 : Int32)), (.ref ea)]))
  refine go (fun _ => XS.iloadN X51.here hx rfl (hb hby d_j65_m120_31) rfl) ?_
  show Run p e below _ (T51.setTop (mkF m 32 #[.val (.ref ea), .val (.int (2 : Int32)), .val (.ref mr), .val (.ref b51)] [(.int (2 : Int32)), (.int (10 : Int32)), (.int (0 : Int32)), (.ref b51), (.int (0 : Int32)), (.ref ea)]))
  refine callSt X51 hx hZ hown (wd hw 144 rfl) (wd hw 145 rfl) (wd hw 108 rfl) (wd hw 146 rfl) (by decide) e51 (argsL := [(.int (10 : Int32)), (.int (2 : Int32))]) (rest := [(.int (0 : Int32)), (.ref b51), (.int (0 : Int32)), (.ref ea)]) (rm_min l Z a0 hw [] (10 : Int32) (2 : Int32) h51 n0 O0) (W := 4) (by decide) (by decide) (by decide) (by decide) (by rw [hml]; rfl) (lenOf pd_1 rfl) rfl (Nat.le_of_eq rfl) (hb hby d_j65_m120_32) ?_
  intro v53 T53 L53 h53 X53 e53 q53
  obtain ⟨rv, n53, k53⟩ := q53
  replace rv : v53 = some (.int (2 : Int32)) := rv
  subst rv
  have e53 := e53.trans k53
  have N53 := Fr.app N0 n53
  show Run p e below _ (T53.setTop (mkF m 35 #[.val (.ref ea), .val (.int (2 : Int32)), .val (.ref mr), .val (.ref b51)] [(.int (2 : Int32)), (.int (0 : Int32)), (.ref b51), (.int (0 : Int32)), (.ref ea)]))
  obtain ⟨cb54, Ab54, qb54, -⟩ := id V_b51
  have so54 := Sto.ofV Ab54 qb54 O51 I_x
  have lt55_ea := V_ea.lt
  have lt55_b51 := V_b51.lt
  obtain ⟨T54, h54, L54, X54, e54, N54, K54, V_b51, st54⟩ := cpA X53 hx hZ hown (wd hw 147 rfl) (wd hw 150 rfl) (wd hw 148 rfl) (wd hw 149 rfl) e53 V_ea V_b51 (Or.inr ⟨rfl, rfl, ⟨so54, so54, trivial⟩⟩) (sp := 0) (dp := 0) (nn := (2 : Int32)) (by decide) (by decide) (by decide) (by decide) (by decide) (us := [(.ref x), (.ref x)]) rfl (by decide) N53 g_b51 (g := (mkF m 35 #[.val (.ref ea), .val (.int (2 : Int32)), .val (.ref mr), .val (.ref b51)] [(.int (2 : Int32)), (.int (0 : Int32)), (.ref b51), (.int (0 : Int32)), (.ref ea)])) rfl (by rw [hml]; rfl) rfl (hb hby d_j65_m120_35) (by decide) (W := 0) (Nat.le_of_eq rfl) (by decide)
  have O0 := O0.keep K54 (allS g_b51 all0)
  have V_ea := V_ea.keep K54 (ninS ne_ea_b51 nin0)
  have E_ea := E_ea.keep K54
  have I_x := own_insK I_x K54
  have K0 := K0.trans K54 (allS (Or.inr sz_b51) all0)
  refine go st54 ?_
  show Run p e below _ (T54.setTop (mkF m 38 #[.val (.ref ea), .val (.int (2 : Int32)), .val (.ref mr), .val (.ref b51)] []))
  refine go (fun _ => XS.aloadN X54.here hx rfl (hb hby d_j65_m120_38) rfl rfl) ?_
  show Run p e below _ (T54.setTop (mkF m 39 #[.val (.ref ea), .val (.int (2 : Int32)), .val (.ref mr), .val (.ref b51)] [(.ref b51)]))
  exact endA X54 hx hlk (w := (.ref b51)) hret rfl rfl (hb hby d_j65_m120_39) (by rw [e54]; exact ⟨b51, _, rfl, N54, K0, sz_b51, g_b51, O51, V_b51⟩) (by decide) (by decide)
def Q_rm_cpb2 (Z : State) (ea x mr : Addr) (ke : ClassId) (h0 : Heap) (n0 : Nat) (v : Option Value) (h : Heap) (L : List Loc) : Prop := ∃ (b : Addr) (k : ClassId), v = some (.ref b) ∧ Fr n0 L ∧ Keep h0 h [] ∧ h0.size ≤ b ∧ n0 ≤ b ∧ Ovr Z k "java/lang/Object" ∧ Arv Z h b k (.object "java/lang/Object") (2 : Int32) [(.ref x), (.ref x)] .null
set_option maxRecDepth 65536 in
set_option maxHeartbeats 40000000 in
theorem rm_cpb2 (l : Launch) (Z : State) (a0 : Array Value) (hw : ∀ d ∈ tables_1, d.before a0 Z = true) (ws : List Jvm.Cond) (ea x mr : Addr) (ke : ClassId) (h0 : Heap) (n0 : Nat) (O0 : Old Z n0 h0) (Mr : Mir Z "[Ljava/lang/Object;" mr) (V_ea : Arv Z h0 ea ke (.object "java/lang/Object") (10 : Int32) [(.ref x), (.ref x), .null, .null, .null, .null, .null, .null, .null, .null] .null) (E_ea : Exa Z h0 ea "[Ljava/lang/Object;") (I_x : Ins Z h0 x "java/lang/Object" true) :
    Meets l (⟨"java/util/Arrays", "copyOf", "([Ljava/lang/Object;I)[Ljava/lang/Object;"⟩ : MethodName) jdk_65_method_119_code 2 (some (.array (.object "java/lang/Object"))) ws ({ frames := 2, cells := 1, slots := 2, locals := 55 } : Room) Z #[(.ref ea), (.int (2 : Int32))] h0 (Q_rm_cpb2 Z ea x mr ke h0 n0) 1 2 := by
  refine enter (Ls := #[.val (.ref ea), .val (.int (2 : Int32))]) (plainFor_of_name pn_11) (fun m => by first | (simp [entryFrame, mkF, argsToLocals, Value.category]; done) | rfl) ?_
  intro p e s m below meth c T0 hx hby hml hown hnm hret hlk hZ X0 e0
  have N0 := Fr.nil n0
  replace hown : s.vm.findClass "java/util/Arrays" = some m.cls := hown
  show Run p e below _ (T0.setTop (mkF m 0 #[.val (.ref ea), .val (.int (2 : Int32))] []))
  have K0 := Keep.refl h0 []
  refine go (fun _ => XS.aloadN X0.here hx rfl (hb hby d_j65_m119_0) rfl rfl) ?_
  show Run p e below _ (T0.setTop (mkF m 1 #[.val (.ref ea), .val (.int (2 : Int32))] [(.ref ea)]))
  refine go (fun _ => XS.iloadN X0.here hx rfl (hb hby d_j65_m119_1) rfl) ?_
  show Run p e below _ (T0.setTop (mkF m 2 #[.val (.ref ea), .val (.int (2 : Int32))] [(.int (2 : Int32)), (.ref ea)]))
  refine go (fun _ => XS.aloadN X0.here hx rfl (hb hby d_j65_m119_2) rfl rfl) ?_
  show Run p e below _ (T0.setTop (mkF m 3 #[.val (.ref ea), .val (.int (2 : Int32))] [(.ref ea), (.int (2 : Int32)), (.ref ea)]))
  obtain ⟨T56, X56, e56, st56⟩ := gcls X0 hx hZ hown (wd hw 133 rfl) (wd hw 134 rfl) (wd hw 45 rfl) (wd hw 136 rfl) (wd hw 135 rfl) (wd hw 137 rfl) e0 E_ea Mr (g := (mkF m 3 #[.val (.ref ea), .val (.int (2 : Int32))] [(.ref ea), (.int (2 : Int32)), (.ref ea)])) rfl (by rw [hml]; rfl) rfl (hb hby d_j65_m119_3) (by decide) (W := 2) (Nat.le_of_eq rfl) (by decide)
  refine go st56 ?_
  show Run p e below _ (T56.setTop (mkF m 6 #[.val (.ref ea), .val (.int (2 : Int32))] [(.ref mr), (.int (2 : Int32)), (.ref ea)]))
  refine callSt X56 hx hZ hown (wd hw 139 rfl) (wd hw 140 rfl) (wd hw 131 rfl) (wd hw 141 rfl) (by decide) e56 (argsL := [(.ref ea), (.int (2 : Int32)), (.ref mr)]) (rest := []) (rm_cpa2 l Z a0 hw [] ea x mr ke h0 n0 O0 Mr V_ea E_ea I_x) (W := 0) (by decide) (by decide) (by decide) (by decide) (by rw [hml]; rfl) (lenOf pd_4 rfl) rfl (Nat.le_of_eq rfl) (hb hby d_j65_m119_6) ?_
  intro v57 T57 L57 h57 X57 e57 q57
  have lt58_ea := V_ea.lt
  obtain ⟨b57, k57, rfl, n57, K57, sb57, g_b57, O57, V_b57⟩ := q57
  have szq57 := K0.1
  have ne_ea_b57 : ea ≠ b57 := Nat.ne_of_lt (Nat.lt_of_lt_of_le lt58_ea sb57)
  have O0 := O0.keep K57 all0
  have V_ea := V_ea.keep K57 nin0
  have E_ea := E_ea.keep K57
  have I_x := own_insK I_x K57
  have K0 := K0.trans K57 all0
  have sz_b57 : h0.size ≤ b57 := Nat.le_trans szq57 sb57
  have N57 := Fr.app N0 n57
  show Run p e below _ (T57.setTop (mkF m 9 #[.val (.ref ea), .val (.int (2 : Int32))] [(.ref b57)]))
  exact endA X57 hx hlk (w := (.ref b57)) hret rfl rfl (hb hby d_j65_m119_9) (by rw [e57]; exact ⟨b57, _, rfl, N57, K0, sz_b57, g_b57, O57, V_b57⟩) (by decide) (by decide)
def Q_rm_ta2 (Z : State) (a ea x mr : Addr) (ke : ClassId) (h0 : Heap) (n0 : Nat) (v : Option Value) (h : Heap) (L : List Loc) : Prop := ∃ (b : Addr) (k : ClassId), v = some (.ref b) ∧ Fr n0 L ∧ Keep h0 h [] ∧ h0.size ≤ b ∧ n0 ≤ b ∧ Ovr Z k "java/lang/Object" ∧ Arv Z h b k (.object "java/lang/Object") (2 : Int32) [(.ref x), (.ref x)] .null
set_option maxRecDepth 65536 in
set_option maxHeartbeats 40000000 in
theorem rm_ta2 (l : Launch) (Z : State) (a0 : Array Value) (hw : ∀ d ∈ tables_1, d.before a0 Z = true) (ws : List Jvm.Cond) (a ea x mr : Addr) (ke : ClassId) (h0 : Heap) (n0 : Nat) (O0 : Old Z n0 h0) (Mr : Mir Z "[Ljava/lang/Object;" mr) (V_ea : Arv Z h0 ea ke (.object "java/lang/Object") (10 : Int32) [(.ref x), (.ref x), .null, .null, .null, .null, .null, .null, .null, .null] .null) (E_ea : Exa Z h0 ea "[Ljava/lang/Object;") (I_x : Ins Z h0 x "java/lang/Object" true) (F_elementData_a : Fld Z h0 a "java/util/ArrayList" "elementData" "[Ljava/lang/Object;" (.ref ea)) (F_size_a : Fld Z h0 a "java/util/ArrayList" "size" "I" (.int (2 : Int32))) :
    Meets l (⟨"java/util/ArrayList", "toArray", "()[Ljava/lang/Object;"⟩ : MethodName) jdk_38_method_16_code 1 (some (.array (.object "java/lang/Object"))) ws ({ frames := 3, cells := 1, slots := 2, locals := 68 } : Room) Z #[(.ref a)] h0 (Q_rm_ta2 Z a ea x mr ke h0 n0) 1 2 := by
  refine enter (Ls := #[.val (.ref a)]) (plainFor_of_name pn_2) (fun m => by first | (simp [entryFrame, mkF, argsToLocals, Value.category]; done) | rfl) ?_
  intro p e s m below meth c T0 hx hby hml hown hnm hret hlk hZ X0 e0
  have N0 := Fr.nil n0
  replace hown : s.vm.findClass "java/util/ArrayList" = some m.cls := hown
  show Run p e below _ (T0.setTop (mkF m 0 #[.val (.ref a)] []))
  have K0 := Keep.refl h0 []
  refine go (fun _ => XS.aloadN X0.here hx rfl (hb hby d_j38_m16_0) rfl rfl) ?_
  show Run p e below _ (T0.setTop (mkF m 1 #[.val (.ref a)] [(.ref a)]))
  obtain ⟨T59, X59, e59, st59⟩ := getF X0 hx hZ hown (host := "") (Or.inl (wd hw 27 rfl)) Via.refl e0 F_elementData_a (g := (mkF m 1 #[.val (.ref a)] [(.ref a)])) rfl rfl (hb hby d_j38_m16_1)
  refine go st59 ?_
  show Run p e below _ (T59.setTop (mkF m 4 #[.val (.ref a)] [(.ref ea)]))
  refine go (fun _ => XS.aloadN X59.here hx rfl (hb hby d_j38_m16_4) rfl rfl) ?_
  show Run p e below _ (T59.setTop (mkF m 5 #[.val (.ref a)] [(.ref a), (.ref ea)]))
  obtain ⟨T60, X60, e60, st60⟩ := getF X59 hx hZ hown (host := "") (Or.inl (wd hw 56 rfl)) Via.refl e59 F_size_a (g := (mkF m 5 #[.val (.ref a)] [(.ref a), (.ref ea)])) rfl rfl (hb hby d_j38_m16_5)
  refine go st60 ?_
  show Run p e below _ (T60.setTop (mkF m 8 #[.val (.ref a)] [(.int (2 : Int32)), (.ref ea)]))
  refine callSt X60 hx hZ hown (wd hw 129 rfl) (wd hw 130 rfl) (wd hw 131 rfl) (wd hw 132 rfl) (by decide) e60 (argsL := [(.ref ea), (.int (2 : Int32))]) (rest := []) (rm_cpb2 l Z a0 hw [] ea x mr ke h0 n0 O0 Mr V_ea E_ea I_x) (W := 0) (by decide) (by decide) (by decide) (by decide) (by rw [hml]; rfl) (lenOf pd_5 rfl) rfl (Nat.le_of_eq rfl) (hb hby d_j38_m16_8) ?_
  intro v61 T61 L61 h61 X61 e61 q61
  have lt62_ea := V_ea.lt
  obtain ⟨b61, k61, rfl, n61, K61, sb61, g_b61, O61, V_b61⟩ := q61
  have szq61 := K0.1
  have ne_ea_b61 : ea ≠ b61 := Nat.ne_of_lt (Nat.lt_of_lt_of_le lt62_ea sb61)
  have O0 := O0.keep K61 all0
  have V_ea := V_ea.keep K61 nin0
  have E_ea := E_ea.keep K61
  have I_x := own_insK I_x K61
  have K0 := K0.trans K61 all0
  have F_elementData_a := F_elementData_a.keep K61 nin0
  have F_size_a := F_size_a.keep K61 nin0
  have sz_b61 : h0.size ≤ b61 := Nat.le_trans szq61 sb61
  have N61 := Fr.app N0 n61
  show Run p e below _ (T61.setTop (mkF m 11 #[.val (.ref a)] [(.ref b61)]))
  exact endA X61 hx hlk (w := (.ref b61)) hret rfl rfl (hb hby d_j38_m16_11) (by rw [e61]; exact ⟨b61, _, rfl, N61, K0, sz_b61, g_b61, O61, V_b61⟩) (by decide) (by decide)
def Q_rm_cpa3 (Z : State) (ea x mr : Addr) (ke : ClassId) (h0 : Heap) (n0 : Nat) (v : Option Value) (h : Heap) (L : List Loc) : Prop := ∃ (b : Addr) (k : ClassId), v = some (.ref b) ∧ Fr n0 L ∧ Keep h0 h [] ∧ h0.size ≤ b ∧ n0 ≤ b ∧ Ovr Z k "java/lang/Object" ∧ Arv Z h b k (.object "java/lang/Object") (3 : Int32) [(.ref x), (.ref x), (.ref x)] .null
set_option maxRecDepth 65536 in
set_option maxHeartbeats 40000000 in
theorem rm_cpa3 (l : Launch) (Z : State) (a0 : Array Value) (hw : ∀ d ∈ tables_1, d.before a0 Z = true) (ws : List Jvm.Cond) (ea x mr : Addr) (ke : ClassId) (h0 : Heap) (n0 : Nat) (O0 : Old Z n0 h0) (Mr : Mir Z "[Ljava/lang/Object;" mr) (V_ea : Arv Z h0 ea ke (.object "java/lang/Object") (10 : Int32) [(.ref x), (.ref x), (.ref x), .null, .null, .null, .null, .null, .null, .null] .null) (E_ea : Exa Z h0 ea "[Ljava/lang/Object;") (I_x : Ins Z h0 x "java/lang/Object" true) :
    Meets l (⟨"java/util/Arrays", "copyOf", "([Ljava/lang/Object;ILjava/lang/Class;)[Ljava/lang/Object;"⟩ : MethodName) jdk_65_method_120_code 4 (some (.array (.object "java/lang/Object"))) ws ({ frames := 1, cells := 1, slots := 3, locals := 40 } : Room) Z #[(.ref ea), (.int (3 : Int32)), (.ref mr)] h0 (Q_rm_cpa3 Z ea x mr ke h0 n0) 1 3 := by
  refine enter (Ls := #[.val (.ref ea), .val (.int (3 : Int32)), .val (.ref mr), .unset]) (plainFor_of_name pn_11) (fun m => by first | (simp [entryFrame, mkF, argsToLocals, Value.category]; done) | rfl) ?_
  intro p e s m below meth c T0 hx hby hml hown hnm hret hlk hZ X0 e0
  have N0 := Fr.nil n0
  replace hown : s.vm.findClass "java/util/Arrays" = some m.cls := hown
  show Run p e below _ (T0.setTop (mkF m 0 #[.val (.ref ea), .val (.int (3 : Int32)), .val (.ref mr), .unset] []))
  have K0 := Keep.refl h0 []
  refine go (fun _ => XS.aloadN X0.here hx rfl (hb hby d_j65_m120_0) rfl rfl) ?_
  show Run p e below _ (T0.setTop (mkF m 1 #[.val (.ref ea), .val (.int (3 : Int32)), .val (.ref mr), .unset] [(.ref mr)]))
  obtain ⟨vm63, X63, st63⟩ := X0.ldcMirror hx (own := "java/util/Arrays") hown (mvT hZ (wd hw 142 rfl)) (a := mr) (own_mir hZ Mr) (g := (mkF m 1 #[.val (.ref ea), .val (.int (3 : Int32)), .val (.ref mr), .unset] [(.ref mr)])) rfl (hb hby d_j65_m120_1)
  have e63 : (T0.setVm vm63).heap = h0 := e0
  refine go st63 ?_
  show Run p e below _ ((T0.setVm vm63).setTop (mkF m 3 #[.val (.ref ea), .val (.int (3 : Int32)), .val (.ref mr), .unset] [(.ref mr), (.ref mr)]))
  refine go (fun _ => acmp X63 hx rfl (x := (.ref mr)) (y := (.ref mr)) rfl rfl (pc0 := 3) (pc' := 6) (same := true) rfl (hb hby d_j65_m120_3) rfl (decide_eq_true rfl) (by decide) (by decide)) ?_
  show Run p e below _ ((T0.setVm vm63).setTop (mkF m 6 #[.val (.ref ea), .val (.int (3 : Int32)), .val (.ref mr), .unset] []))
  refine go (fun _ => XS.iloadN X63.here hx rfl (hb hby d_j65_m120_6) rfl) ?_
  show Run p e below _ ((T0.setVm vm63).setTop (mkF m 7 #[.val (.ref ea), .val (.int (3 : Int32)), .val (.ref mr), .unset] [(.int (3 : Int32))]))
  obtain ⟨T64, h64, k64, X64, e64, E64, A64, O64, st64⟩ := newR X63 hx hZ hown (wd hw 143 rfl) (wd hw 111 rfl) e63 (g := (mkF m 7 #[.val (.ref ea), .val (.int (3 : Int32)), .val (.ref mr), .unset] [(.int (3 : Int32))])) rfl (hb hby d_j65_m120_7) rfl (by decide) (cap := 3) (by decide) (by decide) (by decide) (by decide)
  obtain ⟨b64, y64⟩ : ∃ z, z = h0.size := ⟨_, rfl⟩
  rw [← y64] at A64 st64
  have g_b64 : n0 ≤ b64 := y64.symm ▸ old_sz O0
  have sz_b64 : h0.size ≤ b64 := y64.symm ▸ K0.1
  have ne_ea_b64 : ea ≠ b64 := Nat.ne_of_lt (y64.symm ▸ V_ea.lt)
  have O0 := O0.ext E64
  have V_ea := V_ea.ext E64
  have E_ea := E_ea.ext E64
  have I_x := I_x.ext E64
  have K0 := K0.ext E64
  have V_b64 : Arv Z h64 b64 k64 (.object "java/lang/Object") (3 : Int32) [.null, .null, .null] .null := (Arv.new A64 (by decide)).pad (pad_rep [] .null 3)
  refine go st64 ?_
  show Run p e below _ (T64.setTop (mkF m 10 #[.val (.ref ea), .val (.int (3 : Int32)), .val (.ref mr), .unset] [(.ref b64)]))
  refine go (fun _ => XS.goto X64.here hx rfl (pc0 := 10) (pc' := 24) rfl (hb hby d_j65_m120_10) (by decide) (by decide)) ?_
  show Run p e below _ (T64.setTop (mkF m 24 #[.val (.ref ea), .val (.int (3 : Int32)), .val (.ref mr), .unset] [(.ref b64)]))
  refine go (fun _ => XS.astoreN X64.here hx rfl (hb hby d_j65_m120_24) rfl rfl (l' := #[.val (.ref ea), .val (.int (3 : Int32)), .val (.ref mr), .val (.ref b64)]) rfl) ?_
  show Run p e below _ (T64.setTop (mkF m 25 #[.val (.ref ea), .val (.int (3 : Int32)), .val (.ref mr), .val (.ref b64)] []))
  refine go (fun _ => XS.aloadN X64.here hx rfl (hb hby d_j65_m120_25) rfl rfl) ?_
  show Run p e below _ (T64.setTop (mkF m 26 #[.val (.ref ea), .val (.int (3 : Int32)), .val (.ref mr), .val (.ref b64)] [(.ref ea)]))
  refine go (fun _ => XS.iconst X64.here hx rfl (hb hby d_j65_m120_26)) ?_
  show Run p e below _ (T64.setTop (mkF m 27 #[.val (.ref ea), .val (.int (3 : Int32)), .val (.ref mr), .val (.ref b64)] [(.int (0 : Int32)), (.ref ea)]))
  refine go (fun _ => XS.aloadN X64.here hx rfl (hb hby d_j65_m120_27) rfl rfl) ?_
  show Run p e below _ (T64.setTop (mkF m 28 #[.val (.ref ea), .val (.int (3 : Int32)), .val (.ref mr), .val (.ref b64)] [(.ref b64), (.int (0 : Int32)), (.ref ea)]))
  refine go (fun _ => XS.iconst X64.here hx rfl (hb hby d_j65_m120_28)) ?_
  show Run p e below _ (T64.setTop (mkF m 29 #[.val (.ref ea), .val (.int (3 : Int32)), .val (.ref mr), .val (.ref b64)] [(.int (0 : Int32)), (.ref b64), (.int (0 : Int32)), (.ref ea)]))
  refine go (fun _ => XS.aloadN X64.here hx rfl (hb hby d_j65_m120_29) rfl rfl) ?_
  show Run p e below _ (T64.setTop (mkF m 30 #[.val (.ref ea), .val (.int (3 : Int32)), .val (.ref mr), .val (.ref b64)] [(.ref ea), (.int (0 : Int32)), (.ref b64), (.int (0 : Int32)), (.ref ea)]))
  obtain ⟨cl65, Ar65, ak65, as65, an65, ah65, ag65⟩ := id V_ea
  refine go (fun _ => X64.arraylength hx (by rw [e64]; exact Ar65.1) (State.isArrayOf_alike hZ.alike Ar65.2.1) (g := (mkF m 30 #[.val (.ref ea), .val (.int (3 : Int32)), .val (.ref mr), .val (.ref b64)] [(.ref ea), (.int (0 : Int32)), (.ref b64), (.int (0 : Int32)), (.ref ea)])) rfl rfl (hb hby d_j65_m120_30) _) ?_
  rw [len_of as65 an65]
  show Run p e below _ (T64.setTop (mkF m 31 #[.val (.ref ea), .val (.int (3 : Int32)), .val (.ref mr), .val (.ref b64)] [(.int (10 : Int32)), (.int (0 : Int32)), (.ref b64), (.int (0 : Int32)), (.ref ea)]))
  refine go (fun _ => XS.iloadN X64.here hx rfl (hb hby d_j65_m120_31) rfl) ?_
  show Run p e below _ (T64.setTop (mkF m 32 #[.val (.ref ea), .val (.int (3 : Int32)), .val (.ref mr), .val (.ref b64)] [(.int (3 : Int32)), (.int (10 : Int32)), (.int (0 : Int32)), (.ref b64), (.int (0 : Int32)), (.ref ea)]))
  refine callSt X64 hx hZ hown (wd hw 144 rfl) (wd hw 145 rfl) (wd hw 108 rfl) (wd hw 146 rfl) (by decide) e64 (argsL := [(.int (10 : Int32)), (.int (3 : Int32))]) (rest := [(.int (0 : Int32)), (.ref b64), (.int (0 : Int32)), (.ref ea)]) (rm_min l Z a0 hw [] (10 : Int32) (3 : Int32) h64 n0 O0) (W := 4) (by decide) (by decide) (by decide) (by decide) (by rw [hml]; rfl) (lenOf pd_1 rfl) rfl (Nat.le_of_eq rfl) (hb hby d_j65_m120_32) ?_
  intro v66 T66 L66 h66 X66 e66 q66
  obtain ⟨rv, n66, k66⟩ := q66
  replace rv : v66 = some (.int (3 : Int32)) := rv
  subst rv
  have e66 := e66.trans k66
  have N66 := Fr.app N0 n66
  show Run p e below _ (T66.setTop (mkF m 35 #[.val (.ref ea), .val (.int (3 : Int32)), .val (.ref mr), .val (.ref b64)] [(.int (3 : Int32)), (.int (0 : Int32)), (.ref b64), (.int (0 : Int32)), (.ref ea)]))
  obtain ⟨cb67, Ab67, qb67, -⟩ := id V_b64
  have so67 := Sto.ofV Ab67 qb67 O64 I_x
  have lt68_ea := V_ea.lt
  have lt68_b64 := V_b64.lt
  obtain ⟨T67, h67, L67, X67, e67, N67, K67, V_b64, st67⟩ := cpA X66 hx hZ hown (wd hw 147 rfl) (wd hw 150 rfl) (wd hw 148 rfl) (wd hw 149 rfl) e66 V_ea V_b64 (Or.inr ⟨rfl, rfl, ⟨so67, so67, so67, trivial⟩⟩) (sp := 0) (dp := 0) (nn := (3 : Int32)) (by decide) (by decide) (by decide) (by decide) (by decide) (us := [(.ref x), (.ref x), (.ref x)]) rfl (by decide) N66 g_b64 (g := (mkF m 35 #[.val (.ref ea), .val (.int (3 : Int32)), .val (.ref mr), .val (.ref b64)] [(.int (3 : Int32)), (.int (0 : Int32)), (.ref b64), (.int (0 : Int32)), (.ref ea)])) rfl (by rw [hml]; rfl) rfl (hb hby d_j65_m120_35) (by decide) (W := 0) (Nat.le_of_eq rfl) (by decide)
  have O0 := O0.keep K67 (allS g_b64 all0)
  have V_ea := V_ea.keep K67 (ninS ne_ea_b64 nin0)
  have E_ea := E_ea.keep K67
  have I_x := own_insK I_x K67
  have K0 := K0.trans K67 (allS (Or.inr sz_b64) all0)
  refine go st67 ?_
  show Run p e below _ (T67.setTop (mkF m 38 #[.val (.ref ea), .val (.int (3 : Int32)), .val (.ref mr), .val (.ref b64)] []))
  refine go (fun _ => XS.aloadN X67.here hx rfl (hb hby d_j65_m120_38) rfl rfl) ?_
  show Run p e below _ (T67.setTop (mkF m 39 #[.val (.ref ea), .val (.int (3 : Int32)), .val (.ref mr), .val (.ref b64)] [(.ref b64)]))
  exact endA X67 hx hlk (w := (.ref b64)) hret rfl rfl (hb hby d_j65_m120_39) (by rw [e67]; exact ⟨b64, _, rfl, N67, K0, sz_b64, g_b64, O64, V_b64⟩) (by decide) (by decide)
def Q_rm_cpb3 (Z : State) (ea x mr : Addr) (ke : ClassId) (h0 : Heap) (n0 : Nat) (v : Option Value) (h : Heap) (L : List Loc) : Prop := ∃ (b : Addr) (k : ClassId), v = some (.ref b) ∧ Fr n0 L ∧ Keep h0 h [] ∧ h0.size ≤ b ∧ n0 ≤ b ∧ Ovr Z k "java/lang/Object" ∧ Arv Z h b k (.object "java/lang/Object") (3 : Int32) [(.ref x), (.ref x), (.ref x)] .null
set_option maxRecDepth 65536 in
set_option maxHeartbeats 40000000 in
theorem rm_cpb3 (l : Launch) (Z : State) (a0 : Array Value) (hw : ∀ d ∈ tables_1, d.before a0 Z = true) (ws : List Jvm.Cond) (ea x mr : Addr) (ke : ClassId) (h0 : Heap) (n0 : Nat) (O0 : Old Z n0 h0) (Mr : Mir Z "[Ljava/lang/Object;" mr) (V_ea : Arv Z h0 ea ke (.object "java/lang/Object") (10 : Int32) [(.ref x), (.ref x), (.ref x), .null, .null, .null, .null, .null, .null, .null] .null) (E_ea : Exa Z h0 ea "[Ljava/lang/Object;") (I_x : Ins Z h0 x "java/lang/Object" true) :
    Meets l (⟨"java/util/Arrays", "copyOf", "([Ljava/lang/Object;I)[Ljava/lang/Object;"⟩ : MethodName) jdk_65_method_119_code 2 (some (.array (.object "java/lang/Object"))) ws ({ frames := 2, cells := 1, slots := 3, locals := 55 } : Room) Z #[(.ref ea), (.int (3 : Int32))] h0 (Q_rm_cpb3 Z ea x mr ke h0 n0) 1 3 := by
  refine enter (Ls := #[.val (.ref ea), .val (.int (3 : Int32))]) (plainFor_of_name pn_11) (fun m => by first | (simp [entryFrame, mkF, argsToLocals, Value.category]; done) | rfl) ?_
  intro p e s m below meth c T0 hx hby hml hown hnm hret hlk hZ X0 e0
  have N0 := Fr.nil n0
  replace hown : s.vm.findClass "java/util/Arrays" = some m.cls := hown
  show Run p e below _ (T0.setTop (mkF m 0 #[.val (.ref ea), .val (.int (3 : Int32))] []))
  have K0 := Keep.refl h0 []
  refine go (fun _ => XS.aloadN X0.here hx rfl (hb hby d_j65_m119_0) rfl rfl) ?_
  show Run p e below _ (T0.setTop (mkF m 1 #[.val (.ref ea), .val (.int (3 : Int32))] [(.ref ea)]))
  refine go (fun _ => XS.iloadN X0.here hx rfl (hb hby d_j65_m119_1) rfl) ?_
  show Run p e below _ (T0.setTop (mkF m 2 #[.val (.ref ea), .val (.int (3 : Int32))] [(.int (3 : Int32)), (.ref ea)]))
  refine go (fun _ => XS.aloadN X0.here hx rfl (hb hby d_j65_m119_2) rfl rfl) ?_
  show Run p e below _ (T0.setTop (mkF m 3 #[.val (.ref ea), .val (.int (3 : Int32))] [(.ref ea), (.int (3 : Int32)), (.ref ea)]))
  obtain ⟨T69, X69, e69, st69⟩ := gcls X0 hx hZ hown (wd hw 133 rfl) (wd hw 134 rfl) (wd hw 45 rfl) (wd hw 136 rfl) (wd hw 135 rfl) (wd hw 137 rfl) e0 E_ea Mr (g := (mkF m 3 #[.val (.ref ea), .val (.int (3 : Int32))] [(.ref ea), (.int (3 : Int32)), (.ref ea)])) rfl (by rw [hml]; rfl) rfl (hb hby d_j65_m119_3) (by decide) (W := 2) (Nat.le_of_eq rfl) (by decide)
  refine go st69 ?_
  show Run p e below _ (T69.setTop (mkF m 6 #[.val (.ref ea), .val (.int (3 : Int32))] [(.ref mr), (.int (3 : Int32)), (.ref ea)]))
  refine callSt X69 hx hZ hown (wd hw 139 rfl) (wd hw 140 rfl) (wd hw 131 rfl) (wd hw 141 rfl) (by decide) e69 (argsL := [(.ref ea), (.int (3 : Int32)), (.ref mr)]) (rest := []) (rm_cpa3 l Z a0 hw [] ea x mr ke h0 n0 O0 Mr V_ea E_ea I_x) (W := 0) (by decide) (by decide) (by decide) (by decide) (by rw [hml]; rfl) (lenOf pd_4 rfl) rfl (Nat.le_of_eq rfl) (hb hby d_j65_m119_6) ?_
  intro v70 T70 L70 h70 X70 e70 q70
  have lt71_ea := V_ea.lt
  obtain ⟨b70, k70, rfl, n70, K70, sb70, g_b70, O70, V_b70⟩ := q70
  have szq70 := K0.1
  have ne_ea_b70 : ea ≠ b70 := Nat.ne_of_lt (Nat.lt_of_lt_of_le lt71_ea sb70)
  have O0 := O0.keep K70 all0
  have V_ea := V_ea.keep K70 nin0
  have E_ea := E_ea.keep K70
  have I_x := own_insK I_x K70
  have K0 := K0.trans K70 all0
  have sz_b70 : h0.size ≤ b70 := Nat.le_trans szq70 sb70
  have N70 := Fr.app N0 n70
  show Run p e below _ (T70.setTop (mkF m 9 #[.val (.ref ea), .val (.int (3 : Int32))] [(.ref b70)]))
  exact endA X70 hx hlk (w := (.ref b70)) hret rfl rfl (hb hby d_j65_m119_9) (by rw [e70]; exact ⟨b70, _, rfl, N70, K0, sz_b70, g_b70, O70, V_b70⟩) (by decide) (by decide)
def Q_rm_ta3 (Z : State) (a ea x mr : Addr) (ke : ClassId) (h0 : Heap) (n0 : Nat) (v : Option Value) (h : Heap) (L : List Loc) : Prop := ∃ (b : Addr) (k : ClassId), v = some (.ref b) ∧ Fr n0 L ∧ Keep h0 h [] ∧ h0.size ≤ b ∧ n0 ≤ b ∧ Ovr Z k "java/lang/Object" ∧ Arv Z h b k (.object "java/lang/Object") (3 : Int32) [(.ref x), (.ref x), (.ref x)] .null
set_option maxRecDepth 65536 in
set_option maxHeartbeats 40000000 in
theorem rm_ta3 (l : Launch) (Z : State) (a0 : Array Value) (hw : ∀ d ∈ tables_1, d.before a0 Z = true) (ws : List Jvm.Cond) (a ea x mr : Addr) (ke : ClassId) (h0 : Heap) (n0 : Nat) (O0 : Old Z n0 h0) (Mr : Mir Z "[Ljava/lang/Object;" mr) (V_ea : Arv Z h0 ea ke (.object "java/lang/Object") (10 : Int32) [(.ref x), (.ref x), (.ref x), .null, .null, .null, .null, .null, .null, .null] .null) (E_ea : Exa Z h0 ea "[Ljava/lang/Object;") (I_x : Ins Z h0 x "java/lang/Object" true) (F_elementData_a : Fld Z h0 a "java/util/ArrayList" "elementData" "[Ljava/lang/Object;" (.ref ea)) (F_size_a : Fld Z h0 a "java/util/ArrayList" "size" "I" (.int (3 : Int32))) :
    Meets l (⟨"java/util/ArrayList", "toArray", "()[Ljava/lang/Object;"⟩ : MethodName) jdk_38_method_16_code 1 (some (.array (.object "java/lang/Object"))) ws ({ frames := 3, cells := 1, slots := 3, locals := 68 } : Room) Z #[(.ref a)] h0 (Q_rm_ta3 Z a ea x mr ke h0 n0) 1 3 := by
  refine enter (Ls := #[.val (.ref a)]) (plainFor_of_name pn_2) (fun m => by first | (simp [entryFrame, mkF, argsToLocals, Value.category]; done) | rfl) ?_
  intro p e s m below meth c T0 hx hby hml hown hnm hret hlk hZ X0 e0
  have N0 := Fr.nil n0
  replace hown : s.vm.findClass "java/util/ArrayList" = some m.cls := hown
  show Run p e below _ (T0.setTop (mkF m 0 #[.val (.ref a)] []))
  have K0 := Keep.refl h0 []
  refine go (fun _ => XS.aloadN X0.here hx rfl (hb hby d_j38_m16_0) rfl rfl) ?_
  show Run p e below _ (T0.setTop (mkF m 1 #[.val (.ref a)] [(.ref a)]))
  obtain ⟨T72, X72, e72, st72⟩ := getF X0 hx hZ hown (host := "") (Or.inl (wd hw 27 rfl)) Via.refl e0 F_elementData_a (g := (mkF m 1 #[.val (.ref a)] [(.ref a)])) rfl rfl (hb hby d_j38_m16_1)
  refine go st72 ?_
  show Run p e below _ (T72.setTop (mkF m 4 #[.val (.ref a)] [(.ref ea)]))
  refine go (fun _ => XS.aloadN X72.here hx rfl (hb hby d_j38_m16_4) rfl rfl) ?_
  show Run p e below _ (T72.setTop (mkF m 5 #[.val (.ref a)] [(.ref a), (.ref ea)]))
  obtain ⟨T73, X73, e73, st73⟩ := getF X72 hx hZ hown (host := "") (Or.inl (wd hw 56 rfl)) Via.refl e72 F_size_a (g := (mkF m 5 #[.val (.ref a)] [(.ref a), (.ref ea)])) rfl rfl (hb hby d_j38_m16_5)
  refine go st73 ?_
  show Run p e below _ (T73.setTop (mkF m 8 #[.val (.ref a)] [(.int (3 : Int32)), (.ref ea)]))
  refine callSt X73 hx hZ hown (wd hw 129 rfl) (wd hw 130 rfl) (wd hw 131 rfl) (wd hw 132 rfl) (by decide) e73 (argsL := [(.ref ea), (.int (3 : Int32))]) (rest := []) (rm_cpb3 l Z a0 hw [] ea x mr ke h0 n0 O0 Mr V_ea E_ea I_x) (W := 0) (by decide) (by decide) (by decide) (by decide) (by rw [hml]; rfl) (lenOf pd_5 rfl) rfl (Nat.le_of_eq rfl) (hb hby d_j38_m16_8) ?_
  intro v74 T74 L74 h74 X74 e74 q74
  have lt75_ea := V_ea.lt
  obtain ⟨b74, k74, rfl, n74, K74, sb74, g_b74, O74, V_b74⟩ := q74
  have szq74 := K0.1
  have ne_ea_b74 : ea ≠ b74 := Nat.ne_of_lt (Nat.lt_of_lt_of_le lt75_ea sb74)
  have O0 := O0.keep K74 all0
  have V_ea := V_ea.keep K74 nin0
  have E_ea := E_ea.keep K74
  have I_x := own_insK I_x K74
  have K0 := K0.trans K74 all0
  have F_elementData_a := F_elementData_a.keep K74 nin0
  have F_size_a := F_size_a.keep K74 nin0
  have sz_b74 : h0.size ≤ b74 := Nat.le_trans szq74 sb74
  have N74 := Fr.app N0 n74
  show Run p e below _ (T74.setTop (mkF m 11 #[.val (.ref a)] [(.ref b74)]))
  exact endA X74 hx hlk (w := (.ref b74)) hret rfl rfl (hb hby d_j38_m16_11) (by rw [e74]; exact ⟨b74, _, rfl, N74, K0, sz_b74, g_b74, O74, V_b74⟩) (by decide) (by decide)
/-- a list that can't be changed: of one or two elements, or by an array -/
def IL (Z : State) (h : Heap) (b : Addr) (em : Bool) : Prop := (Exa Z h b "java/util/ImmutableCollections$List12" ∧ em = false) ∨ (Exa Z h b "java/util/ImmutableCollections$ListN" ∧ ∃ (ea : Addr) (k : ClassId) (z : Int32) (us : List Value), Fld Z h b "java/util/ImmutableCollections$ListN" "elements" "[Ljava/lang/Object;" (.ref ea) ∧ Arv Z h ea k (.object "java/lang/Object") z us .null ∧ em = decide (z = 0))
theorem IL.keep0 {Z : State} {h h' : Heap} {b : Addr} {em : Bool} (H : IL Z h b em) (K : Keep h h' []) : IL Z h' b em := by
  rcases H with ⟨E, q⟩ | ⟨E, ea, k, z, us, F, A, q⟩
  · exact Or.inl ⟨E.keep K, q⟩
  · exact Or.inr ⟨E.keep K, ea, k, z, us, F.keep K nin0, A.keep K nin0, q⟩
theorem IL.wrE {Z : State} {a0 : Array Value} {h h' : Heap} {b a : Addr} {em : Bool} {D : String} {n sl : Nat} {v : Value} (H : IL Z h b em) (W : Wr h h' a sl v) (E' : Exa Z h a D) (n1 : "java/util/ImmutableCollections$List12" ≠ D) (n2 : "java/util/ImmutableCollections$ListN" ≠ D) (wi : (Jvm.Cond.instantiable D n).before a0 Z = true) : IL Z h' b em := by
  rcases H with ⟨E, q⟩ | ⟨E, ea, k, z, us, F, A, q⟩
  · exact Or.inl ⟨E.wr W, q⟩
  · exact Or.inr ⟨E.wr W, ea, k, z, us, F.other W (Or.inl (ne_exa E E' n2)), A.other W (Ne.symm (Exa.neArv E' A wi)), q⟩
theorem d_j56_m4_0 : decode jdk_56_method_4_code 0 = .ok (.aload_n 0, 1) := by decide +kernel
theorem d_j56_m4_1 : decode jdk_56_method_4_code 1 = .ok (.arraylength, 1) := by decide +kernel
theorem d_j56_m4_2 : decode jdk_56_method_4_code 2 = .ok (.anewarray 2, 3) := by decide +kernel
theorem d_j56_m4_5 : decode jdk_56_method_4_code 5 = .ok (.astore_n 1, 1) := by decide +kernel
theorem d_j56_m4_6 : decode jdk_56_method_4_code 6 = .ok (.iconst 0, 1) := by decide +kernel
theorem d_j56_m4_7 : decode jdk_56_method_4_code 7 = .ok (.istore_n 2, 1) := by decide +kernel
theorem d_j56_m4_8 : decode jdk_56_method_4_code 8 = .ok (.iload_n 2, 1) := by decide +kernel
theorem d_j56_m4_9 : decode jdk_56_method_4_code 9 = .ok (.aload_n 0, 1) := by decide +kernel
theorem d_j56_m4_10 : decode jdk_56_method_4_code 10 = .ok (.arraylength, 1) := by decide +kernel
theorem d_j56_m4_11 : decode jdk_56_method_4_code 11 = .ok (.if_icmp .ge 18, 3) := by decide +kernel
theorem d_j56_m4_14 : decode jdk_56_method_4_code 14 = .ok (.aload_n 1, 1) := by decide +kernel
theorem d_j56_m4_15 : decode jdk_56_method_4_code 15 = .ok (.iload_n 2, 1) := by decide +kernel
theorem d_j56_m4_16 : decode jdk_56_method_4_code 16 = .ok (.aload_n 0, 1) := by decide +kernel
theorem d_j56_m4_17 : decode jdk_56_method_4_code 17 = .ok (.iload_n 2, 1) := by decide +kernel
theorem d_j56_m4_18 : decode jdk_56_method_4_code 18 = .ok (.aaload, 1) := by decide +kernel
theorem d_j56_m4_19 : decode jdk_56_method_4_code 19 = .ok (.invokestatic 37, 3) := by decide +kernel
theorem d_j56_m4_22 : decode jdk_56_method_4_code 22 = .ok (.aastore, 1) := by decide +kernel
theorem d_j56_m4_23 : decode jdk_56_method_4_code 23 = .ok (.iinc 2 1, 3) := by decide +kernel
theorem d_j56_m4_26 : decode jdk_56_method_4_code 26 = .ok (.goto (-18), 3) := by decide +kernel
theorem d_j56_m4_29 : decode jdk_56_method_4_code 29 = .ok (.new 12, 3) := by decide +kernel
theorem d_j56_m4_32 : decode jdk_56_method_4_code 32 = .ok (.dup, 1) := by decide +kernel
theorem d_j56_m4_33 : decode jdk_56_method_4_code 33 = .ok (.aload_n 1, 1) := by decide +kernel
theorem d_j56_m4_34 : decode jdk_56_method_4_code 34 = .ok (.iconst 0, 1) := by decide +kernel
theorem d_j56_m4_35 : decode jdk_56_method_4_code 35 = .ok (.invokespecial 43, 3) := by decide +kernel
theorem pd_6 : parseMethodDescriptor "([Ljava/lang/Object;Z)V" = some ⟨[(.array (.object "java/lang/Object")), .boolean], none⟩ := by decide +kernel
theorem d_j56_m4_38 : decode jdk_56_method_4_code 38 = .ok (.areturn, 1) := by decide +kernel
theorem pn_12 : plainName "java/util/ImmutableCollections" = true := by first | (simp [plainName, overriddenIn]; done) | decide +kernel
def Q_rm_lfa (Z : State) (ea x : Addr) (ke : ClassId) (h0 : Heap) (n0 : Nat) (v : Option Value) (h : Heap) (L : List Loc) : Prop := ∃ b : Addr, v = some (.ref b) ∧ Fr n0 L ∧ Keep h0 h [] ∧ IL Z h b false
set_option maxRecDepth 65536 in
set_option maxHeartbeats 40000000 in
theorem rm_lfa (l : Launch) (Z : State) (a0 : Array Value) (hw : ∀ d ∈ tables_1, d.before a0 Z = true) (ws : List Jvm.Cond) (ea x : Addr) (ke : ClassId) (h0 : Heap) (n0 : Nat) (O0 : Old Z n0 h0) (V_ea : Arv Z h0 ea ke (.object "java/lang/Object") (3 : Int32) [(.ref x), (.ref x), (.ref x)] .null) (I_x : Ins Z h0 x "java/lang/Object" true) :
    Meets l (⟨"java/util/ImmutableCollections", "listFromArray", "([Ljava/lang/Object;)Ljava/util/List;"⟩ : MethodName) jdk_56_method_4_code 3 (some (.object "java/util/List")) ws ({ frames := 5, cells := 2, slots := 5, locals := 63 } : Room) Z #[(.ref ea)] h0 (Q_rm_lfa Z ea x ke h0 n0) 2 5 := by
  refine enter (Ls := #[.val (.ref ea), .unset, .unset]) (plainFor_of_name pn_12) (fun m => by first | (simp [entryFrame, mkF, argsToLocals, Value.category]; done) | rfl) ?_
  intro p e s m below meth c T0 hx hby hml hown hnm hret hlk hZ X0 e0
  have N0 := Fr.nil n0
  replace hown : s.vm.findClass "java/util/ImmutableCollections" = some m.cls := hown
  show Run p e below _ (T0.setTop (mkF m 0 #[.val (.ref ea), .unset, .unset] []))
  have K0 := Keep.refl h0 []
  refine go (fun _ => XS.aloadN X0.here hx rfl (hb hby d_j56_m4_0) rfl rfl) ?_
  show Run p e below _ (T0.setTop (mkF m 1 #[.val (.ref ea), .unset, .unset] [(.ref ea)]))
  obtain ⟨cl76, Ar76, ak76, as76, an76, ah76, ag76⟩ := id V_ea
  refine go (fun _ => X0.arraylength hx (by rw [e0]; exact Ar76.1) (State.isArrayOf_alike hZ.alike Ar76.2.1) (g := (mkF m 1 #[.val (.ref ea), .unset, .unset] [(.ref ea)])) rfl rfl (hb hby d_j56_m4_1) _) ?_
  rw [len_of as76 an76]
  show Run p e below _ (T0.setTop (mkF m 2 #[.val (.ref ea), .unset, .unset] [(.int (3 : Int32))]))
  obtain ⟨T77, h77, k77, X77, e77, E77, A77, O77, st77⟩ := newR X0 hx hZ hown (wd hw 157 rfl) (wd hw 111 rfl) e0 (g := (mkF m 2 #[.val (.ref ea), .unset, .unset] [(.int (3 : Int32))])) rfl (hb hby d_j56_m4_2) rfl (by decide) (cap := 3) (by decide) (by decide) (by decide) (by decide)
  obtain ⟨b77, y77⟩ : ∃ z, z = h0.size := ⟨_, rfl⟩
  rw [← y77] at A77 st77
  have g_b77 : n0 ≤ b77 := y77.symm ▸ old_sz O0
  have sz_b77 : h0.size ≤ b77 := y77.symm ▸ K0.1
  have ne_ea_b77 : ea ≠ b77 := Nat.ne_of_lt (y77.symm ▸ V_ea.lt)
  have O0 := O0.ext E77
  have V_ea := V_ea.ext E77
  have I_x := I_x.ext E77
  have K0 := K0.ext E77
  have V_b77 : Arv Z h77 b77 k77 (.object "java/lang/Object") (3 : Int32) [.null, .null, .null] .null := (Arv.new A77 (by decide)).pad (pad_rep [] .null 3)
  refine go st77 ?_
  show Run p e below _ (T77.setTop (mkF m 5 #[.val (.ref ea), .unset, .unset] [(.ref b77)]))
  refine go (fun _ => XS.astoreN X77.here hx rfl (hb hby d_j56_m4_5) rfl rfl (l' := #[.val (.ref ea), .val (.ref b77), .unset]) rfl) ?_
  show Run p e below _ (T77.setTop (mkF m 6 #[.val (.ref ea), .val (.ref b77), .unset] []))
  refine go (fun _ => XS.iconst X77.here hx rfl (hb hby d_j56_m4_6)) ?_
  show Run p e below _ (T77.setTop (mkF m 7 #[.val (.ref ea), .val (.ref b77), .unset] [(.int (0 : Int32))]))
  refine go (fun _ => XS.istoreN X77.here hx rfl (hb hby d_j56_m4_7) rfl (l' := #[.val (.ref ea), .val (.ref b77), .val (.int (0 : Int32))]) rfl) ?_
  show Run p e below _ (T77.setTop (mkF m 8 #[.val (.ref ea), .val (.ref b77), .val (.int (0 : Int32))] []))
  refine go (fun _ => XS.iloadN X77.here hx rfl (hb hby d_j56_m4_8) rfl) ?_
  show Run p e below _ (T77.setTop (mkF m 9 #[.val (.ref ea), .val (.ref b77), .val (.int (0 : Int32))] [(.int (0 : Int32))]))
  refine go (fun _ => XS.aloadN X77.here hx rfl (hb hby d_j56_m4_9) rfl rfl) ?_
  show Run p e below _ (T77.setTop (mkF m 10 #[.val (.ref ea), .val (.ref b77), .val (.int (0 : Int32))] [(.ref ea), (.int (0 : Int32))]))
  obtain ⟨cl78, Ar78, ak78, as78, an78, ah78, ag78⟩ := id V_ea
  refine go (fun _ => X77.arraylength hx (by rw [e77]; exact Ar78.1) (State.isArrayOf_alike hZ.alike Ar78.2.1) (g := (mkF m 10 #[.val (.ref ea), .val (.ref b77), .val (.int (0 : Int32))] [(.ref ea), (.int (0 : Int32))])) rfl rfl (hb hby d_j56_m4_10) _) ?_
  rw [len_of as78 an78]
  show Run p e below _ (T77.setTop (mkF m 11 #[.val (.ref ea), .val (.ref b77), .val (.int (0 : Int32))] [(.int (3 : Int32)), (.int (0 : Int32))]))
  refine go (fun _ => XS.icmpNo X77.here hx rfl (hb hby d_j56_m4_11) rfl (tlt (by decide : (0 : Int32) < 3)).2.1) ?_
  show Run p e below _ (T77.setTop (mkF m 14 #[.val (.ref ea), .val (.ref b77), .val (.int (0 : Int32))] []))
  refine go (fun _ => XS.aloadN X77.here hx rfl (hb hby d_j56_m4_14) rfl rfl) ?_
  show Run p e below _ (T77.setTop (mkF m 15 #[.val (.ref ea), .val (.ref b77), .val (.int (0 : Int32))] [(.ref b77)]))
  refine go (fun _ => XS.iloadN X77.here hx rfl (hb hby d_j56_m4_15) rfl) ?_
  show Run p e below _ (T77.setTop (mkF m 16 #[.val (.ref ea), .val (.ref b77), .val (.int (0 : Int32))] [(.int (0 : Int32)), (.ref b77)]))
  refine go (fun _ => XS.aloadN X77.here hx rfl (hb hby d_j56_m4_16) rfl rfl) ?_
  show Run p e below _ (T77.setTop (mkF m 17 #[.val (.ref ea), .val (.ref b77), .val (.int (0 : Int32))] [(.ref ea), (.int (0 : Int32)), (.ref b77)]))
  refine go (fun _ => XS.iloadN X77.here hx rfl (hb hby d_j56_m4_17) rfl) ?_
  show Run p e below _ (T77.setTop (mkF m 18 #[.val (.ref ea), .val (.ref b77), .val (.int (0 : Int32))] [(.int (0 : Int32)), (.ref ea), (.int (0 : Int32)), (.ref b77)]))
  obtain ⟨cl79, Ar79, ak79, as79, an79, ah79, ag79⟩ := id V_ea
  have hin79 := inb_of as79 (j := (0 : Int32)) ⟨by decide, by decide⟩
  have hat79 := ah79.at hin79 (v := (.ref x)) rfl
  refine go (fun _ => X77.aaload hx (j := (0 : Int32)) (v := (.ref x)) (by rw [e77]; exact Ar79.1) (State.isArrayOf_alike hZ.alike Ar79.2.1) rfl Ar79.2.2 hin79 hat79 (g := (mkF m 18 #[.val (.ref ea), .val (.ref b77), .val (.int (0 : Int32))] [(.int (0 : Int32)), (.ref ea), (.int (0 : Int32)), (.ref b77)])) rfl rfl (hb hby d_j56_m4_18) _) ?_
  show Run p e below _ (T77.setTop (mkF m 19 #[.val (.ref ea), .val (.ref b77), .val (.int (0 : Int32))] [(.ref x), (.int (0 : Int32)), (.ref b77)]))
  refine callSt X77 hx hZ hown (wd hw 158 rfl) (wd hw 159 rfl) (wd hw 160 rfl) (wd hw 161 rfl) (by decide) e77 (argsL := [(.ref x)]) (rest := [(.int (0 : Int32)), (.ref b77)]) (rm_rn l Z a0 hw [] x h77 n0 O0) (W := 2) (by decide) (by decide) (by decide) (by decide) (by rw [hml]; rfl) (lenOf pd_3 rfl) rfl (Nat.le_of_eq rfl) (hb hby d_j56_m4_19) ?_
  intro v80 T80 L80 h80 X80 e80 q80
  obtain ⟨rv, n80, k80⟩ := q80
  replace rv : v80 = some (.ref x) := rv
  subst rv
  have e80 := e80.trans k80
  have N80 := Fr.app N0 n80
  show Run p e below _ (T80.setTop (mkF m 22 #[.val (.ref ea), .val (.ref b77), .val (.int (0 : Int32))] [(.ref x), (.int (0 : Int32)), (.ref b77)]))
  obtain ⟨cl81, Ar81, ak81, as81, an81, ah81, ag81⟩ := id V_b77
  have hin81 := inb_of as81 (j := (0 : Int32)) ⟨by decide, by decide⟩
  obtain ⟨T81, h81, X81, e81, W81, st81⟩ := stR X80 hx hZ e80 Ar81 (j := (0 : Int32)) hin81 rfl (Sto.ofV Ar81 ak81 O77 I_x) (g := (mkF m 22 #[.val (.ref ea), .val (.ref b77), .val (.int (0 : Int32))] [(.ref x), (.int (0 : Int32)), (.ref b77)])) rfl rfl (hb hby d_j56_m4_22)
  have I_x := I_x.wr W81
  have O0 := O0.wr W81 g_b77
  have V_ea := V_ea.other W81 ne_ea_b77
  have K0 := K0.wr W81 (Or.inr sz_b77)
  have V_b77 := (Arv.set Ar81 ak81 as81 an81 ah81 ag81 rfl W81 0 rfl (Nat.le_of_ble_eq_true rfl) : Arv Z h81 b77 k77 (.object "java/lang/Object") (3 : Int32) [(.ref x), .null, .null] .null)
  have N81 := Fr.snoc X81 N80 g_b77
  refine go st81 ?_
  show Run p e below _ (T81.setTop (mkF m 23 #[.val (.ref ea), .val (.ref b77), .val (.int (0 : Int32))] []))
  refine go (fun _ => XS.iinc X81.here hx rfl (hb hby d_j56_m4_23) rfl (l' := #[.val (.ref ea), .val (.ref b77), .val (.int (1 : Int32))]) rfl) ?_
  show Run p e below _ (T81.setTop (mkF m 26 #[.val (.ref ea), .val (.ref b77), .val (.int (1 : Int32))] []))
  refine go (fun _ => XS.goto X81.here hx rfl (pc0 := 26) (pc' := 8) rfl (hb hby d_j56_m4_26) (by decide) (by decide)) ?_
  show Run p e below _ (T81.setTop (mkF m 8 #[.val (.ref ea), .val (.ref b77), .val (.int (1 : Int32))] []))
  refine go (fun _ => XS.iloadN X81.here hx rfl (hb hby d_j56_m4_8) rfl) ?_
  show Run p e below _ (T81.setTop (mkF m 9 #[.val (.ref ea), .val (.ref b77), .val (.int (1 : Int32))] [(.int (1 : Int32))]))
  refine go (fun _ => XS.aloadN X81.here hx rfl (hb hby d_j56_m4_9) rfl rfl) ?_
  show Run p e below _ (T81.setTop (mkF m 10 #[.val (.ref ea), .val (.ref b77), .val (.int (1 : Int32))] [(.ref ea), (.int (1 : Int32))]))
  obtain ⟨cl82, Ar82, ak82, as82, an82, ah82, ag82⟩ := id V_ea
  refine go (fun _ => X81.arraylength hx (by rw [e81]; exact Ar82.1) (State.isArrayOf_alike hZ.alike Ar82.2.1) (g := (mkF m 10 #[.val (.ref ea), .val (.ref b77), .val (.int (1 : Int32))] [(.ref ea), (.int (1 : Int32))])) rfl rfl (hb hby d_j56_m4_10) _) ?_
  rw [len_of as82 an82]
  show Run p e below _ (T81.setTop (mkF m 11 #[.val (.ref ea), .val (.ref b77), .val (.int (1 : Int32))] [(.int (3 : Int32)), (.int (1 : Int32))]))
  refine go (fun _ => XS.icmpNo X81.here hx rfl (hb hby d_j56_m4_11) rfl (tlt (by decide : (1 : Int32) < 3)).2.1) ?_
  show Run p e below _ (T81.setTop (mkF m 14 #[.val (.ref ea), .val (.ref b77), .val (.int (1 : Int32))] []))
  refine go (fun _ => XS.aloadN X81.here hx rfl (hb hby d_j56_m4_14) rfl rfl) ?_
  show Run p e below _ (T81.setTop (mkF m 15 #[.val (.ref ea), .val (.ref b77), .val (.int (1 : Int32))] [(.ref b77)]))
  refine go (fun _ => XS.iloadN X81.here hx rfl (hb hby d_j56_m4_15) rfl) ?_
  show Run p e below _ (T81.setTop (mkF m 16 #[.val (.ref ea), .val (.ref b77), .val (.int (1 : Int32))] [(.int (1 : Int32)), (.ref b77)]))
  refine go (fun _ => XS.aloadN X81.here hx rfl (hb hby d_j56_m4_16) rfl rfl) ?_
  show Run p e below _ (T81.setTop (mkF m 17 #[.val (.ref ea), .val (.ref b77), .val (.int (1 : Int32))] [(.ref ea), (.int (1 : Int32)), (.ref b77)]))
  refine go (fun _ => XS.iloadN X81.here hx rfl (hb hby d_j56_m4_17) rfl) ?_
  show Run p e below _ (T81.setTop (mkF m 18 #[.val (.ref ea), .val (.ref b77), .val (.int (1 : Int32))] [(.int (1 : Int32)), (.ref ea), (.int (1 : Int32)), (.ref b77)]))
  obtain ⟨cl83, Ar83, ak83, as83, an83, ah83, ag83⟩ := id V_ea
  have hin83 := inb_of as83 (j := (1 : Int32)) ⟨by decide, by decide⟩
  have hat83 := ah83.at hin83 (v := (.ref x)) rfl
  refine go (fun _ => X81.aaload hx (j := (1 : Int32)) (v := (.ref x)) (by rw [e81]; exact Ar83.1) (State.isArrayOf_alike hZ.alike Ar83.2.1) rfl Ar83.2.2 hin83 hat83 (g := (mkF m 18 #[.val (.ref ea), .val (.ref b77), .val (.int (1 : Int32))] [(.int (1 : Int32)), (.ref ea), (.int (1 : Int32)), (.ref b77)])) rfl rfl (hb hby d_j56_m4_18) _) ?_
  show Run p e below _ (T81.setTop (mkF m 19 #[.val (.ref ea), .val (.ref b77), .val (.int (1 : Int32))] [(.ref x), (.int (1 : Int32)), (.ref b77)]))
  refine callSt X81 hx hZ hown (wd hw 158 rfl) (wd hw 159 rfl) (wd hw 160 rfl) (wd hw 161 rfl) (by decide) e81 (argsL := [(.ref x)]) (rest := [(.int (1 : Int32)), (.ref b77)]) (rm_rn l Z a0 hw [] x h81 n0 O0) (W := 2) (by decide) (by decide) (by decide) (by decide) (by rw [hml]; rfl) (lenOf pd_3 rfl) rfl (Nat.le_of_eq rfl) (hb hby d_j56_m4_19) ?_
  intro v84 T84 L84 h84 X84 e84 q84
  obtain ⟨rv, n84, k84⟩ := q84
  replace rv : v84 = some (.ref x) := rv
  subst rv
  have e84 := e84.trans k84
  have N84 := Fr.app N81 n84
  show Run p e below _ (T84.setTop (mkF m 22 #[.val (.ref ea), .val (.ref b77), .val (.int (1 : Int32))] [(.ref x), (.int (1 : Int32)), (.ref b77)]))
  obtain ⟨cl85, Ar85, ak85, as85, an85, ah85, ag85⟩ := id V_b77
  have hin85 := inb_of as85 (j := (1 : Int32)) ⟨by decide, by decide⟩
  obtain ⟨T85, h85, X85, e85, W85, st85⟩ := stR X84 hx hZ e84 Ar85 (j := (1 : Int32)) hin85 rfl (Sto.ofV Ar85 ak85 O77 I_x) (g := (mkF m 22 #[.val (.ref ea), .val (.ref b77), .val (.int (1 : Int32))] [(.ref x), (.int (1 : Int32)), (.ref b77)])) rfl rfl (hb hby d_j56_m4_22)
  have I_x := I_x.wr W85
  have O0 := O0.wr W85 g_b77
  have V_ea := V_ea.other W85 ne_ea_b77
  have K0 := K0.wr W85 (Or.inr sz_b77)
  have V_b77 := (Arv.set Ar85 ak85 as85 an85 ah85 ag85 rfl W85 1 rfl (Nat.le_of_ble_eq_true rfl) : Arv Z h85 b77 k77 (.object "java/lang/Object") (3 : Int32) [(.ref x), (.ref x), .null] .null)
  have N85 := Fr.snoc X85 N84 g_b77
  refine go st85 ?_
  show Run p e below _ (T85.setTop (mkF m 23 #[.val (.ref ea), .val (.ref b77), .val (.int (1 : Int32))] []))
  refine go (fun _ => XS.iinc X85.here hx rfl (hb hby d_j56_m4_23) rfl (l' := #[.val (.ref ea), .val (.ref b77), .val (.int (2 : Int32))]) rfl) ?_
  show Run p e below _ (T85.setTop (mkF m 26 #[.val (.ref ea), .val (.ref b77), .val (.int (2 : Int32))] []))
  refine go (fun _ => XS.goto X85.here hx rfl (pc0 := 26) (pc' := 8) rfl (hb hby d_j56_m4_26) (by decide) (by decide)) ?_
  show Run p e below _ (T85.setTop (mkF m 8 #[.val (.ref ea), .val (.ref b77), .val (.int (2 : Int32))] []))
  refine go (fun _ => XS.iloadN X85.here hx rfl (hb hby d_j56_m4_8) rfl) ?_
  show Run p e below _ (T85.setTop (mkF m 9 #[.val (.ref ea), .val (.ref b77), .val (.int (2 : Int32))] [(.int (2 : Int32))]))
  refine go (fun _ => XS.aloadN X85.here hx rfl (hb hby d_j56_m4_9) rfl rfl) ?_
  show Run p e below _ (T85.setTop (mkF m 10 #[.val (.ref ea), .val (.ref b77), .val (.int (2 : Int32))] [(.ref ea), (.int (2 : Int32))]))
  obtain ⟨cl86, Ar86, ak86, as86, an86, ah86, ag86⟩ := id V_ea
  refine go (fun _ => X85.arraylength hx (by rw [e85]; exact Ar86.1) (State.isArrayOf_alike hZ.alike Ar86.2.1) (g := (mkF m 10 #[.val (.ref ea), .val (.ref b77), .val (.int (2 : Int32))] [(.ref ea), (.int (2 : Int32))])) rfl rfl (hb hby d_j56_m4_10) _) ?_
  rw [len_of as86 an86]
  show Run p e below _ (T85.setTop (mkF m 11 #[.val (.ref ea), .val (.ref b77), .val (.int (2 : Int32))] [(.int (3 : Int32)), (.int (2 : Int32))]))
  refine go (fun _ => XS.icmpNo X85.here hx rfl (hb hby d_j56_m4_11) rfl (tlt (by decide : (2 : Int32) < 3)).2.1) ?_
  show Run p e below _ (T85.setTop (mkF m 14 #[.val (.ref ea), .val (.ref b77), .val (.int (2 : Int32))] []))
  refine go (fun _ => XS.aloadN X85.here hx rfl (hb hby d_j56_m4_14) rfl rfl) ?_
  show Run p e below _ (T85.setTop (mkF m 15 #[.val (.ref ea), .val (.ref b77), .val (.int (2 : Int32))] [(.ref b77)]))
  refine go (fun _ => XS.iloadN X85.here hx rfl (hb hby d_j56_m4_15) rfl) ?_
  show Run p e below _ (T85.setTop (mkF m 16 #[.val (.ref ea), .val (.ref b77), .val (.int (2 : Int32))] [(.int (2 : Int32)), (.ref b77)]))
  refine go (fun _ => XS.aloadN X85.here hx rfl (hb hby d_j56_m4_16) rfl rfl) ?_
  show Run p e below _ (T85.setTop (mkF m 17 #[.val (.ref ea), .val (.ref b77), .val (.int (2 : Int32))] [(.ref ea), (.int (2 : Int32)), (.ref b77)]))
  refine go (fun _ => XS.iloadN X85.here hx rfl (hb hby d_j56_m4_17) rfl) ?_
  show Run p e below _ (T85.setTop (mkF m 18 #[.val (.ref ea), .val (.ref b77), .val (.int (2 : Int32))] [(.int (2 : Int32)), (.ref ea), (.int (2 : Int32)), (.ref b77)]))
  obtain ⟨cl87, Ar87, ak87, as87, an87, ah87, ag87⟩ := id V_ea
  have hin87 := inb_of as87 (j := (2 : Int32)) ⟨by decide, by decide⟩
  have hat87 := ah87.at hin87 (v := (.ref x)) rfl
  refine go (fun _ => X85.aaload hx (j := (2 : Int32)) (v := (.ref x)) (by rw [e85]; exact Ar87.1) (State.isArrayOf_alike hZ.alike Ar87.2.1) rfl Ar87.2.2 hin87 hat87 (g := (mkF m 18 #[.val (.ref ea), .val (.ref b77), .val (.int (2 : Int32))] [(.int (2 : Int32)), (.ref ea), (.int (2 : Int32)), (.ref b77)])) rfl rfl (hb hby d_j56_m4_18) _) ?_
  show Run p e below _ (T85.setTop (mkF m 19 #[.val (.ref ea), .val (.ref b77), .val (.int (2 : Int32))] [(.ref x), (.int (2 : Int32)), (.ref b77)]))
  refine callSt X85 hx hZ hown (wd hw 158 rfl) (wd hw 159 rfl) (wd hw 160 rfl) (wd hw 161 rfl) (by decide) e85 (argsL := [(.ref x)]) (rest := [(.int (2 : Int32)), (.ref b77)]) (rm_rn l Z a0 hw [] x h85 n0 O0) (W := 2) (by decide) (by decide) (by decide) (by decide) (by rw [hml]; rfl) (lenOf pd_3 rfl) rfl (Nat.le_of_eq rfl) (hb hby d_j56_m4_19) ?_
  intro v88 T88 L88 h88 X88 e88 q88
  obtain ⟨rv, n88, k88⟩ := q88
  replace rv : v88 = some (.ref x) := rv
  subst rv
  have e88 := e88.trans k88
  have N88 := Fr.app N85 n88
  show Run p e below _ (T88.setTop (mkF m 22 #[.val (.ref ea), .val (.ref b77), .val (.int (2 : Int32))] [(.ref x), (.int (2 : Int32)), (.ref b77)]))
  obtain ⟨cl89, Ar89, ak89, as89, an89, ah89, ag89⟩ := id V_b77
  have hin89 := inb_of as89 (j := (2 : Int32)) ⟨by decide, by decide⟩
  obtain ⟨T89, h89, X89, e89, W89, st89⟩ := stR X88 hx hZ e88 Ar89 (j := (2 : Int32)) hin89 rfl (Sto.ofV Ar89 ak89 O77 I_x) (g := (mkF m 22 #[.val (.ref ea), .val (.ref b77), .val (.int (2 : Int32))] [(.ref x), (.int (2 : Int32)), (.ref b77)])) rfl rfl (hb hby d_j56_m4_22)
  have I_x := I_x.wr W89
  have O0 := O0.wr W89 g_b77
  have V_ea := V_ea.other W89 ne_ea_b77
  have K0 := K0.wr W89 (Or.inr sz_b77)
  have V_b77 := (Arv.set Ar89 ak89 as89 an89 ah89 ag89 rfl W89 2 rfl (Nat.le_of_ble_eq_true rfl) : Arv Z h89 b77 k77 (.object "java/lang/Object") (3 : Int32) [(.ref x), (.ref x), (.ref x)] .null)
  have N89 := Fr.snoc X89 N88 g_b77
  refine go st89 ?_
  show Run p e below _ (T89.setTop (mkF m 23 #[.val (.ref ea), .val (.ref b77), .val (.int (2 : Int32))] []))
  refine go (fun _ => XS.iinc X89.here hx rfl (hb hby d_j56_m4_23) rfl (l' := #[.val (.ref ea), .val (.ref b77), .val (.int (3 : Int32))]) rfl) ?_
  show Run p e below _ (T89.setTop (mkF m 26 #[.val (.ref ea), .val (.ref b77), .val (.int (3 : Int32))] []))
  refine go (fun _ => XS.goto X89.here hx rfl (pc0 := 26) (pc' := 8) rfl (hb hby d_j56_m4_26) (by decide) (by decide)) ?_
  show Run p e below _ (T89.setTop (mkF m 8 #[.val (.ref ea), .val (.ref b77), .val (.int (3 : Int32))] []))
  refine go (fun _ => XS.iloadN X89.here hx rfl (hb hby d_j56_m4_8) rfl) ?_
  show Run p e below _ (T89.setTop (mkF m 9 #[.val (.ref ea), .val (.ref b77), .val (.int (3 : Int32))] [(.int (3 : Int32))]))
  refine go (fun _ => XS.aloadN X89.here hx rfl (hb hby d_j56_m4_9) rfl rfl) ?_
  show Run p e below _ (T89.setTop (mkF m 10 #[.val (.ref ea), .val (.ref b77), .val (.int (3 : Int32))] [(.ref ea), (.int (3 : Int32))]))
  obtain ⟨cl90, Ar90, ak90, as90, an90, ah90, ag90⟩ := id V_ea
  refine go (fun _ => X89.arraylength hx (by rw [e89]; exact Ar90.1) (State.isArrayOf_alike hZ.alike Ar90.2.1) (g := (mkF m 10 #[.val (.ref ea), .val (.ref b77), .val (.int (3 : Int32))] [(.ref ea), (.int (3 : Int32))])) rfl rfl (hb hby d_j56_m4_10) _) ?_
  rw [len_of as90 an90]
  show Run p e below _ (T89.setTop (mkF m 11 #[.val (.ref ea), .val (.ref b77), .val (.int (3 : Int32))] [(.int (3 : Int32)), (.int (3 : Int32))]))
  refine go (fun _ => XS.icmpYes X89.here hx rfl (pc0 := 11) (pc' := 29) rfl (hb hby d_j56_m4_11) rfl (flt (by decide : ¬ ((3 : Int32) < 3))).2.1 (by decide) (by decide)) ?_
  show Run p e below _ (T89.setTop (mkF m 29 #[.val (.ref ea), .val (.ref b77), .val (.int (3 : Int32))] []))
  obtain ⟨T91, h91, X91, e91, E91, A91, D91, -, st91⟩ := newO X89 hx hZ hown (wd hw 46 rfl) (wd hw 162 rfl) (wd hw 163 rfl) e89 (g := (mkF m 29 #[.val (.ref ea), .val (.ref b77), .val (.int (3 : Int32))] [])) rfl (hb hby d_j56_m4_29) (by decide) (by decide)
  obtain ⟨b91, y91⟩ : ∃ z, z = h89.size := ⟨_, rfl⟩
  rw [← y91] at A91 D91 st91
  have g_b91 : n0 ≤ b91 := y91.symm ▸ old_sz O0
  have sz_b91 : h0.size ≤ b91 := y91.symm ▸ K0.1
  have ne_ea_b91 : ea ≠ b91 := Nat.ne_of_lt (y91.symm ▸ V_ea.lt)
  have ne_b77_b91 : b77 ≠ b91 := Nat.ne_of_lt (y91.symm ▸ V_b77.lt)
  have O0 := O0.ext E91
  have V_ea := V_ea.ext E91
  have I_x := I_x.ext E91
  have K0 := K0.ext E91
  have V_b77 := V_b77.ext E91
  have E_b91 := A91
  have F_elements_b91 : Fld Z h91 b91 "java/util/ImmutableCollections$ListN" "elements" "[Ljava/lang/Object;" .null := D91 (Or.inr (wd hw 183 rfl)) (ty := (.array (.object "java/lang/Object"))) (by decide)
  have F_allowNulls_b91 : Fld Z h91 b91 "java/util/ImmutableCollections$ListN" "allowNulls" "Z" (.int (0 : Int32)) := D91 (Or.inr (wd hw 185 rfl)) (ty := .boolean) (by decide)
  refine go st91 ?_
  show Run p e below _ (T91.setTop (mkF m 32 #[.val (.ref ea), .val (.ref b77), .val (.int (3 : Int32))] [(.ref b91)]))
  refine go (fun _ => XS.dup X91.here hx rfl (hb hby d_j56_m4_32) rfl rfl) ?_
  show Run p e below _ (T91.setTop (mkF m 33 #[.val (.ref ea), .val (.ref b77), .val (.int (3 : Int32))] [(.ref b91), (.ref b91)]))
  refine go (fun _ => XS.aloadN X91.here hx rfl (hb hby d_j56_m4_33) rfl rfl) ?_
  show Run p e below _ (T91.setTop (mkF m 34 #[.val (.ref ea), .val (.ref b77), .val (.int (3 : Int32))] [(.ref b77), (.ref b91), (.ref b91)]))
  refine go (fun _ => XS.iconst X91.here hx rfl (hb hby d_j56_m4_34)) ?_
  show Run p e below _ (T91.setTop (mkF m 35 #[.val (.ref ea), .val (.ref b77), .val (.int (3 : Int32))] [(.int (0 : Int32)), (.ref b77), (.ref b91), (.ref b91)]))
  refine callSpN X91 hx hZ rfl hown (wd hw 164 rfl) (wd hw 165 rfl) (wd hw 167 rfl) (wd hw 163 rfl) (by decide) e91 (a := b91) (argsL := [(.ref b77), (.int (0 : Int32))]) (rest := [(.ref b91)]) (rm_lN l Z a0 hw [] b91 b77 h91 n0 O0 E_b91 F_elements_b91 F_allowNulls_b91 g_b91) (W := 1) (by decide) (by decide) (by decide) (by decide) (by rw [hml]; rfl) (lenOf pd_6 rfl) rfl (Nat.le_of_eq rfl) (hb hby d_j56_m4_35) ?_
  intro v92 T92 L92 h92 X92 e92 q92
  obtain ⟨rfl, n92, K92, E_b91, F_elements_b91⟩ := q92
  have O0 := O0.keep K92 (allS g_b91 all0)
  have V_ea := V_ea.keep K92 (ninS ne_ea_b91 nin0)
  have I_x := own_insK I_x K92
  have K0 := K0.trans K92 (allS (Or.inr sz_b91) all0)
  have V_b77 := V_b77.keep K92 (ninS ne_b77_b91 nin0)
  have N92 := Fr.app N89 n92
  show Run p e below _ (T92.setTop (mkF m 38 #[.val (.ref ea), .val (.ref b77), .val (.int (3 : Int32))] [(.ref b91)]))
  exact endA X92 hx hlk (w := (.ref b91)) hret rfl rfl (hb hby d_j56_m4_38) (by rw [e92]; exact ⟨b91, rfl, N92, K0, Or.inr ⟨E_b91, b77, _, _, _, F_elements_b91, V_b77, rfl⟩⟩) (by decide) (by decide)
theorem d_j40_m47_0 : decode jdk_40_method_47_code 0 = .ok (.aload_n 0, 1) := by decide +kernel
theorem d_j40_m47_1 : decode jdk_40_method_47_code 1 = .ok (.arraylength, 1) := by decide +kernel
theorem d_j40_m47_2 : decode jdk_40_method_47_code 2 = .ok (.tableswitch 57 0 2 #[26, 32, 43], 26) := by decide +kernel
theorem d_j40_m47_34 : decode jdk_40_method_47_code 34 = .ok (.new 96, 3) := by decide +kernel
theorem d_j40_m47_37 : decode jdk_40_method_47_code 37 = .ok (.dup, 1) := by decide +kernel
theorem d_j40_m47_38 : decode jdk_40_method_47_code 38 = .ok (.aload_n 0, 1) := by decide +kernel
theorem d_j40_m47_39 : decode jdk_40_method_47_code 39 = .ok (.iconst 0, 1) := by decide +kernel
theorem d_j40_m47_40 : decode jdk_40_method_47_code 40 = .ok (.aaload, 1) := by decide +kernel
theorem d_j40_m47_41 : decode jdk_40_method_47_code 41 = .ok (.invokespecial 98, 3) := by decide +kernel
theorem pd_7 : parseMethodDescriptor "(Ljava/lang/Object;)V" = some ⟨[(.object "java/lang/Object")], none⟩ := by decide +kernel
theorem d_j40_m47_44 : decode jdk_40_method_47_code 44 = .ok (.areturn, 1) := by decide +kernel
def Q_rm_of1 (Z : State) (ea x wE : Addr) (ke : ClassId) (h0 : Heap) (n0 : Nat) (v : Option Value) (h : Heap) (L : List Loc) : Prop := ∃ b : Addr, v = some (.ref b) ∧ Fr n0 L ∧ Keep h0 h [] ∧ IL Z h b false
set_option maxRecDepth 65536 in
set_option maxHeartbeats 40000000 in
theorem rm_of1 (l : Launch) (Z : State) (a0 : Array Value) (hw : ∀ d ∈ tables_1, d.before a0 Z = true) (ws : List Jvm.Cond) (ea x wE : Addr) (ke : ClassId) (h0 : Heap) (n0 : Nat) (O0 : Old Z n0 h0) (S_EMPTY : Sta Z Z.heap "java/util/ImmutableCollections" "EMPTY" "Ljava/lang/Object;" (.ref wE)) (V_ea : Arv Z h0 ea ke (.object "java/lang/Object") (1 : Int32) [(.ref x)] .null) (I_x : Ins Z h0 x "java/lang/Object" true) :
    Meets l (⟨"java/util/List", "of", "([Ljava/lang/Object;)Ljava/util/List;"⟩ : MethodName) jdk_40_method_47_code 2 (some (.object "java/util/List")) ws ({ frames := 5, cells := 1, slots := 2, locals := 62 } : Room) Z #[(.ref ea)] h0 (Q_rm_of1 Z ea x wE ke h0 n0) 1 2 := by
  refine enter (Ls := #[.val (.ref ea), .unset]) (plainFor_of_name pn_5) (fun m => by first | (simp [entryFrame, mkF, argsToLocals, Value.category]; done) | rfl) ?_
  intro p e s m below meth c T0 hx hby hml hown hnm hret hlk hZ X0 e0
  have N0 := Fr.nil n0
  replace hown : s.vm.findClass "java/util/List" = some m.cls := hown
  show Run p e below _ (T0.setTop (mkF m 0 #[.val (.ref ea), .unset] []))
  have K0 := Keep.refl h0 []
  refine go (fun _ => XS.aloadN X0.here hx rfl (hb hby d_j40_m47_0) rfl rfl) ?_
  show Run p e below _ (T0.setTop (mkF m 1 #[.val (.ref ea), .unset] [(.ref ea)]))
  obtain ⟨cl93, Ar93, ak93, as93, an93, ah93, ag93⟩ := id V_ea
  refine go (fun _ => X0.arraylength hx (by rw [e0]; exact Ar93.1) (State.isArrayOf_alike hZ.alike Ar93.2.1) (g := (mkF m 1 #[.val (.ref ea), .unset] [(.ref ea)])) rfl rfl (hb hby d_j40_m47_1) _) ?_
  rw [len_of as93 an93]
  show Run p e below _ (T0.setTop (mkF m 2 #[.val (.ref ea), .unset] [(.int (1 : Int32))]))
  have sa94 : ¬ ((1 : Int32).toInt < (0 : Int) ∨ (1 : Int32).toInt > (2 : Int)) := by decide
  have sb94 : (#[26, 32, 43] : Array Int)[((1 : Int32).toInt - (0 : Int)).toNat]? = some (32 : Int) := by decide
  refine goTsw X0.here hx (hb hby d_j40_m47_2) sa94 sb94 (by decide) (pc' := 34) (by decide) ?_
  show Run p e below _ (T0.setTop (mkF m 34 #[.val (.ref ea), .unset] []))
  obtain ⟨T95, h95, X95, e95, E95, A95, D95, -, st95⟩ := newO X0 hx hZ hown (wd hw 205 rfl) (wd hw 206 rfl) (wd hw 207 rfl) e0 (g := (mkF m 34 #[.val (.ref ea), .unset] [])) rfl (hb hby d_j40_m47_34) (by decide) (by decide)
  obtain ⟨b95, y95⟩ : ∃ z, z = h0.size := ⟨_, rfl⟩
  rw [← y95] at A95 D95 st95
  have g_b95 : n0 ≤ b95 := y95.symm ▸ old_sz O0
  have sz_b95 : h0.size ≤ b95 := y95.symm ▸ K0.1
  have ne_ea_b95 : ea ≠ b95 := Nat.ne_of_lt (y95.symm ▸ V_ea.lt)
  have O0 := O0.ext E95
  have V_ea := V_ea.ext E95
  have I_x := I_x.ext E95
  have K0 := K0.ext E95
  have E_b95 := A95
  have F_e0_b95 : Fld Z h95 b95 "java/util/ImmutableCollections$List12" "e0" "Ljava/lang/Object;" .null := D95 (Or.inr (wd hw 218 rfl)) (ty := (.object "java/lang/Object")) (by decide)
  have F_e1_b95 : Fld Z h95 b95 "java/util/ImmutableCollections$List12" "e1" "Ljava/lang/Object;" .null := D95 (Or.inr (wd hw 220 rfl)) (ty := (.object "java/lang/Object")) (by decide)
  refine go st95 ?_
  show Run p e below _ (T95.setTop (mkF m 37 #[.val (.ref ea), .unset] [(.ref b95)]))
  refine go (fun _ => XS.dup X95.here hx rfl (hb hby d_j40_m47_37) rfl rfl) ?_
  show Run p e below _ (T95.setTop (mkF m 38 #[.val (.ref ea), .unset] [(.ref b95), (.ref b95)]))
  refine go (fun _ => XS.aloadN X95.here hx rfl (hb hby d_j40_m47_38) rfl rfl) ?_
  show Run p e below _ (T95.setTop (mkF m 39 #[.val (.ref ea), .unset] [(.ref ea), (.ref b95), (.ref b95)]))
  refine go (fun _ => XS.iconst X95.here hx rfl (hb hby d_j40_m47_39)) ?_
  show Run p e below _ (T95.setTop (mkF m 40 #[.val (.ref ea), .unset] [(.int (0 : Int32)), (.ref ea), (.ref b95), (.ref b95)]))
  obtain ⟨cl96, Ar96, ak96, as96, an96, ah96, ag96⟩ := id V_ea
  have hin96 := inb_of as96 (j := (0 : Int32)) ⟨by decide, by decide⟩
  have hat96 := ah96.at hin96 (v := (.ref x)) rfl
  refine go (fun _ => X95.aaload hx (j := (0 : Int32)) (v := (.ref x)) (by rw [e95]; exact Ar96.1) (State.isArrayOf_alike hZ.alike Ar96.2.1) rfl Ar96.2.2 hin96 hat96 (g := (mkF m 40 #[.val (.ref ea), .unset] [(.int (0 : Int32)), (.ref ea), (.ref b95), (.ref b95)])) rfl rfl (hb hby d_j40_m47_40) _) ?_
  show Run p e below _ (T95.setTop (mkF m 41 #[.val (.ref ea), .unset] [(.ref x), (.ref b95), (.ref b95)]))
  refine callSp X95 hx hZ rfl hown (wd hw 221 rfl) (wd hw 222 rfl) (wd hw 223 rfl) (wd hw 207 rfl) (by decide) e95 (a := b95) (argsL := [(.ref x)]) (rest := [(.ref b95)]) (rm_l1 l Z a0 hw [] b95 x wE h95 n0 O0 S_EMPTY E_b95 F_e0_b95 F_e1_b95 g_b95) (W := 1) (by decide) (by decide) (by decide) (by decide) (by rw [hml]; rfl) (lenOf pd_7 rfl) rfl (Nat.le_of_eq rfl) (hb hby d_j40_m47_41) ?_
  intro v97 T97 L97 h97 X97 e97 q97
  obtain ⟨rfl, n97, K97, E_b95⟩ := q97
  have O0 := O0.keep K97 (allS g_b95 all0)
  have V_ea := V_ea.keep K97 (ninS ne_ea_b95 nin0)
  have I_x := own_insK I_x K97
  have K0 := K0.trans K97 (allS (Or.inr sz_b95) all0)
  have N97 := Fr.app N0 n97
  show Run p e below _ (T97.setTop (mkF m 44 #[.val (.ref ea), .unset] [(.ref b95)]))
  exact endA X97 hx hlk (w := (.ref b95)) hret rfl rfl (hb hby d_j40_m47_44) (by rw [e97]; exact ⟨b95, rfl, N97, K0, Or.inl ⟨E_b95, rfl⟩⟩) (by decide) (by decide)
theorem d_j40_m47_45 : decode jdk_40_method_47_code 45 = .ok (.new 96, 3) := by decide +kernel
theorem d_j40_m47_48 : decode jdk_40_method_47_code 48 = .ok (.dup, 1) := by decide +kernel
theorem d_j40_m47_49 : decode jdk_40_method_47_code 49 = .ok (.aload_n 0, 1) := by decide +kernel
theorem d_j40_m47_50 : decode jdk_40_method_47_code 50 = .ok (.iconst 0, 1) := by decide +kernel
theorem d_j40_m47_51 : decode jdk_40_method_47_code 51 = .ok (.aaload, 1) := by decide +kernel
theorem d_j40_m47_52 : decode jdk_40_method_47_code 52 = .ok (.aload_n 0, 1) := by decide +kernel
theorem d_j40_m47_53 : decode jdk_40_method_47_code 53 = .ok (.iconst 1, 1) := by decide +kernel
theorem d_j40_m47_54 : decode jdk_40_method_47_code 54 = .ok (.aaload, 1) := by decide +kernel
theorem d_j40_m47_55 : decode jdk_40_method_47_code 55 = .ok (.invokespecial 100, 3) := by decide +kernel
theorem pd_8 : parseMethodDescriptor "(Ljava/lang/Object;Ljava/lang/Object;)V" = some ⟨[(.object "java/lang/Object"), (.object "java/lang/Object")], none⟩ := by decide +kernel
theorem d_j40_m47_58 : decode jdk_40_method_47_code 58 = .ok (.areturn, 1) := by decide +kernel
def Q_rm_of2 (Z : State) (ea x wE : Addr) (ke : ClassId) (h0 : Heap) (n0 : Nat) (v : Option Value) (h : Heap) (L : List Loc) : Prop := ∃ b : Addr, v = some (.ref b) ∧ Fr n0 L ∧ Keep h0 h [] ∧ IL Z h b false
set_option maxRecDepth 65536 in
set_option maxHeartbeats 40000000 in
theorem rm_of2 (l : Launch) (Z : State) (a0 : Array Value) (hw : ∀ d ∈ tables_1, d.before a0 Z = true) (ws : List Jvm.Cond) (ea x wE : Addr) (ke : ClassId) (h0 : Heap) (n0 : Nat) (O0 : Old Z n0 h0) (S_EMPTY : Sta Z Z.heap "java/util/ImmutableCollections" "EMPTY" "Ljava/lang/Object;" (.ref wE)) (V_ea : Arv Z h0 ea ke (.object "java/lang/Object") (2 : Int32) [(.ref x), (.ref x)] .null) (I_x : Ins Z h0 x "java/lang/Object" true) :
    Meets l (⟨"java/util/List", "of", "([Ljava/lang/Object;)Ljava/util/List;"⟩ : MethodName) jdk_40_method_47_code 2 (some (.object "java/util/List")) ws ({ frames := 5, cells := 1, slots := 2, locals := 63 } : Room) Z #[(.ref ea)] h0 (Q_rm_of2 Z ea x wE ke h0 n0) 1 2 := by
  refine enter (Ls := #[.val (.ref ea), .unset]) (plainFor_of_name pn_5) (fun m => by first | (simp [entryFrame, mkF, argsToLocals, Value.category]; done) | rfl) ?_
  intro p e s m below meth c T0 hx hby hml hown hnm hret hlk hZ X0 e0
  have N0 := Fr.nil n0
  replace hown : s.vm.findClass "java/util/List" = some m.cls := hown
  show Run p e below _ (T0.setTop (mkF m 0 #[.val (.ref ea), .unset] []))
  have K0 := Keep.refl h0 []
  refine go (fun _ => XS.aloadN X0.here hx rfl (hb hby d_j40_m47_0) rfl rfl) ?_
  show Run p e below _ (T0.setTop (mkF m 1 #[.val (.ref ea), .unset] [(.ref ea)]))
  obtain ⟨cl98, Ar98, ak98, as98, an98, ah98, ag98⟩ := id V_ea
  refine go (fun _ => X0.arraylength hx (by rw [e0]; exact Ar98.1) (State.isArrayOf_alike hZ.alike Ar98.2.1) (g := (mkF m 1 #[.val (.ref ea), .unset] [(.ref ea)])) rfl rfl (hb hby d_j40_m47_1) _) ?_
  rw [len_of as98 an98]
  show Run p e below _ (T0.setTop (mkF m 2 #[.val (.ref ea), .unset] [(.int (2 : Int32))]))
  have sa99 : ¬ ((2 : Int32).toInt < (0 : Int) ∨ (2 : Int32).toInt > (2 : Int)) := by decide
  have sb99 : (#[26, 32, 43] : Array Int)[((2 : Int32).toInt - (0 : Int)).toNat]? = some (43 : Int) := by decide
  refine goTsw X0.here hx (hb hby d_j40_m47_2) sa99 sb99 (by decide) (pc' := 45) (by decide) ?_
  show Run p e below _ (T0.setTop (mkF m 45 #[.val (.ref ea), .unset] []))
  obtain ⟨T100, h100, X100, e100, E100, A100, D100, -, st100⟩ := newO X0 hx hZ hown (wd hw 205 rfl) (wd hw 206 rfl) (wd hw 207 rfl) e0 (g := (mkF m 45 #[.val (.ref ea), .unset] [])) rfl (hb hby d_j40_m47_45) (by decide) (by decide)
  obtain ⟨b100, y100⟩ : ∃ z, z = h0.size := ⟨_, rfl⟩
  rw [← y100] at A100 D100 st100
  have g_b100 : n0 ≤ b100 := y100.symm ▸ old_sz O0
  have sz_b100 : h0.size ≤ b100 := y100.symm ▸ K0.1
  have ne_ea_b100 : ea ≠ b100 := Nat.ne_of_lt (y100.symm ▸ V_ea.lt)
  have O0 := O0.ext E100
  have V_ea := V_ea.ext E100
  have I_x := I_x.ext E100
  have K0 := K0.ext E100
  have E_b100 := A100
  have F_e0_b100 : Fld Z h100 b100 "java/util/ImmutableCollections$List12" "e0" "Ljava/lang/Object;" .null := D100 (Or.inr (wd hw 218 rfl)) (ty := (.object "java/lang/Object")) (by decide)
  have F_e1_b100 : Fld Z h100 b100 "java/util/ImmutableCollections$List12" "e1" "Ljava/lang/Object;" .null := D100 (Or.inr (wd hw 220 rfl)) (ty := (.object "java/lang/Object")) (by decide)
  refine go st100 ?_
  show Run p e below _ (T100.setTop (mkF m 48 #[.val (.ref ea), .unset] [(.ref b100)]))
  refine go (fun _ => XS.dup X100.here hx rfl (hb hby d_j40_m47_48) rfl rfl) ?_
  show Run p e below _ (T100.setTop (mkF m 49 #[.val (.ref ea), .unset] [(.ref b100), (.ref b100)]))
  refine go (fun _ => XS.aloadN X100.here hx rfl (hb hby d_j40_m47_49) rfl rfl) ?_
  show Run p e below _ (T100.setTop (mkF m 50 #[.val (.ref ea), .unset] [(.ref ea), (.ref b100), (.ref b100)]))
  refine go (fun _ => XS.iconst X100.here hx rfl (hb hby d_j40_m47_50)) ?_
  show Run p e below _ (T100.setTop (mkF m 51 #[.val (.ref ea), .unset] [(.int (0 : Int32)), (.ref ea), (.ref b100), (.ref b100)]))
  obtain ⟨cl101, Ar101, ak101, as101, an101, ah101, ag101⟩ := id V_ea
  have hin101 := inb_of as101 (j := (0 : Int32)) ⟨by decide, by decide⟩
  have hat101 := ah101.at hin101 (v := (.ref x)) rfl
  refine go (fun _ => X100.aaload hx (j := (0 : Int32)) (v := (.ref x)) (by rw [e100]; exact Ar101.1) (State.isArrayOf_alike hZ.alike Ar101.2.1) rfl Ar101.2.2 hin101 hat101 (g := (mkF m 51 #[.val (.ref ea), .unset] [(.int (0 : Int32)), (.ref ea), (.ref b100), (.ref b100)])) rfl rfl (hb hby d_j40_m47_51) _) ?_
  show Run p e below _ (T100.setTop (mkF m 52 #[.val (.ref ea), .unset] [(.ref x), (.ref b100), (.ref b100)]))
  refine go (fun _ => XS.aloadN X100.here hx rfl (hb hby d_j40_m47_52) rfl rfl) ?_
  show Run p e below _ (T100.setTop (mkF m 53 #[.val (.ref ea), .unset] [(.ref ea), (.ref x), (.ref b100), (.ref b100)]))
  refine go (fun _ => XS.iconst X100.here hx rfl (hb hby d_j40_m47_53)) ?_
  show Run p e below _ (T100.setTop (mkF m 54 #[.val (.ref ea), .unset] [(.int (1 : Int32)), (.ref ea), (.ref x), (.ref b100), (.ref b100)]))
  obtain ⟨cl102, Ar102, ak102, as102, an102, ah102, ag102⟩ := id V_ea
  have hin102 := inb_of as102 (j := (1 : Int32)) ⟨by decide, by decide⟩
  have hat102 := ah102.at hin102 (v := (.ref x)) rfl
  refine go (fun _ => X100.aaload hx (j := (1 : Int32)) (v := (.ref x)) (by rw [e100]; exact Ar102.1) (State.isArrayOf_alike hZ.alike Ar102.2.1) rfl Ar102.2.2 hin102 hat102 (g := (mkF m 54 #[.val (.ref ea), .unset] [(.int (1 : Int32)), (.ref ea), (.ref x), (.ref b100), (.ref b100)])) rfl rfl (hb hby d_j40_m47_54) _) ?_
  show Run p e below _ (T100.setTop (mkF m 55 #[.val (.ref ea), .unset] [(.ref x), (.ref x), (.ref b100), (.ref b100)]))
  refine callSp X100 hx hZ rfl hown (wd hw 208 rfl) (wd hw 209 rfl) (wd hw 211 rfl) (wd hw 207 rfl) (by decide) e100 (a := b100) (argsL := [(.ref x), (.ref x)]) (rest := [(.ref b100)]) (rm_l2 l Z a0 hw [] b100 x x h100 n0 O0 E_b100 F_e0_b100 F_e1_b100 g_b100) (W := 1) (by decide) (by decide) (by decide) (by decide) (by rw [hml]; rfl) (lenOf pd_8 rfl) rfl (Nat.le_of_eq rfl) (hb hby d_j40_m47_55) ?_
  intro v103 T103 L103 h103 X103 e103 q103
  obtain ⟨rfl, n103, K103, E_b100⟩ := q103
  have O0 := O0.keep K103 (allS g_b100 all0)
  have V_ea := V_ea.keep K103 (ninS ne_ea_b100 nin0)
  have I_x := own_insK I_x K103
  have K0 := K0.trans K103 (allS (Or.inr sz_b100) all0)
  have N103 := Fr.app N0 n103
  show Run p e below _ (T103.setTop (mkF m 58 #[.val (.ref ea), .unset] [(.ref b100)]))
  exact endA X103 hx hlk (w := (.ref b100)) hret rfl rfl (hb hby d_j40_m47_58) (by rw [e103]; exact ⟨b100, rfl, N103, K0, Or.inl ⟨E_b100, rfl⟩⟩) (by decide) (by decide)
theorem d_j40_m47_59 : decode jdk_40_method_47_code 59 = .ok (.aload_n 0, 1) := by decide +kernel
theorem d_j40_m47_60 : decode jdk_40_method_47_code 60 = .ok (.invokestatic 109, 3) := by decide +kernel
theorem pd_9 : parseMethodDescriptor "([Ljava/lang/Object;)Ljava/util/List;" = some ⟨[(.array (.object "java/lang/Object"))], some (.object "java/util/List")⟩ := by decide +kernel
theorem d_j40_m47_63 : decode jdk_40_method_47_code 63 = .ok (.areturn, 1) := by decide +kernel
def Q_rm_of3 (Z : State) (ea x wE : Addr) (ke : ClassId) (h0 : Heap) (n0 : Nat) (v : Option Value) (h : Heap) (L : List Loc) : Prop := ∃ b : Addr, v = some (.ref b) ∧ Fr n0 L ∧ Keep h0 h [] ∧ IL Z h b false
set_option maxRecDepth 65536 in
set_option maxHeartbeats 40000000 in
theorem rm_of3 (l : Launch) (Z : State) (a0 : Array Value) (hw : ∀ d ∈ tables_1, d.before a0 Z = true) (ws : List Jvm.Cond) (ea x wE : Addr) (ke : ClassId) (h0 : Heap) (n0 : Nat) (O0 : Old Z n0 h0) (S_EMPTY : Sta Z Z.heap "java/util/ImmutableCollections" "EMPTY" "Ljava/lang/Object;" (.ref wE)) (V_ea : Arv Z h0 ea ke (.object "java/lang/Object") (3 : Int32) [(.ref x), (.ref x), (.ref x)] .null) (I_x : Ins Z h0 x "java/lang/Object" true) :
    Meets l (⟨"java/util/List", "of", "([Ljava/lang/Object;)Ljava/util/List;"⟩ : MethodName) jdk_40_method_47_code 2 (some (.object "java/util/List")) ws ({ frames := 6, cells := 2, slots := 5, locals := 77 } : Room) Z #[(.ref ea)] h0 (Q_rm_of3 Z ea x wE ke h0 n0) 2 5 := by
  refine enter (Ls := #[.val (.ref ea), .unset]) (plainFor_of_name pn_5) (fun m => by first | (simp [entryFrame, mkF, argsToLocals, Value.category]; done) | rfl) ?_
  intro p e s m below meth c T0 hx hby hml hown hnm hret hlk hZ X0 e0
  have N0 := Fr.nil n0
  replace hown : s.vm.findClass "java/util/List" = some m.cls := hown
  show Run p e below _ (T0.setTop (mkF m 0 #[.val (.ref ea), .unset] []))
  have K0 := Keep.refl h0 []
  refine go (fun _ => XS.aloadN X0.here hx rfl (hb hby d_j40_m47_0) rfl rfl) ?_
  show Run p e below _ (T0.setTop (mkF m 1 #[.val (.ref ea), .unset] [(.ref ea)]))
  obtain ⟨cl104, Ar104, ak104, as104, an104, ah104, ag104⟩ := id V_ea
  refine go (fun _ => X0.arraylength hx (by rw [e0]; exact Ar104.1) (State.isArrayOf_alike hZ.alike Ar104.2.1) (g := (mkF m 1 #[.val (.ref ea), .unset] [(.ref ea)])) rfl rfl (hb hby d_j40_m47_1) _) ?_
  rw [len_of as104 an104]
  show Run p e below _ (T0.setTop (mkF m 2 #[.val (.ref ea), .unset] [(.int (3 : Int32))]))
  have sa105 : ((3 : Int32).toInt < (0 : Int) ∨ (3 : Int32).toInt > (2 : Int)) := by decide
  refine goTswD X0.here hx (hb hby d_j40_m47_2) sa105 (by decide) (pc' := 59) (by decide) ?_
  show Run p e below _ (T0.setTop (mkF m 59 #[.val (.ref ea), .unset] []))
  refine go (fun _ => XS.aloadN X0.here hx rfl (hb hby d_j40_m47_59) rfl rfl) ?_
  show Run p e below _ (T0.setTop (mkF m 60 #[.val (.ref ea), .unset] [(.ref ea)]))
  refine callSt X0 hx hZ hown (wd hw 154 rfl) (wd hw 155 rfl) (wd hw 39 rfl) (wd hw 156 rfl) (by decide) e0 (argsL := [(.ref ea)]) (rest := []) (rm_lfa l Z a0 hw [] ea x ke h0 n0 O0 V_ea I_x) (W := 0) (by decide) (by decide) (by decide) (by decide) (by rw [hml]; rfl) (lenOf pd_9 rfl) rfl (Nat.le_of_eq rfl) (hb hby d_j40_m47_60) ?_
  intro v106 T106 L106 h106 X106 e106 q106
  obtain ⟨b106, rfl, n106, K106, IL106⟩ := q106
  have O0 := O0.keep K106 all0
  have V_ea := V_ea.keep K106 nin0
  have I_x := own_insK I_x K106
  have K0 := K0.trans K106 all0
  have N106 := Fr.app N0 n106
  show Run p e below _ (T106.setTop (mkF m 63 #[.val (.ref ea), .unset] [(.ref b106)]))
  exact endA X106 hx hlk (w := (.ref b106)) hret rfl rfl (hb hby d_j40_m47_63) (by rw [e106]; exact ⟨b106, rfl, N106, K0, IL106⟩) (by decide) (by decide)
theorem d_j56_m3_0 : decode jdk_56_method_3_code 0 = .ok (.aload_n 0, 1) := by decide +kernel
theorem d_j56_m3_1 : decode jdk_56_method_3_code 1 = .ok (.instanceof 10, 3) := by decide +kernel
theorem d_j56_m3_4 : decode jdk_56_method_3_code 4 = .ok (.ifCond .ne 22, 3) := by decide +kernel
theorem d_j56_m3_7 : decode jdk_56_method_3_code 7 = .ok (.aload_n 0, 1) := by decide +kernel
theorem d_j56_m3_8 : decode jdk_56_method_3_code 8 = .ok (.instanceof 12, 3) := by decide +kernel
theorem d_j56_m3_11 : decode jdk_56_method_3_code 11 = .ok (.ifCond .eq 20, 3) := by decide +kernel
theorem d_j56_m3_31 : decode jdk_56_method_3_code 31 = .ok (.aload_n 0, 1) := by decide +kernel
theorem d_j56_m3_32 : decode jdk_56_method_3_code 32 = .ok (.invokeinterface 20 1, 5) := by decide +kernel
theorem pd_10 : parseMethodDescriptor "()Z" = some ⟨[], some .boolean⟩ := by decide +kernel
theorem d_j56_m3_37 : decode jdk_56_method_3_code 37 = .ok (.ifCond .eq 7, 3) := by decide +kernel
theorem d_j56_m3_44 : decode jdk_56_method_3_code 44 = .ok (.aload_n 0, 1) := by decide +kernel
theorem d_j56_m3_45 : decode jdk_56_method_3_code 45 = .ok (.invokeinterface 30 1, 5) := by decide +kernel
theorem pd_11 : parseMethodDescriptor "()[Ljava/lang/Object;" = some ⟨[], some (.array (.object "java/lang/Object"))⟩ := by decide +kernel
theorem d_j56_m3_50 : decode jdk_56_method_3_code 50 = .ok (.invokestatic 34, 3) := by decide +kernel
theorem d_j56_m3_53 : decode jdk_56_method_3_code 53 = .ok (.areturn, 1) := by decide +kernel
def Q_rm_lc3 (Z : State) (a x mr wEL wE ea : Addr) (ke : ClassId) (h0 : Heap) (n0 : Nat) (v : Option Value) (h : Heap) (L : List Loc) : Prop := ∃ b : Addr, v = some (.ref b) ∧ Fr n0 L ∧ Keep h0 h [] ∧ IL Z h b false
set_option maxRecDepth 65536 in
set_option maxHeartbeats 40000000 in
theorem rm_lc3 (l : Launch) (Z : State) (a0 : Array Value) (hw : ∀ d ∈ tables_1, d.before a0 Z = true) (ws : List Jvm.Cond) (a x mr wEL wE ea : Addr) (ke : ClassId) (h0 : Heap) (n0 : Nat) (O0 : Old Z n0 h0) (S_EMPTY_LIST : Sta Z Z.heap "java/util/ImmutableCollections" "EMPTY_LIST" "Ljava/util/ImmutableCollections$ListN;" (.ref wEL)) (S_EMPTY : Sta Z Z.heap "java/util/ImmutableCollections" "EMPTY" "Ljava/lang/Object;" (.ref wE)) (Mr : Mir Z "[Ljava/lang/Object;" mr) (HE : IL Z Z.heap wEL true) (E_a : Exa Z h0 a "java/util/ArrayList") (F_elementData_a : Fld Z h0 a "java/util/ArrayList" "elementData" "[Ljava/lang/Object;" (.ref ea)) (F_size_a : Fld Z h0 a "java/util/ArrayList" "size" "I" (.int (3 : Int32))) (V_ea : Arv Z h0 ea ke (.object "java/lang/Object") (10 : Int32) [(.ref x), (.ref x), (.ref x), .null, .null, .null, .null, .null, .null, .null] .null) (E_ea : Exa Z h0 ea "[Ljava/lang/Object;") (I_x : Ins Z h0 x "java/lang/Object" true) :
    Meets l (⟨"java/util/ImmutableCollections", "listCopy", "(Ljava/util/Collection;)Ljava/util/List;"⟩ : MethodName) jdk_56_method_3_code 2 (some (.object "java/util/List")) ws ({ frames := 7, cells := 3, slots := 8, locals := 90 } : Room) Z #[(.ref a)] h0 (Q_rm_lc3 Z a x mr wEL wE ea ke h0 n0) 3 8 := by
  refine enter (Ls := #[.val (.ref a), .unset]) (plainFor_of_name pn_12) (fun m => by first | (simp [entryFrame, mkF, argsToLocals, Value.category]; done) | rfl) ?_
  intro p e s m below meth c T0 hx hby hml hown hnm hret hlk hZ X0 e0
  have N0 := Fr.nil n0
  replace hown : s.vm.findClass "java/util/ImmutableCollections" = some m.cls := hown
  show Run p e below _ (T0.setTop (mkF m 0 #[.val (.ref a), .unset] []))
  have K0 := Keep.refl h0 []
  refine go (fun _ => XS.aloadN X0.here hx rfl (hb hby d_j56_m3_0) rfl rfl) ?_
  show Run p e below _ (T0.setTop (mkF m 1 #[.val (.ref a), .unset] [(.ref a)]))
  obtain ⟨T107, X107, e107, st107⟩ := instNo X0 hx hZ hown (wd hw 41 rfl) e0 E_a (ns_no (wd hw 42 rfl) (wd hw 206 rfl) (NS.step (wd hw 42 rfl) (NS.step (wd hw 43 rfl) (NS.step (wd hw 44 rfl) (ns_root (wd hw 45 rfl) (wd hw 206 rfl) (by decide)) (by decide)) (by decide)) (by decide)) (by decide)) (g := (mkF m 1 #[.val (.ref a), .unset] [(.ref a)])) rfl rfl (hb hby d_j56_m3_1)
  refine go st107 ?_
  show Run p e below _ (T107.setTop (mkF m 4 #[.val (.ref a), .unset] [(.int (0 : Int32))]))
  refine go (fun _ => XS.ifNo X107.here hx rfl (hb hby d_j56_m3_4) rfl ((if0 _ _).trans (teq (by decide : (0 : Int32) = 0)).2)) ?_
  show Run p e below _ (T107.setTop (mkF m 7 #[.val (.ref a), .unset] []))
  refine go (fun _ => XS.aloadN X107.here hx rfl (hb hby d_j56_m3_7) rfl rfl) ?_
  show Run p e below _ (T107.setTop (mkF m 8 #[.val (.ref a), .unset] [(.ref a)]))
  obtain ⟨T108, X108, e108, st108⟩ := instNo X107 hx hZ hown (wd hw 46 rfl) e107 E_a (ns_no (wd hw 42 rfl) (wd hw 162 rfl) (NS.step (wd hw 42 rfl) (NS.step (wd hw 43 rfl) (NS.step (wd hw 44 rfl) (ns_root (wd hw 45 rfl) (wd hw 162 rfl) (by decide)) (by decide)) (by decide)) (by decide)) (by decide)) (g := (mkF m 8 #[.val (.ref a), .unset] [(.ref a)])) rfl rfl (hb hby d_j56_m3_8)
  refine go st108 ?_
  show Run p e below _ (T108.setTop (mkF m 11 #[.val (.ref a), .unset] [(.int (0 : Int32))]))
  refine go (fun _ => XS.ifYes X108.here hx rfl (pc0 := 11) (pc' := 31) rfl (hb hby d_j56_m3_11) rfl ((if0 _ _).trans (teq (by decide : (0 : Int32) = 0)).1) (by decide) (by decide)) ?_
  show Run p e below _ (T108.setTop (mkF m 31 #[.val (.ref a), .unset] []))
  refine go (fun _ => XS.aloadN X108.here hx rfl (hb hby d_j56_m3_31) rfl rfl) ?_
  show Run p e below _ (T108.setTop (mkF m 32 #[.val (.ref a), .unset] [(.ref a)]))
  refine callIf X108 hx hZ hown (wd hw 47 rfl) (wd hw 48 rfl) (wd hw 49 rfl) rfl (wd hw 50 rfl) (wd hw 51 rfl) (wd hw 52 rfl) (wd hw 53 rfl) (wd hw 54 rfl) (wd hw 55 rfl) (wd hw 5 rfl) (by decide) e108 E_a (argsL := []) (rest := []) (rm_ie l Z a0 hw [] a (3 : Int32) h0 n0 O0 F_size_a) (W := 0) (by decide) (by decide) (by decide) (by decide) (by rw [hml]; rfl) (lenOf pd_10 rfl) rfl (Nat.le_of_eq rfl) (hb hby d_j56_m3_32) ?_
  intro v109 T109 L109 h109 X109 e109 q109
  obtain ⟨rv, n109, k109⟩ := q109
  replace rv : v109 = some (.int (0 : Int32)) := rv
  subst rv
  have e109 := e109.trans k109
  have N109 := Fr.app N0 n109
  show Run p e below _ (T109.setTop (mkF m 37 #[.val (.ref a), .unset] [(.int (0 : Int32))]))
  refine go (fun _ => XS.ifYes X109.here hx rfl (pc0 := 37) (pc' := 44) rfl (hb hby d_j56_m3_37) rfl ((if0 _ _).trans (teq (by decide : (0 : Int32) = 0)).1) (by decide) (by decide)) ?_
  show Run p e below _ (T109.setTop (mkF m 44 #[.val (.ref a), .unset] []))
  refine go (fun _ => XS.aloadN X109.here hx rfl (hb hby d_j56_m3_44) rfl rfl) ?_
  show Run p e below _ (T109.setTop (mkF m 45 #[.val (.ref a), .unset] [(.ref a)]))
  refine callIf X109 hx hZ hown (wd hw 121 rfl) (wd hw 122 rfl) (wd hw 123 rfl) rfl (wd hw 124 rfl) (wd hw 125 rfl) (wd hw 126 rfl) (wd hw 127 rfl) (wd hw 54 rfl) (wd hw 128 rfl) (wd hw 5 rfl) (by decide) e109 E_a (argsL := []) (rest := []) (rm_ta3 l Z a0 hw [] a ea x mr ke h0 n0 O0 Mr V_ea E_ea I_x F_elementData_a F_size_a) (W := 0) (by decide) (by decide) (by decide) (by decide) (by rw [hml]; rfl) (lenOf pd_11 rfl) rfl (Nat.le_of_eq rfl) (hb hby d_j56_m3_45) ?_
  intro v110 T110 L110 h110 X110 e110 q110
  have lt111_a := E_a.lt
  have lt111_ea := V_ea.lt
  obtain ⟨b110, k110, rfl, n110, K110, sb110, g_b110, O110, V_b110⟩ := q110
  have szq110 := K0.1
  have ne_a_b110 : a ≠ b110 := Nat.ne_of_lt (Nat.lt_of_lt_of_le lt111_a sb110)
  have ne_ea_b110 : ea ≠ b110 := Nat.ne_of_lt (Nat.lt_of_lt_of_le lt111_ea sb110)
  have O0 := O0.keep K110 all0
  have E_a := E_a.keep K110
  have F_elementData_a := F_elementData_a.keep K110 nin0
  have F_size_a := F_size_a.keep K110 nin0
  have V_ea := V_ea.keep K110 nin0
  have E_ea := E_ea.keep K110
  have I_x := own_insK I_x K110
  have K0 := K0.trans K110 all0
  have sz_b110 : h0.size ≤ b110 := Nat.le_trans szq110 sb110
  have N110 := Fr.app N109 n110
  show Run p e below _ (T110.setTop (mkF m 50 #[.val (.ref a), .unset] [(.ref b110)]))
  refine callSt X110 hx hZ hown (wd hw 151 rfl) (wd hw 152 rfl) (wd hw 35 rfl) (wd hw 153 rfl) (by decide) e110 (argsL := [(.ref b110)]) (rest := []) (rm_of3 l Z a0 hw [] b110 x wE k110 h110 n0 O0 S_EMPTY V_b110 I_x) (W := 0) (by decide) (by decide) (by decide) (by decide) (by rw [hml]; rfl) (lenOf pd_9 rfl) rfl (Nat.le_of_eq rfl) (hb hby d_j56_m3_50) ?_
  intro v112 T112 L112 h112 X112 e112 q112
  obtain ⟨b112, rfl, n112, K112, IL112⟩ := q112
  have O0 := O0.keep K112 all0
  have E_a := E_a.keep K112
  have F_elementData_a := F_elementData_a.keep K112 nin0
  have F_size_a := F_size_a.keep K112 nin0
  have V_ea := V_ea.keep K112 nin0
  have E_ea := E_ea.keep K112
  have I_x := own_insK I_x K112
  have K0 := K0.trans K112 all0
  have V_b110 := V_b110.keep K112 nin0
  have N112 := Fr.app N110 n112
  show Run p e below _ (T112.setTop (mkF m 53 #[.val (.ref a), .unset] [(.ref b112)]))
  exact endA X112 hx hlk (w := (.ref b112)) hret rfl rfl (hb hby d_j56_m3_53) (by rw [e112]; exact ⟨b112, rfl, N112, K0, IL112⟩) (by decide) (by decide)
theorem d_j40_m48_0 : decode jdk_40_method_48_code 0 = .ok (.aload_n 0, 1) := by decide +kernel
theorem d_j40_m48_1 : decode jdk_40_method_48_code 1 = .ok (.invokestatic 112, 3) := by decide +kernel
theorem pd_12 : parseMethodDescriptor "(Ljava/util/Collection;)Ljava/util/List;" = some ⟨[(.object "java/util/Collection")], some (.object "java/util/List")⟩ := by decide +kernel
theorem d_j40_m48_4 : decode jdk_40_method_48_code 4 = .ok (.areturn, 1) := by decide +kernel
def Q_rm_co3 (Z : State) (a x mr wEL wE ea : Addr) (ke : ClassId) (h0 : Heap) (n0 : Nat) (v : Option Value) (h : Heap) (L : List Loc) : Prop := ∃ b : Addr, v = some (.ref b) ∧ Fr n0 L ∧ Keep h0 h [] ∧ IL Z h b false
set_option maxRecDepth 65536 in
set_option maxHeartbeats 40000000 in
theorem rm_co3 (l : Launch) (Z : State) (a0 : Array Value) (hw : ∀ d ∈ tables_1, d.before a0 Z = true) (ws : List Jvm.Cond) (a x mr wEL wE ea : Addr) (ke : ClassId) (h0 : Heap) (n0 : Nat) (O0 : Old Z n0 h0) (S_EMPTY_LIST : Sta Z Z.heap "java/util/ImmutableCollections" "EMPTY_LIST" "Ljava/util/ImmutableCollections$ListN;" (.ref wEL)) (S_EMPTY : Sta Z Z.heap "java/util/ImmutableCollections" "EMPTY" "Ljava/lang/Object;" (.ref wE)) (Mr : Mir Z "[Ljava/lang/Object;" mr) (HE : IL Z Z.heap wEL true) (E_a : Exa Z h0 a "java/util/ArrayList") (F_elementData_a : Fld Z h0 a "java/util/ArrayList" "elementData" "[Ljava/lang/Object;" (.ref ea)) (F_size_a : Fld Z h0 a "java/util/ArrayList" "size" "I" (.int (3 : Int32))) (V_ea : Arv Z h0 ea ke (.object "java/lang/Object") (10 : Int32) [(.ref x), (.ref x), (.ref x), .null, .null, .null, .null, .null, .null, .null] .null) (E_ea : Exa Z h0 ea "[Ljava/lang/Object;") (I_x : Ins Z h0 x "java/lang/Object" true) :
    Meets l (⟨"java/util/List", "copyOf", "(Ljava/util/Collection;)Ljava/util/List;"⟩ : MethodName) jdk_40_method_48_code 1 (some (.object "java/util/List")) ws ({ frames := 8, cells := 3, slots := 8, locals := 103 } : Room) Z #[(.ref a)] h0 (Q_rm_co3 Z a x mr wEL wE ea ke h0 n0) 3 8 := by
  refine enter (Ls := #[.val (.ref a)]) (plainFor_of_name pn_5) (fun m => by first | (simp [entryFrame, mkF, argsToLocals, Value.category]; done) | rfl) ?_
  intro p e s m below meth c T0 hx hby hml hown hnm hret hlk hZ X0 e0
  have N0 := Fr.nil n0
  replace hown : s.vm.findClass "java/util/List" = some m.cls := hown
  show Run p e below _ (T0.setTop (mkF m 0 #[.val (.ref a)] []))
  have K0 := Keep.refl h0 []
  refine go (fun _ => XS.aloadN X0.here hx rfl (hb hby d_j40_m48_0) rfl rfl) ?_
  show Run p e below _ (T0.setTop (mkF m 1 #[.val (.ref a)] [(.ref a)]))
  refine callSt X0 hx hZ hown (wd hw 37 rfl) (wd hw 38 rfl) (wd hw 39 rfl) (wd hw 40 rfl) (by decide) e0 (argsL := [(.ref a)]) (rest := []) (rm_lc3 l Z a0 hw [] a x mr wEL wE ea ke h0 n0 O0 S_EMPTY_LIST S_EMPTY Mr HE E_a F_elementData_a F_size_a V_ea E_ea I_x) (W := 0) (by decide) (by decide) (by decide) (by decide) (by rw [hml]; rfl) (lenOf pd_12 rfl) rfl (Nat.le_of_eq rfl) (hb hby d_j40_m48_1) ?_
  intro v113 T113 L113 h113 X113 e113 q113
  obtain ⟨b113, rfl, n113, K113, IL113⟩ := q113
  have O0 := O0.keep K113 all0
  have E_a := E_a.keep K113
  have F_elementData_a := F_elementData_a.keep K113 nin0
  have F_size_a := F_size_a.keep K113 nin0
  have V_ea := V_ea.keep K113 nin0
  have E_ea := E_ea.keep K113
  have I_x := own_insK I_x K113
  have K0 := K0.trans K113 all0
  have N113 := Fr.app N0 n113
  show Run p e below _ (T113.setTop (mkF m 4 #[.val (.ref a)] [(.ref b113)]))
  exact endA X113 hx hlk (w := (.ref b113)) hret rfl rfl (hb hby d_j40_m48_4) (by rw [e113]; exact ⟨b113, rfl, N113, K0, IL113⟩) (by decide) (by decide)
def Q_rm_lc2 (Z : State) (a x mr wEL wE ea : Addr) (ke : ClassId) (h0 : Heap) (n0 : Nat) (v : Option Value) (h : Heap) (L : List Loc) : Prop := ∃ b : Addr, v = some (.ref b) ∧ Fr n0 L ∧ Keep h0 h [] ∧ IL Z h b false
set_option maxRecDepth 65536 in
set_option maxHeartbeats 40000000 in
theorem rm_lc2 (l : Launch) (Z : State) (a0 : Array Value) (hw : ∀ d ∈ tables_1, d.before a0 Z = true) (ws : List Jvm.Cond) (a x mr wEL wE ea : Addr) (ke : ClassId) (h0 : Heap) (n0 : Nat) (O0 : Old Z n0 h0) (S_EMPTY_LIST : Sta Z Z.heap "java/util/ImmutableCollections" "EMPTY_LIST" "Ljava/util/ImmutableCollections$ListN;" (.ref wEL)) (S_EMPTY : Sta Z Z.heap "java/util/ImmutableCollections" "EMPTY" "Ljava/lang/Object;" (.ref wE)) (Mr : Mir Z "[Ljava/lang/Object;" mr) (HE : IL Z Z.heap wEL true) (E_a : Exa Z h0 a "java/util/ArrayList") (F_elementData_a : Fld Z h0 a "java/util/ArrayList" "elementData" "[Ljava/lang/Object;" (.ref ea)) (F_size_a : Fld Z h0 a "java/util/ArrayList" "size" "I" (.int (2 : Int32))) (V_ea : Arv Z h0 ea ke (.object "java/lang/Object") (10 : Int32) [(.ref x), (.ref x), .null, .null, .null, .null, .null, .null, .null, .null] .null) (E_ea : Exa Z h0 ea "[Ljava/lang/Object;") (I_x : Ins Z h0 x "java/lang/Object" true) :
    Meets l (⟨"java/util/ImmutableCollections", "listCopy", "(Ljava/util/Collection;)Ljava/util/List;"⟩ : MethodName) jdk_56_method_3_code 2 (some (.object "java/util/List")) ws ({ frames := 6, cells := 2, slots := 4, locals := 80 } : Room) Z #[(.ref a)] h0 (Q_rm_lc2 Z a x mr wEL wE ea ke h0 n0) 2 4 := by
  refine enter (Ls := #[.val (.ref a), .unset]) (plainFor_of_name pn_12) (fun m => by first | (simp [entryFrame, mkF, argsToLocals, Value.category]; done) | rfl) ?_
  intro p e s m below meth c T0 hx hby hml hown hnm hret hlk hZ X0 e0
  have N0 := Fr.nil n0
  replace hown : s.vm.findClass "java/util/ImmutableCollections" = some m.cls := hown
  show Run p e below _ (T0.setTop (mkF m 0 #[.val (.ref a), .unset] []))
  have K0 := Keep.refl h0 []
  refine go (fun _ => XS.aloadN X0.here hx rfl (hb hby d_j56_m3_0) rfl rfl) ?_
  show Run p e below _ (T0.setTop (mkF m 1 #[.val (.ref a), .unset] [(.ref a)]))
  obtain ⟨T114, X114, e114, st114⟩ := instNo X0 hx hZ hown (wd hw 41 rfl) e0 E_a (ns_no (wd hw 42 rfl) (wd hw 206 rfl) (NS.step (wd hw 42 rfl) (NS.step (wd hw 43 rfl) (NS.step (wd hw 44 rfl) (ns_root (wd hw 45 rfl) (wd hw 206 rfl) (by decide)) (by decide)) (by decide)) (by decide)) (by decide)) (g := (mkF m 1 #[.val (.ref a), .unset] [(.ref a)])) rfl rfl (hb hby d_j56_m3_1)
  refine go st114 ?_
  show Run p e below _ (T114.setTop (mkF m 4 #[.val (.ref a), .unset] [(.int (0 : Int32))]))
  refine go (fun _ => XS.ifNo X114.here hx rfl (hb hby d_j56_m3_4) rfl ((if0 _ _).trans (teq (by decide : (0 : Int32) = 0)).2)) ?_
  show Run p e below _ (T114.setTop (mkF m 7 #[.val (.ref a), .unset] []))
  refine go (fun _ => XS.aloadN X114.here hx rfl (hb hby d_j56_m3_7) rfl rfl) ?_
  show Run p e below _ (T114.setTop (mkF m 8 #[.val (.ref a), .unset] [(.ref a)]))
  obtain ⟨T115, X115, e115, st115⟩ := instNo X114 hx hZ hown (wd hw 46 rfl) e114 E_a (ns_no (wd hw 42 rfl) (wd hw 162 rfl) (NS.step (wd hw 42 rfl) (NS.step (wd hw 43 rfl) (NS.step (wd hw 44 rfl) (ns_root (wd hw 45 rfl) (wd hw 162 rfl) (by decide)) (by decide)) (by decide)) (by decide)) (by decide)) (g := (mkF m 8 #[.val (.ref a), .unset] [(.ref a)])) rfl rfl (hb hby d_j56_m3_8)
  refine go st115 ?_
  show Run p e below _ (T115.setTop (mkF m 11 #[.val (.ref a), .unset] [(.int (0 : Int32))]))
  refine go (fun _ => XS.ifYes X115.here hx rfl (pc0 := 11) (pc' := 31) rfl (hb hby d_j56_m3_11) rfl ((if0 _ _).trans (teq (by decide : (0 : Int32) = 0)).1) (by decide) (by decide)) ?_
  show Run p e below _ (T115.setTop (mkF m 31 #[.val (.ref a), .unset] []))
  refine go (fun _ => XS.aloadN X115.here hx rfl (hb hby d_j56_m3_31) rfl rfl) ?_
  show Run p e below _ (T115.setTop (mkF m 32 #[.val (.ref a), .unset] [(.ref a)]))
  refine callIf X115 hx hZ hown (wd hw 47 rfl) (wd hw 48 rfl) (wd hw 49 rfl) rfl (wd hw 50 rfl) (wd hw 51 rfl) (wd hw 52 rfl) (wd hw 53 rfl) (wd hw 54 rfl) (wd hw 55 rfl) (wd hw 5 rfl) (by decide) e115 E_a (argsL := []) (rest := []) (rm_ie l Z a0 hw [] a (2 : Int32) h0 n0 O0 F_size_a) (W := 0) (by decide) (by decide) (by decide) (by decide) (by rw [hml]; rfl) (lenOf pd_10 rfl) rfl (Nat.le_of_eq rfl) (hb hby d_j56_m3_32) ?_
  intro v116 T116 L116 h116 X116 e116 q116
  obtain ⟨rv, n116, k116⟩ := q116
  replace rv : v116 = some (.int (0 : Int32)) := rv
  subst rv
  have e116 := e116.trans k116
  have N116 := Fr.app N0 n116
  show Run p e below _ (T116.setTop (mkF m 37 #[.val (.ref a), .unset] [(.int (0 : Int32))]))
  refine go (fun _ => XS.ifYes X116.here hx rfl (pc0 := 37) (pc' := 44) rfl (hb hby d_j56_m3_37) rfl ((if0 _ _).trans (teq (by decide : (0 : Int32) = 0)).1) (by decide) (by decide)) ?_
  show Run p e below _ (T116.setTop (mkF m 44 #[.val (.ref a), .unset] []))
  refine go (fun _ => XS.aloadN X116.here hx rfl (hb hby d_j56_m3_44) rfl rfl) ?_
  show Run p e below _ (T116.setTop (mkF m 45 #[.val (.ref a), .unset] [(.ref a)]))
  refine callIf X116 hx hZ hown (wd hw 121 rfl) (wd hw 122 rfl) (wd hw 123 rfl) rfl (wd hw 124 rfl) (wd hw 125 rfl) (wd hw 126 rfl) (wd hw 127 rfl) (wd hw 54 rfl) (wd hw 128 rfl) (wd hw 5 rfl) (by decide) e116 E_a (argsL := []) (rest := []) (rm_ta2 l Z a0 hw [] a ea x mr ke h0 n0 O0 Mr V_ea E_ea I_x F_elementData_a F_size_a) (W := 0) (by decide) (by decide) (by decide) (by decide) (by rw [hml]; rfl) (lenOf pd_11 rfl) rfl (Nat.le_of_eq rfl) (hb hby d_j56_m3_45) ?_
  intro v117 T117 L117 h117 X117 e117 q117
  have lt118_a := E_a.lt
  have lt118_ea := V_ea.lt
  obtain ⟨b117, k117, rfl, n117, K117, sb117, g_b117, O117, V_b117⟩ := q117
  have szq117 := K0.1
  have ne_a_b117 : a ≠ b117 := Nat.ne_of_lt (Nat.lt_of_lt_of_le lt118_a sb117)
  have ne_ea_b117 : ea ≠ b117 := Nat.ne_of_lt (Nat.lt_of_lt_of_le lt118_ea sb117)
  have O0 := O0.keep K117 all0
  have E_a := E_a.keep K117
  have F_elementData_a := F_elementData_a.keep K117 nin0
  have F_size_a := F_size_a.keep K117 nin0
  have V_ea := V_ea.keep K117 nin0
  have E_ea := E_ea.keep K117
  have I_x := own_insK I_x K117
  have K0 := K0.trans K117 all0
  have sz_b117 : h0.size ≤ b117 := Nat.le_trans szq117 sb117
  have N117 := Fr.app N116 n117
  show Run p e below _ (T117.setTop (mkF m 50 #[.val (.ref a), .unset] [(.ref b117)]))
  refine callSt X117 hx hZ hown (wd hw 151 rfl) (wd hw 152 rfl) (wd hw 35 rfl) (wd hw 153 rfl) (by decide) e117 (argsL := [(.ref b117)]) (rest := []) (rm_of2 l Z a0 hw [] b117 x wE k117 h117 n0 O0 S_EMPTY V_b117 I_x) (W := 0) (by decide) (by decide) (by decide) (by decide) (by rw [hml]; rfl) (lenOf pd_9 rfl) rfl (Nat.le_of_eq rfl) (hb hby d_j56_m3_50) ?_
  intro v119 T119 L119 h119 X119 e119 q119
  obtain ⟨b119, rfl, n119, K119, IL119⟩ := q119
  have O0 := O0.keep K119 all0
  have E_a := E_a.keep K119
  have F_elementData_a := F_elementData_a.keep K119 nin0
  have F_size_a := F_size_a.keep K119 nin0
  have V_ea := V_ea.keep K119 nin0
  have E_ea := E_ea.keep K119
  have I_x := own_insK I_x K119
  have K0 := K0.trans K119 all0
  have V_b117 := V_b117.keep K119 nin0
  have N119 := Fr.app N117 n119
  show Run p e below _ (T119.setTop (mkF m 53 #[.val (.ref a), .unset] [(.ref b119)]))
  exact endA X119 hx hlk (w := (.ref b119)) hret rfl rfl (hb hby d_j56_m3_53) (by rw [e119]; exact ⟨b119, rfl, N119, K0, IL119⟩) (by decide) (by decide)
def Q_rm_co2 (Z : State) (a x mr wEL wE ea : Addr) (ke : ClassId) (h0 : Heap) (n0 : Nat) (v : Option Value) (h : Heap) (L : List Loc) : Prop := ∃ b : Addr, v = some (.ref b) ∧ Fr n0 L ∧ Keep h0 h [] ∧ IL Z h b false
set_option maxRecDepth 65536 in
set_option maxHeartbeats 40000000 in
theorem rm_co2 (l : Launch) (Z : State) (a0 : Array Value) (hw : ∀ d ∈ tables_1, d.before a0 Z = true) (ws : List Jvm.Cond) (a x mr wEL wE ea : Addr) (ke : ClassId) (h0 : Heap) (n0 : Nat) (O0 : Old Z n0 h0) (S_EMPTY_LIST : Sta Z Z.heap "java/util/ImmutableCollections" "EMPTY_LIST" "Ljava/util/ImmutableCollections$ListN;" (.ref wEL)) (S_EMPTY : Sta Z Z.heap "java/util/ImmutableCollections" "EMPTY" "Ljava/lang/Object;" (.ref wE)) (Mr : Mir Z "[Ljava/lang/Object;" mr) (HE : IL Z Z.heap wEL true) (E_a : Exa Z h0 a "java/util/ArrayList") (F_elementData_a : Fld Z h0 a "java/util/ArrayList" "elementData" "[Ljava/lang/Object;" (.ref ea)) (F_size_a : Fld Z h0 a "java/util/ArrayList" "size" "I" (.int (2 : Int32))) (V_ea : Arv Z h0 ea ke (.object "java/lang/Object") (10 : Int32) [(.ref x), (.ref x), .null, .null, .null, .null, .null, .null, .null, .null] .null) (E_ea : Exa Z h0 ea "[Ljava/lang/Object;") (I_x : Ins Z h0 x "java/lang/Object" true) :
    Meets l (⟨"java/util/List", "copyOf", "(Ljava/util/Collection;)Ljava/util/List;"⟩ : MethodName) jdk_40_method_48_code 1 (some (.object "java/util/List")) ws ({ frames := 8, cells := 3, slots := 8, locals := 103 } : Room) Z #[(.ref a)] h0 (Q_rm_co2 Z a x mr wEL wE ea ke h0 n0) 3 8 := by
  refine enter (Ls := #[.val (.ref a)]) (plainFor_of_name pn_5) (fun m => by first | (simp [entryFrame, mkF, argsToLocals, Value.category]; done) | rfl) ?_
  intro p e s m below meth c T0 hx hby hml hown hnm hret hlk hZ X0 e0
  have N0 := Fr.nil n0
  replace hown : s.vm.findClass "java/util/List" = some m.cls := hown
  show Run p e below _ (T0.setTop (mkF m 0 #[.val (.ref a)] []))
  have K0 := Keep.refl h0 []
  refine go (fun _ => XS.aloadN X0.here hx rfl (hb hby d_j40_m48_0) rfl rfl) ?_
  show Run p e below _ (T0.setTop (mkF m 1 #[.val (.ref a)] [(.ref a)]))
  refine callSt X0 hx hZ hown (wd hw 37 rfl) (wd hw 38 rfl) (wd hw 39 rfl) (wd hw 40 rfl) (by decide) e0 (argsL := [(.ref a)]) (rest := []) (rm_lc2 l Z a0 hw [] a x mr wEL wE ea ke h0 n0 O0 S_EMPTY_LIST S_EMPTY Mr HE E_a F_elementData_a F_size_a V_ea E_ea I_x) (W := 0) (by decide) (by decide) (by decide) (by decide) (by rw [hml]; rfl) (lenOf pd_12 rfl) rfl (Nat.le_of_eq rfl) (hb hby d_j40_m48_1) ?_
  intro v120 T120 L120 h120 X120 e120 q120
  obtain ⟨b120, rfl, n120, K120, IL120⟩ := q120
  have O0 := O0.keep K120 all0
  have E_a := E_a.keep K120
  have F_elementData_a := F_elementData_a.keep K120 nin0
  have F_size_a := F_size_a.keep K120 nin0
  have V_ea := V_ea.keep K120 nin0
  have E_ea := E_ea.keep K120
  have I_x := own_insK I_x K120
  have K0 := K0.trans K120 all0
  have N120 := Fr.app N0 n120
  show Run p e below _ (T120.setTop (mkF m 4 #[.val (.ref a)] [(.ref b120)]))
  exact endA X120 hx hlk (w := (.ref b120)) hret rfl rfl (hb hby d_j40_m48_4) (by rw [e120]; exact ⟨b120, rfl, N120, K0, IL120⟩) (by decide) (by decide)
def Q_rm_lc1 (Z : State) (a x mr wEL wE ea : Addr) (ke : ClassId) (h0 : Heap) (n0 : Nat) (v : Option Value) (h : Heap) (L : List Loc) : Prop := ∃ b : Addr, v = some (.ref b) ∧ Fr n0 L ∧ Keep h0 h [] ∧ IL Z h b false
set_option maxRecDepth 65536 in
set_option maxHeartbeats 40000000 in
theorem rm_lc1 (l : Launch) (Z : State) (a0 : Array Value) (hw : ∀ d ∈ tables_1, d.before a0 Z = true) (ws : List Jvm.Cond) (a x mr wEL wE ea : Addr) (ke : ClassId) (h0 : Heap) (n0 : Nat) (O0 : Old Z n0 h0) (S_EMPTY_LIST : Sta Z Z.heap "java/util/ImmutableCollections" "EMPTY_LIST" "Ljava/util/ImmutableCollections$ListN;" (.ref wEL)) (S_EMPTY : Sta Z Z.heap "java/util/ImmutableCollections" "EMPTY" "Ljava/lang/Object;" (.ref wE)) (Mr : Mir Z "[Ljava/lang/Object;" mr) (HE : IL Z Z.heap wEL true) (E_a : Exa Z h0 a "java/util/ArrayList") (F_elementData_a : Fld Z h0 a "java/util/ArrayList" "elementData" "[Ljava/lang/Object;" (.ref ea)) (F_size_a : Fld Z h0 a "java/util/ArrayList" "size" "I" (.int (1 : Int32))) (V_ea : Arv Z h0 ea ke (.object "java/lang/Object") (10 : Int32) [(.ref x), .null, .null, .null, .null, .null, .null, .null, .null, .null] .null) (E_ea : Exa Z h0 ea "[Ljava/lang/Object;") (I_x : Ins Z h0 x "java/lang/Object" true) :
    Meets l (⟨"java/util/ImmutableCollections", "listCopy", "(Ljava/util/Collection;)Ljava/util/List;"⟩ : MethodName) jdk_56_method_3_code 2 (some (.object "java/util/List")) ws ({ frames := 6, cells := 2, slots := 3, locals := 80 } : Room) Z #[(.ref a)] h0 (Q_rm_lc1 Z a x mr wEL wE ea ke h0 n0) 2 3 := by
  refine enter (Ls := #[.val (.ref a), .unset]) (plainFor_of_name pn_12) (fun m => by first | (simp [entryFrame, mkF, argsToLocals, Value.category]; done) | rfl) ?_
  intro p e s m below meth c T0 hx hby hml hown hnm hret hlk hZ X0 e0
  have N0 := Fr.nil n0
  replace hown : s.vm.findClass "java/util/ImmutableCollections" = some m.cls := hown
  show Run p e below _ (T0.setTop (mkF m 0 #[.val (.ref a), .unset] []))
  have K0 := Keep.refl h0 []
  refine go (fun _ => XS.aloadN X0.here hx rfl (hb hby d_j56_m3_0) rfl rfl) ?_
  show Run p e below _ (T0.setTop (mkF m 1 #[.val (.ref a), .unset] [(.ref a)]))
  obtain ⟨T121, X121, e121, st121⟩ := instNo X0 hx hZ hown (wd hw 41 rfl) e0 E_a (ns_no (wd hw 42 rfl) (wd hw 206 rfl) (NS.step (wd hw 42 rfl) (NS.step (wd hw 43 rfl) (NS.step (wd hw 44 rfl) (ns_root (wd hw 45 rfl) (wd hw 206 rfl) (by decide)) (by decide)) (by decide)) (by decide)) (by decide)) (g := (mkF m 1 #[.val (.ref a), .unset] [(.ref a)])) rfl rfl (hb hby d_j56_m3_1)
  refine go st121 ?_
  show Run p e below _ (T121.setTop (mkF m 4 #[.val (.ref a), .unset] [(.int (0 : Int32))]))
  refine go (fun _ => XS.ifNo X121.here hx rfl (hb hby d_j56_m3_4) rfl ((if0 _ _).trans (teq (by decide : (0 : Int32) = 0)).2)) ?_
  show Run p e below _ (T121.setTop (mkF m 7 #[.val (.ref a), .unset] []))
  refine go (fun _ => XS.aloadN X121.here hx rfl (hb hby d_j56_m3_7) rfl rfl) ?_
  show Run p e below _ (T121.setTop (mkF m 8 #[.val (.ref a), .unset] [(.ref a)]))
  obtain ⟨T122, X122, e122, st122⟩ := instNo X121 hx hZ hown (wd hw 46 rfl) e121 E_a (ns_no (wd hw 42 rfl) (wd hw 162 rfl) (NS.step (wd hw 42 rfl) (NS.step (wd hw 43 rfl) (NS.step (wd hw 44 rfl) (ns_root (wd hw 45 rfl) (wd hw 162 rfl) (by decide)) (by decide)) (by decide)) (by decide)) (by decide)) (g := (mkF m 8 #[.val (.ref a), .unset] [(.ref a)])) rfl rfl (hb hby d_j56_m3_8)
  refine go st122 ?_
  show Run p e below _ (T122.setTop (mkF m 11 #[.val (.ref a), .unset] [(.int (0 : Int32))]))
  refine go (fun _ => XS.ifYes X122.here hx rfl (pc0 := 11) (pc' := 31) rfl (hb hby d_j56_m3_11) rfl ((if0 _ _).trans (teq (by decide : (0 : Int32) = 0)).1) (by decide) (by decide)) ?_
  show Run p e below _ (T122.setTop (mkF m 31 #[.val (.ref a), .unset] []))
  refine go (fun _ => XS.aloadN X122.here hx rfl (hb hby d_j56_m3_31) rfl rfl) ?_
  show Run p e below _ (T122.setTop (mkF m 32 #[.val (.ref a), .unset] [(.ref a)]))
  refine callIf X122 hx hZ hown (wd hw 47 rfl) (wd hw 48 rfl) (wd hw 49 rfl) rfl (wd hw 50 rfl) (wd hw 51 rfl) (wd hw 52 rfl) (wd hw 53 rfl) (wd hw 54 rfl) (wd hw 55 rfl) (wd hw 5 rfl) (by decide) e122 E_a (argsL := []) (rest := []) (rm_ie l Z a0 hw [] a (1 : Int32) h0 n0 O0 F_size_a) (W := 0) (by decide) (by decide) (by decide) (by decide) (by rw [hml]; rfl) (lenOf pd_10 rfl) rfl (Nat.le_of_eq rfl) (hb hby d_j56_m3_32) ?_
  intro v123 T123 L123 h123 X123 e123 q123
  obtain ⟨rv, n123, k123⟩ := q123
  replace rv : v123 = some (.int (0 : Int32)) := rv
  subst rv
  have e123 := e123.trans k123
  have N123 := Fr.app N0 n123
  show Run p e below _ (T123.setTop (mkF m 37 #[.val (.ref a), .unset] [(.int (0 : Int32))]))
  refine go (fun _ => XS.ifYes X123.here hx rfl (pc0 := 37) (pc' := 44) rfl (hb hby d_j56_m3_37) rfl ((if0 _ _).trans (teq (by decide : (0 : Int32) = 0)).1) (by decide) (by decide)) ?_
  show Run p e below _ (T123.setTop (mkF m 44 #[.val (.ref a), .unset] []))
  refine go (fun _ => XS.aloadN X123.here hx rfl (hb hby d_j56_m3_44) rfl rfl) ?_
  show Run p e below _ (T123.setTop (mkF m 45 #[.val (.ref a), .unset] [(.ref a)]))
  refine callIf X123 hx hZ hown (wd hw 121 rfl) (wd hw 122 rfl) (wd hw 123 rfl) rfl (wd hw 124 rfl) (wd hw 125 rfl) (wd hw 126 rfl) (wd hw 127 rfl) (wd hw 54 rfl) (wd hw 128 rfl) (wd hw 5 rfl) (by decide) e123 E_a (argsL := []) (rest := []) (rm_ta1 l Z a0 hw [] a ea x mr ke h0 n0 O0 Mr V_ea E_ea I_x F_elementData_a F_size_a) (W := 0) (by decide) (by decide) (by decide) (by decide) (by rw [hml]; rfl) (lenOf pd_11 rfl) rfl (Nat.le_of_eq rfl) (hb hby d_j56_m3_45) ?_
  intro v124 T124 L124 h124 X124 e124 q124
  have lt125_a := E_a.lt
  have lt125_ea := V_ea.lt
  obtain ⟨b124, k124, rfl, n124, K124, sb124, g_b124, O124, V_b124⟩ := q124
  have szq124 := K0.1
  have ne_a_b124 : a ≠ b124 := Nat.ne_of_lt (Nat.lt_of_lt_of_le lt125_a sb124)
  have ne_ea_b124 : ea ≠ b124 := Nat.ne_of_lt (Nat.lt_of_lt_of_le lt125_ea sb124)
  have O0 := O0.keep K124 all0
  have E_a := E_a.keep K124
  have F_elementData_a := F_elementData_a.keep K124 nin0
  have F_size_a := F_size_a.keep K124 nin0
  have V_ea := V_ea.keep K124 nin0
  have E_ea := E_ea.keep K124
  have I_x := own_insK I_x K124
  have K0 := K0.trans K124 all0
  have sz_b124 : h0.size ≤ b124 := Nat.le_trans szq124 sb124
  have N124 := Fr.app N123 n124
  show Run p e below _ (T124.setTop (mkF m 50 #[.val (.ref a), .unset] [(.ref b124)]))
  refine callSt X124 hx hZ hown (wd hw 151 rfl) (wd hw 152 rfl) (wd hw 35 rfl) (wd hw 153 rfl) (by decide) e124 (argsL := [(.ref b124)]) (rest := []) (rm_of1 l Z a0 hw [] b124 x wE k124 h124 n0 O0 S_EMPTY V_b124 I_x) (W := 0) (by decide) (by decide) (by decide) (by decide) (by rw [hml]; rfl) (lenOf pd_9 rfl) rfl (Nat.le_of_eq rfl) (hb hby d_j56_m3_50) ?_
  intro v126 T126 L126 h126 X126 e126 q126
  obtain ⟨b126, rfl, n126, K126, IL126⟩ := q126
  have O0 := O0.keep K126 all0
  have E_a := E_a.keep K126
  have F_elementData_a := F_elementData_a.keep K126 nin0
  have F_size_a := F_size_a.keep K126 nin0
  have V_ea := V_ea.keep K126 nin0
  have E_ea := E_ea.keep K126
  have I_x := own_insK I_x K126
  have K0 := K0.trans K126 all0
  have V_b124 := V_b124.keep K126 nin0
  have N126 := Fr.app N124 n126
  show Run p e below _ (T126.setTop (mkF m 53 #[.val (.ref a), .unset] [(.ref b126)]))
  exact endA X126 hx hlk (w := (.ref b126)) hret rfl rfl (hb hby d_j56_m3_53) (by rw [e126]; exact ⟨b126, rfl, N126, K0, IL126⟩) (by decide) (by decide)
def Q_rm_co1 (Z : State) (a x mr wEL wE ea : Addr) (ke : ClassId) (h0 : Heap) (n0 : Nat) (v : Option Value) (h : Heap) (L : List Loc) : Prop := ∃ b : Addr, v = some (.ref b) ∧ Fr n0 L ∧ Keep h0 h [] ∧ IL Z h b false
set_option maxRecDepth 65536 in
set_option maxHeartbeats 40000000 in
theorem rm_co1 (l : Launch) (Z : State) (a0 : Array Value) (hw : ∀ d ∈ tables_1, d.before a0 Z = true) (ws : List Jvm.Cond) (a x mr wEL wE ea : Addr) (ke : ClassId) (h0 : Heap) (n0 : Nat) (O0 : Old Z n0 h0) (S_EMPTY_LIST : Sta Z Z.heap "java/util/ImmutableCollections" "EMPTY_LIST" "Ljava/util/ImmutableCollections$ListN;" (.ref wEL)) (S_EMPTY : Sta Z Z.heap "java/util/ImmutableCollections" "EMPTY" "Ljava/lang/Object;" (.ref wE)) (Mr : Mir Z "[Ljava/lang/Object;" mr) (HE : IL Z Z.heap wEL true) (E_a : Exa Z h0 a "java/util/ArrayList") (F_elementData_a : Fld Z h0 a "java/util/ArrayList" "elementData" "[Ljava/lang/Object;" (.ref ea)) (F_size_a : Fld Z h0 a "java/util/ArrayList" "size" "I" (.int (1 : Int32))) (V_ea : Arv Z h0 ea ke (.object "java/lang/Object") (10 : Int32) [(.ref x), .null, .null, .null, .null, .null, .null, .null, .null, .null] .null) (E_ea : Exa Z h0 ea "[Ljava/lang/Object;") (I_x : Ins Z h0 x "java/lang/Object" true) :
    Meets l (⟨"java/util/List", "copyOf", "(Ljava/util/Collection;)Ljava/util/List;"⟩ : MethodName) jdk_40_method_48_code 1 (some (.object "java/util/List")) ws ({ frames := 8, cells := 3, slots := 8, locals := 103 } : Room) Z #[(.ref a)] h0 (Q_rm_co1 Z a x mr wEL wE ea ke h0 n0) 3 8 := by
  refine enter (Ls := #[.val (.ref a)]) (plainFor_of_name pn_5) (fun m => by first | (simp [entryFrame, mkF, argsToLocals, Value.category]; done) | rfl) ?_
  intro p e s m below meth c T0 hx hby hml hown hnm hret hlk hZ X0 e0
  have N0 := Fr.nil n0
  replace hown : s.vm.findClass "java/util/List" = some m.cls := hown
  show Run p e below _ (T0.setTop (mkF m 0 #[.val (.ref a)] []))
  have K0 := Keep.refl h0 []
  refine go (fun _ => XS.aloadN X0.here hx rfl (hb hby d_j40_m48_0) rfl rfl) ?_
  show Run p e below _ (T0.setTop (mkF m 1 #[.val (.ref a)] [(.ref a)]))
  refine callSt X0 hx hZ hown (wd hw 37 rfl) (wd hw 38 rfl) (wd hw 39 rfl) (wd hw 40 rfl) (by decide) e0 (argsL := [(.ref a)]) (rest := []) (rm_lc1 l Z a0 hw [] a x mr wEL wE ea ke h0 n0 O0 S_EMPTY_LIST S_EMPTY Mr HE E_a F_elementData_a F_size_a V_ea E_ea I_x) (W := 0) (by decide) (by decide) (by decide) (by decide) (by rw [hml]; rfl) (lenOf pd_12 rfl) rfl (Nat.le_of_eq rfl) (hb hby d_j40_m48_1) ?_
  intro v127 T127 L127 h127 X127 e127 q127
  obtain ⟨b127, rfl, n127, K127, IL127⟩ := q127
  have O0 := O0.keep K127 all0
  have E_a := E_a.keep K127
  have F_elementData_a := F_elementData_a.keep K127 nin0
  have F_size_a := F_size_a.keep K127 nin0
  have V_ea := V_ea.keep K127 nin0
  have E_ea := E_ea.keep K127
  have I_x := own_insK I_x K127
  have K0 := K0.trans K127 all0
  have N127 := Fr.app N0 n127
  show Run p e below _ (T127.setTop (mkF m 4 #[.val (.ref a)] [(.ref b127)]))
  exact endA X127 hx hlk (w := (.ref b127)) hret rfl rfl (hb hby d_j40_m48_4) (by rw [e127]; exact ⟨b127, rfl, N127, K0, IL127⟩) (by decide) (by decide)
theorem d_j56_m3_40 : decode jdk_56_method_3_code 40 = .ok (.invokestatic 26, 3) := by decide +kernel
theorem pd_13 : parseMethodDescriptor "()Ljava/util/List;" = some ⟨[], some (.object "java/util/List")⟩ := by decide +kernel
theorem d_j56_m3_43 : decode jdk_56_method_3_code 43 = .ok (.areturn, 1) := by decide +kernel
def Q_rm_lc0 (Z : State) (a x mr wEL wE ea : Addr) (ke : ClassId) (h0 : Heap) (n0 : Nat) (v : Option Value) (h : Heap) (L : List Loc) : Prop := ∃ b : Addr, v = some (.ref b) ∧ Fr n0 L ∧ Keep h0 h [] ∧ IL Z h b true
set_option maxRecDepth 65536 in
set_option maxHeartbeats 40000000 in
theorem rm_lc0 (l : Launch) (Z : State) (a0 : Array Value) (hw : ∀ d ∈ tables_1, d.before a0 Z = true) (ws : List Jvm.Cond) (a x mr wEL wE ea : Addr) (ke : ClassId) (h0 : Heap) (n0 : Nat) (O0 : Old Z n0 h0) (S_EMPTY_LIST : Sta Z Z.heap "java/util/ImmutableCollections" "EMPTY_LIST" "Ljava/util/ImmutableCollections$ListN;" (.ref wEL)) (S_EMPTY : Sta Z Z.heap "java/util/ImmutableCollections" "EMPTY" "Ljava/lang/Object;" (.ref wE)) (Mr : Mir Z "[Ljava/lang/Object;" mr) (HE : IL Z Z.heap wEL true) (E_a : Exa Z h0 a "java/util/ArrayList") (F_elementData_a : Fld Z h0 a "java/util/ArrayList" "elementData" "[Ljava/lang/Object;" (.ref ea)) (F_size_a : Fld Z h0 a "java/util/ArrayList" "size" "I" (.int (0 : Int32))) :
    Meets l (⟨"java/util/ImmutableCollections", "listCopy", "(Ljava/util/Collection;)Ljava/util/List;"⟩ : MethodName) jdk_56_method_3_code 2 (some (.object "java/util/List")) ws ({ frames := 1, cells := 0, slots := 0, locals := 12 } : Room) Z #[(.ref a)] h0 (Q_rm_lc0 Z a x mr wEL wE ea ke h0 n0) 0 0 := by
  refine enter (Ls := #[.val (.ref a), .unset]) (plainFor_of_name pn_12) (fun m => by first | (simp [entryFrame, mkF, argsToLocals, Value.category]; done) | rfl) ?_
  intro p e s m below meth c T0 hx hby hml hown hnm hret hlk hZ X0 e0
  have N0 := Fr.nil n0
  replace hown : s.vm.findClass "java/util/ImmutableCollections" = some m.cls := hown
  show Run p e below _ (T0.setTop (mkF m 0 #[.val (.ref a), .unset] []))
  have K0 := Keep.refl h0 []
  refine go (fun _ => XS.aloadN X0.here hx rfl (hb hby d_j56_m3_0) rfl rfl) ?_
  show Run p e below _ (T0.setTop (mkF m 1 #[.val (.ref a), .unset] [(.ref a)]))
  obtain ⟨T128, X128, e128, st128⟩ := instNo X0 hx hZ hown (wd hw 41 rfl) e0 E_a (ns_no (wd hw 42 rfl) (wd hw 206 rfl) (NS.step (wd hw 42 rfl) (NS.step (wd hw 43 rfl) (NS.step (wd hw 44 rfl) (ns_root (wd hw 45 rfl) (wd hw 206 rfl) (by decide)) (by decide)) (by decide)) (by decide)) (by decide)) (g := (mkF m 1 #[.val (.ref a), .unset] [(.ref a)])) rfl rfl (hb hby d_j56_m3_1)
  refine go st128 ?_
  show Run p e below _ (T128.setTop (mkF m 4 #[.val (.ref a), .unset] [(.int (0 : Int32))]))
  refine go (fun _ => XS.ifNo X128.here hx rfl (hb hby d_j56_m3_4) rfl ((if0 _ _).trans (teq (by decide : (0 : Int32) = 0)).2)) ?_
  show Run p e below _ (T128.setTop (mkF m 7 #[.val (.ref a), .unset] []))
  refine go (fun _ => XS.aloadN X128.here hx rfl (hb hby d_j56_m3_7) rfl rfl) ?_
  show Run p e below _ (T128.setTop (mkF m 8 #[.val (.ref a), .unset] [(.ref a)]))
  obtain ⟨T129, X129, e129, st129⟩ := instNo X128 hx hZ hown (wd hw 46 rfl) e128 E_a (ns_no (wd hw 42 rfl) (wd hw 162 rfl) (NS.step (wd hw 42 rfl) (NS.step (wd hw 43 rfl) (NS.step (wd hw 44 rfl) (ns_root (wd hw 45 rfl) (wd hw 162 rfl) (by decide)) (by decide)) (by decide)) (by decide)) (by decide)) (g := (mkF m 8 #[.val (.ref a), .unset] [(.ref a)])) rfl rfl (hb hby d_j56_m3_8)
  refine go st129 ?_
  show Run p e below _ (T129.setTop (mkF m 11 #[.val (.ref a), .unset] [(.int (0 : Int32))]))
  refine go (fun _ => XS.ifYes X129.here hx rfl (pc0 := 11) (pc' := 31) rfl (hb hby d_j56_m3_11) rfl ((if0 _ _).trans (teq (by decide : (0 : Int32) = 0)).1) (by decide) (by decide)) ?_
  show Run p e below _ (T129.setTop (mkF m 31 #[.val (.ref a), .unset] []))
  refine go (fun _ => XS.aloadN X129.here hx rfl (hb hby d_j56_m3_31) rfl rfl) ?_
  show Run p e below _ (T129.setTop (mkF m 32 #[.val (.ref a), .unset] [(.ref a)]))
  refine callIf X129 hx hZ hown (wd hw 47 rfl) (wd hw 48 rfl) (wd hw 49 rfl) rfl (wd hw 50 rfl) (wd hw 51 rfl) (wd hw 52 rfl) (wd hw 53 rfl) (wd hw 54 rfl) (wd hw 55 rfl) (wd hw 5 rfl) (by decide) e129 E_a (argsL := []) (rest := []) (rm_ie l Z a0 hw [] a (0 : Int32) h0 n0 O0 F_size_a) (W := 0) (by decide) (by decide) (by decide) (by decide) (by rw [hml]; rfl) (lenOf pd_10 rfl) rfl (Nat.le_of_eq rfl) (hb hby d_j56_m3_32) ?_
  intro v130 T130 L130 h130 X130 e130 q130
  obtain ⟨rv, n130, k130⟩ := q130
  replace rv : v130 = some (.int (1 : Int32)) := rv
  subst rv
  have e130 := e130.trans k130
  have N130 := Fr.app N0 n130
  show Run p e below _ (T130.setTop (mkF m 37 #[.val (.ref a), .unset] [(.int (1 : Int32))]))
  refine go (fun _ => XS.ifNo X130.here hx rfl (hb hby d_j56_m3_37) rfl ((if0 _ _).trans (feq (by decide : ¬ ((1 : Int32) = 0))).1)) ?_
  show Run p e below _ (T130.setTop (mkF m 40 #[.val (.ref a), .unset] []))
  refine callSt X130 hx hZ hown (wd hw 58 rfl) (wd hw 59 rfl) (wd hw 35 rfl) (wd hw 60 rfl) (by decide) e130 (argsL := []) (rest := []) (rm_of0 l Z a0 hw [] wEL h0 n0 O0 S_EMPTY_LIST) (W := 0) (by decide) (by decide) (by decide) (by decide) (by rw [hml]; rfl) (lenOf pd_13 rfl) rfl (Nat.le_of_eq rfl) (hb hby d_j56_m3_40) ?_
  intro v131 T131 L131 h131 X131 e131 q131
  obtain ⟨rv, n131, k131⟩ := q131
  replace rv : v131 = some (.ref wEL) := rv
  subst rv
  have e131 := e131.trans k131
  have N131 := Fr.app N130 n131
  show Run p e below _ (T131.setTop (mkF m 43 #[.val (.ref a), .unset] [(.ref wEL)]))
  exact endA X131 hx hlk (w := (.ref wEL)) hret rfl rfl (hb hby d_j56_m3_43) (by rw [e131]; exact ⟨wEL, rfl, N131, K0, HE.keep0 ((Keep.refl _ _).ext O0.2)⟩) (by decide) (by decide)
def Q_rm_co0 (Z : State) (a x mr wEL wE ea : Addr) (ke : ClassId) (h0 : Heap) (n0 : Nat) (v : Option Value) (h : Heap) (L : List Loc) : Prop := ∃ b : Addr, v = some (.ref b) ∧ Fr n0 L ∧ Keep h0 h [] ∧ IL Z h b true
set_option maxRecDepth 65536 in
set_option maxHeartbeats 40000000 in
theorem rm_co0 (l : Launch) (Z : State) (a0 : Array Value) (hw : ∀ d ∈ tables_1, d.before a0 Z = true) (ws : List Jvm.Cond) (a x mr wEL wE ea : Addr) (ke : ClassId) (h0 : Heap) (n0 : Nat) (O0 : Old Z n0 h0) (S_EMPTY_LIST : Sta Z Z.heap "java/util/ImmutableCollections" "EMPTY_LIST" "Ljava/util/ImmutableCollections$ListN;" (.ref wEL)) (S_EMPTY : Sta Z Z.heap "java/util/ImmutableCollections" "EMPTY" "Ljava/lang/Object;" (.ref wE)) (Mr : Mir Z "[Ljava/lang/Object;" mr) (HE : IL Z Z.heap wEL true) (E_a : Exa Z h0 a "java/util/ArrayList") (F_elementData_a : Fld Z h0 a "java/util/ArrayList" "elementData" "[Ljava/lang/Object;" (.ref ea)) (F_size_a : Fld Z h0 a "java/util/ArrayList" "size" "I" (.int (0 : Int32))) :
    Meets l (⟨"java/util/List", "copyOf", "(Ljava/util/Collection;)Ljava/util/List;"⟩ : MethodName) jdk_40_method_48_code 1 (some (.object "java/util/List")) ws ({ frames := 8, cells := 3, slots := 8, locals := 103 } : Room) Z #[(.ref a)] h0 (Q_rm_co0 Z a x mr wEL wE ea ke h0 n0) 3 8 := by
  refine enter (Ls := #[.val (.ref a)]) (plainFor_of_name pn_5) (fun m => by first | (simp [entryFrame, mkF, argsToLocals, Value.category]; done) | rfl) ?_
  intro p e s m below meth c T0 hx hby hml hown hnm hret hlk hZ X0 e0
  have N0 := Fr.nil n0
  replace hown : s.vm.findClass "java/util/List" = some m.cls := hown
  show Run p e below _ (T0.setTop (mkF m 0 #[.val (.ref a)] []))
  have K0 := Keep.refl h0 []
  refine go (fun _ => XS.aloadN X0.here hx rfl (hb hby d_j40_m48_0) rfl rfl) ?_
  show Run p e below _ (T0.setTop (mkF m 1 #[.val (.ref a)] [(.ref a)]))
  refine callSt X0 hx hZ hown (wd hw 37 rfl) (wd hw 38 rfl) (wd hw 39 rfl) (wd hw 40 rfl) (by decide) e0 (argsL := [(.ref a)]) (rest := []) (rm_lc0 l Z a0 hw [] a x mr wEL wE ea ke h0 n0 O0 S_EMPTY_LIST S_EMPTY Mr HE E_a F_elementData_a F_size_a) (W := 0) (by decide) (by decide) (by decide) (by decide) (by rw [hml]; rfl) (lenOf pd_12 rfl) rfl (Nat.le_of_eq rfl) (hb hby d_j40_m48_1) ?_
  intro v132 T132 L132 h132 X132 e132 q132
  obtain ⟨b132, rfl, n132, K132, IL132⟩ := q132
  have O0 := O0.keep K132 all0
  have E_a := E_a.keep K132
  have F_elementData_a := F_elementData_a.keep K132 nin0
  have F_size_a := F_size_a.keep K132 nin0
  have K0 := K0.trans K132 all0
  have N132 := Fr.app N0 n132
  show Run p e below _ (T132.setTop (mkF m 4 #[.val (.ref a)] [(.ref b132)]))
  exact endA X132 hx hlk (w := (.ref b132)) hret rfl rfl (hb hby d_j40_m48_4) (by rw [e132]; exact ⟨b132, rfl, N132, K0, IL132⟩) (by decide) (by decide)
/-- an ArrayList of z times the object x -/
def ALS (Z : State) (h : Heap) (a x : Addr) (z : Int32) : Prop := Exa Z h a "java/util/ArrayList" ∧ Ins Z h x "java/lang/Object" true ∧ ∃ (ea : Addr) (ke : ClassId), (z = 0 ∧ Fld Z h a "java/util/ArrayList" "elementData" "[Ljava/lang/Object;" (.ref ea) ∧ Fld Z h a "java/util/ArrayList" "size" "I" (.int (0 : Int32))) ∨ (z = 1 ∧ Fld Z h a "java/util/ArrayList" "elementData" "[Ljava/lang/Object;" (.ref ea) ∧ Fld Z h a "java/util/ArrayList" "size" "I" (.int (1 : Int32)) ∧ Arv Z h ea ke (.object "java/lang/Object") (10 : Int32) [(.ref x), .null, .null, .null, .null, .null, .null, .null, .null, .null] .null ∧ Exa Z h ea "[Ljava/lang/Object;") ∨ (z = 2 ∧ Fld Z h a "java/util/ArrayList" "elementData" "[Ljava/lang/Object;" (.ref ea) ∧ Fld Z h a "java/util/ArrayList" "size" "I" (.int (2 : Int32)) ∧ Arv Z h ea ke (.object "java/lang/Object") (10 : Int32) [(.ref x), (.ref x), .null, .null, .null, .null, .null, .null, .null, .null] .null ∧ Exa Z h ea "[Ljava/lang/Object;") ∨ (z = 3 ∧ Fld Z h a "java/util/ArrayList" "elementData" "[Ljava/lang/Object;" (.ref ea) ∧ Fld Z h a "java/util/ArrayList" "size" "I" (.int (3 : Int32)) ∧ Arv Z h ea ke (.object "java/lang/Object") (10 : Int32) [(.ref x), (.ref x), (.ref x), .null, .null, .null, .null, .null, .null, .null] .null ∧ Exa Z h ea "[Ljava/lang/Object;")
theorem ALS.keep0 {Z : State} {h h' : Heap} {a x : Addr} {z : Int32} (H : ALS Z h a x z) (K : Keep h h' []) : ALS Z h' a x z := by
  obtain ⟨E, I, ea, ke, q⟩ := H
  refine ⟨E.keep K, own_insK I K, ea, ke, ?_⟩
  rcases q with ⟨q, F, G⟩ | ⟨q, F, G, A, D⟩ | ⟨q, F, G, A, D⟩ | ⟨q, F, G, A, D⟩
  · exact Or.inl ⟨q, F.keep K nin0, G.keep K nin0⟩
  · exact Or.inr (Or.inl ⟨q, F.keep K nin0, G.keep K nin0, A.keep K nin0, D.keep K⟩)
  · exact Or.inr (Or.inr (Or.inl ⟨q, F.keep K nin0, G.keep K nin0, A.keep K nin0, D.keep K⟩))
  · exact Or.inr (Or.inr (Or.inr ⟨q, F.keep K nin0, G.keep K nin0, A.keep K nin0, D.keep K⟩))
def Q_co (Z : State) (z : Int32) (h0 : Heap) (n0 : Nat) (v : Option Value) (h : Heap) (L : List Loc) : Prop := ∃ b : Addr, v = some (.ref b) ∧ Fr n0 L ∧ Keep h0 h [] ∧ IL Z h b (decide (z = 0))
theorem rm_co (l : Launch) (Z : State) (a0 : Array Value) (hw : ∀ d ∈ tables_1, d.before a0 Z = true) (ws : List Jvm.Cond) (a x mr wEL wE : Addr) (z : Int32) (h0 : Heap) (n0 : Nat) (O0 : Old Z n0 h0) (S_EMPTY_LIST : Sta Z Z.heap "java/util/ImmutableCollections" "EMPTY_LIST" "Ljava/util/ImmutableCollections$ListN;" (.ref wEL)) (S_EMPTY : Sta Z Z.heap "java/util/ImmutableCollections" "EMPTY" "Ljava/lang/Object;" (.ref wE)) (Mr : Mir Z "[Ljava/lang/Object;" mr) (HE : IL Z Z.heap wEL true) (H : ALS Z h0 a x z) :
    Meets l (⟨"java/util/List", "copyOf", "(Ljava/util/Collection;)Ljava/util/List;"⟩ : MethodName) jdk_40_method_48_code 1 (some (.object "java/util/List")) ws ({ frames := 8, cells := 3, slots := 8, locals := 103 } : Room) Z #[.ref a] h0 (Q_co Z z h0 n0) 3 8 := by
  obtain ⟨E, I, ea, ke, q⟩ := H
  rcases q with ⟨rfl, F, G⟩ | ⟨rfl, F, G, A, D⟩ | ⟨rfl, F, G, A, D⟩ | ⟨rfl, F, G, A, D⟩
  · exact rm_co0 l Z a0 hw ws a x mr wEL wE ea ke h0 n0 O0 S_EMPTY_LIST S_EMPTY Mr HE E F G
  · exact rm_co1 l Z a0 hw ws a x mr wEL wE ea ke h0 n0 O0 S_EMPTY_LIST S_EMPTY Mr HE E F G A D I
  · exact rm_co2 l Z a0 hw ws a x mr wEL wE ea ke h0 n0 O0 S_EMPTY_LIST S_EMPTY Mr HE E F G A D I
  · exact rm_co3 l Z a0 hw ws a x mr wEL wE ea ke h0 n0 O0 S_EMPTY_LIST S_EMPTY Mr HE E F G A D I
theorem d_j30_m1_0 : decode jdk_30_method_1_code 0 = .ok (.aload_n 0, 1) := by decide +kernel
theorem d_j30_m1_1 : decode jdk_30_method_1_code 1 = .ok (.invokespecial 1, 3) := by decide +kernel
theorem d_j30_m1_4 : decode jdk_30_method_1_code 4 = .ok (.return_, 1) := by decide +kernel
theorem pn_13 : plainName "java/lang/Record" = true := by first | (simp [plainName, overriddenIn]; done) | decide +kernel
def Q_rm_rec (a : Addr) (h0 : Heap) (n0 : Nat) (v : Option Value) (h : Heap) (L : List Loc) : Prop := v = none ∧ Fr n0 L ∧ h = h0
set_option maxRecDepth 65536 in
set_option maxHeartbeats 40000000 in
theorem rm_rec (l : Launch) (Z : State) (a0 : Array Value) (hw : ∀ d ∈ tables_1, d.before a0 Z = true) (ws : List Jvm.Cond) (a : Addr) (h0 : Heap) (n0 : Nat) (O0 : Old Z n0 h0)  :
    Meets l (⟨"java/lang/Record", "<init>", "()V"⟩ : MethodName) jdk_30_method_1_code 1 none ws ({ frames := 1, cells := 0, slots := 0, locals := 12 } : Room) Z #[(.ref a)] h0 (Q_rm_rec a h0 n0) 0 0 := by
  refine enter (Ls := #[.val (.ref a)]) (plainFor_of_name pn_13) (fun m => by first | (simp [entryFrame, mkF, argsToLocals, Value.category]; done) | rfl) ?_
  intro p e s m below meth c T0 hx hby hml hown hnm hret hlk hZ X0 e0
  have N0 := Fr.nil n0
  replace hown : s.vm.findClass "java/lang/Record" = some m.cls := hown
  show Run p e below _ (T0.setTop (mkF m 0 #[.val (.ref a)] []))
  refine go (fun _ => XS.aloadN X0.here hx rfl (hb hby d_j30_m1_0) rfl rfl) ?_
  show Run p e below _ (T0.setTop (mkF m 1 #[.val (.ref a)] [(.ref a)]))
  obtain ⟨T133, X133, e133, st133⟩ := initO X0 hx hZ hown (wd hw 75 rfl) (wd hw 22 rfl) (wd hw 23 rfl) e0 (g := (mkF m 1 #[.val (.ref a)] [(.ref a)])) rfl (by rw [hml]; rfl) rfl (hb hby d_j30_m1_1) (by decide) (W := 0) (by show 2 * 0 + _ ≤ _; exact Nat.le_of_eq rfl) (by decide)
  refine go st133 ?_
  show Run p e below _ (T133.setTop (mkF m 4 #[.val (.ref a)] []))
  exact endV X133 hx hlk hret (hb hby d_j30_m1_4) (⟨rfl, N0, e133⟩) (by decide) (by decide)
theorem d_p78_m1_0 : decode prog_78_method_1_code 0 = .ok (.aload_n 0, 1) := by decide +kernel
theorem d_p78_m1_1 : decode prog_78_method_1_code 1 = .ok (.invokespecial 1, 3) := by decide +kernel
theorem d_p78_m1_4 : decode prog_78_method_1_code 4 = .ok (.aload_n 0, 1) := by decide +kernel
theorem d_p78_m1_5 : decode prog_78_method_1_code 5 = .ok (.aload_n 1, 1) := by decide +kernel
theorem d_p78_m1_6 : decode prog_78_method_1_code 6 = .ok (.invokestatic 7, 3) := by decide +kernel
theorem d_p78_m1_9 : decode prog_78_method_1_code 9 = .ok (.putfield 13, 3) := by decide +kernel
theorem d_p78_m1_12 : decode prog_78_method_1_code 12 = .ok (.return_, 1) := by decide +kernel
theorem pn_14 : plainName "com/example/pipewright/pipewright/core/Word" = true := by first | (simp [plainName, overriddenIn]; done) | decide +kernel
def Q_rm_wd (Z : State) (a r ea mr wEL wE : Addr) (ke : ClassId) (h0 : Heap) (n0 : Nat) (v : Option Value) (h : Heap) (L : List Loc) : Prop := v = none ∧ Fr n0 L ∧ Keep h0 h [a] ∧ Exa Z h a "com/example/pipewright/pipewright/core/Word"
set_option maxRecDepth 65536 in
set_option maxHeartbeats 40000000 in
theorem rm_wd (l : Launch) (Z : State) (a0 : Array Value) (hw : ∀ d ∈ tables_1, d.before a0 Z = true) (ws : List Jvm.Cond) (a r ea mr wEL wE : Addr) (ke : ClassId) (h0 : Heap) (n0 : Nat) (O0 : Old Z n0 h0) (S_EMPTY_LIST : Sta Z Z.heap "java/util/ImmutableCollections" "EMPTY_LIST" "Ljava/util/ImmutableCollections$ListN;" (.ref wEL)) (S_EMPTY : Sta Z Z.heap "java/util/ImmutableCollections" "EMPTY" "Ljava/lang/Object;" (.ref wE)) (Mr : Mir Z "[Ljava/lang/Object;" mr) (HE : IL Z Z.heap wEL true) (E_a : Exa Z h0 a "com/example/pipewright/pipewright/core/Word") (F_parts_a : Fld Z h0 a "com/example/pipewright/pipewright/core/Word" "parts" "Ljava/util/List;" .null) (g_a : n0 ≤ a) (E_r : Exa Z h0 r "java/util/ArrayList") (F_elementData_r : Fld Z h0 r "java/util/ArrayList" "elementData" "[Ljava/lang/Object;" (.ref ea)) (F_size_r : Fld Z h0 r "java/util/ArrayList" "size" "I" (.int (0 : Int32))) :
    Meets l (⟨"com/example/pipewright/pipewright/core/Word", "<init>", "(Ljava/util/List;)V"⟩ : MethodName) prog_78_method_1_code 2 none ws ({ frames := 9, cells := 3, slots := 8, locals := 116 } : Room) Z #[(.ref a), (.ref r)] h0 (Q_rm_wd Z a r ea mr wEL wE ke h0 n0) 3 8 := by
  refine enter (Ls := #[.val (.ref a), .val (.ref r)]) (plainFor_of_name pn_14) (fun m => by first | (simp [entryFrame, mkF, argsToLocals, Value.category]; done) | rfl) ?_
  intro p e s m below meth c T0 hx hby hml hown hnm hret hlk hZ X0 e0
  have N0 := Fr.nil n0
  replace hown : s.vm.findClass "com/example/pipewright/pipewright/core/Word" = some m.cls := hown
  show Run p e below _ (T0.setTop (mkF m 0 #[.val (.ref a), .val (.ref r)] []))
  have K0 := Keep.refl h0 [a]
  refine go (fun _ => XS.aloadN X0.here hx rfl (hb hby d_p78_m1_0) rfl rfl) ?_
  show Run p e below _ (T0.setTop (mkF m 1 #[.val (.ref a), .val (.ref r)] [(.ref a)]))
  obtain ⟨T134, X134, e134, st134⟩ := initO X0 hx hZ hown (wd hw 32 rfl) (wd hw 22 rfl) (wd hw 23 rfl) e0 (g := (mkF m 1 #[.val (.ref a), .val (.ref r)] [(.ref a)])) rfl (by rw [hml]; rfl) rfl (hb hby d_p78_m1_1) (by decide) (W := 0) (by show 2 * 0 + _ ≤ _; exact Nat.le_of_eq rfl) (by decide)
  refine go st134 ?_
  show Run p e below _ (T134.setTop (mkF m 4 #[.val (.ref a), .val (.ref r)] []))
  refine go (fun _ => XS.aloadN X134.here hx rfl (hb hby d_p78_m1_4) rfl rfl) ?_
  show Run p e below _ (T134.setTop (mkF m 5 #[.val (.ref a), .val (.ref r)] [(.ref a)]))
  refine go (fun _ => XS.aloadN X134.here hx rfl (hb hby d_p78_m1_5) rfl rfl) ?_
  show Run p e below _ (T134.setTop (mkF m 6 #[.val (.ref a), .val (.ref r)] [(.ref r), (.ref a)]))
  refine callSt X134 hx hZ hown (wd hw 33 rfl) (wd hw 34 rfl) (wd hw 35 rfl) (wd hw 36 rfl) (by decide) e134 (argsL := [(.ref r)]) (rest := [(.ref a)]) (rm_co0 l Z a0 hw [] r a mr wEL wE ea ke h0 n0 O0 S_EMPTY_LIST S_EMPTY Mr HE E_r F_elementData_r F_size_r) (W := 1) (by decide) (by decide) (by decide) (by decide) (by rw [hml]; rfl) (lenOf pd_12 rfl) rfl (Nat.le_of_eq rfl) (hb hby d_p78_m1_6) ?_
  intro v135 T135 L135 h135 X135 e135 q135
  obtain ⟨b135, rfl, n135, K135, IL135⟩ := q135
  have O0 := O0.keep K135 all0
  have E_a := E_a.keep K135
  have F_parts_a := F_parts_a.keep K135 nin0
  have E_r := E_r.keep K135
  have F_elementData_r := F_elementData_r.keep K135 nin0
  have F_size_r := F_size_r.keep K135 nin0
  have K0 := K0.trans K135 all0
  have N135 := Fr.app N0 n135
  show Run p e below _ (T135.setTop (mkF m 9 #[.val (.ref a), .val (.ref r)] [(.ref b135), (.ref a)]))
  obtain ⟨T136, h136, X136, e136, W136, st136⟩ := putF X135 hx hZ hown (host := "") (Or.inl (wd hw 62 rfl)) Via.refl e135 F_parts_a E_a (Or.inr ⟨(wd hw 63 rfl), rfl, hnm⟩) (wd hw 1 rfl) (ty := (.object "java/util/List")) (by decide) rfl rfl (g := (mkF m 9 #[.val (.ref a), .val (.ref r)] [(.ref b135), (.ref a)])) rfl rfl (hb hby d_p78_m1_9)
  have IL135 := IL135.wrE W136 E_a (by decide) (by decide) (wd hw 1 rfl)
  have O0 := O0.wr W136 g_a
  have E_a := E_a.wr W136
  have F_parts_a := F_parts_a.same W136
  have E_r := E_r.wr W136
  have K0 := K0.wr W136 (Or.inl (by simp))
  have N136 := Fr.snoc X136 N135 g_a
  refine go st136 ?_
  show Run p e below _ (T136.setTop (mkF m 12 #[.val (.ref a), .val (.ref r)] []))
  exact endV X136 hx hlk hret (hb hby d_p78_m1_12) (by rw [e136]; exact ⟨rfl, N136, K0, E_a⟩) (by decide) (by decide)
theorem d_p45_m1_0 : decode prog_45_method_1_code 0 = .ok (.aload_n 0, 1) := by decide +kernel
theorem d_p45_m1_1 : decode prog_45_method_1_code 1 = .ok (.invokespecial 1, 3) := by decide +kernel
theorem d_p45_m1_4 : decode prog_45_method_1_code 4 = .ok (.aload_n 0, 1) := by decide +kernel
theorem d_p45_m1_5 : decode prog_45_method_1_code 5 = .ok (.aload_n 1, 1) := by decide +kernel
theorem d_p45_m1_6 : decode prog_45_method_1_code 6 = .ok (.putfield 7, 3) := by decide +kernel
theorem d_p45_m1_9 : decode prog_45_method_1_code 9 = .ok (.aload_n 0, 1) := by decide +kernel
theorem d_p45_m1_10 : decode prog_45_method_1_code 10 = .ok (.aload_n 2, 1) := by decide +kernel
theorem d_p45_m1_11 : decode prog_45_method_1_code 11 = .ok (.putfield 13, 3) := by decide +kernel
theorem d_p45_m1_14 : decode prog_45_method_1_code 14 = .ok (.return_, 1) := by decide +kernel
theorem pn_15 : plainName "com/example/pipewright/pipewright/core/Call$Redirection" = true := by first | (simp [plainName, overriddenIn]; done) | decide +kernel
def Q_rm_rd (Z : State) (a r : Addr) (h0 : Heap) (n0 : Nat) (v : Option Value) (h : Heap) (L : List Loc) : Prop := v = none ∧ Fr n0 L ∧ Keep h0 h [a] ∧ Exa Z h a "com/example/pipewright/pipewright/core/Call$Redirection"
set_option maxRecDepth 65536 in
set_option maxHeartbeats 40000000 in
theorem rm_rd (l : Launch) (Z : State) (a0 : Array Value) (hw : ∀ d ∈ tables_1, d.before a0 Z = true) (ws : List Jvm.Cond) (a r : Addr) (h0 : Heap) (n0 : Nat) (O0 : Old Z n0 h0) (E_a : Exa Z h0 a "com/example/pipewright/pipewright/core/Call$Redirection") (F_direction_a : Fld Z h0 a "com/example/pipewright/pipewright/core/Call$Redirection" "direction" "Lcom/example/pipewright/pipewright/core/Call$Direction;" .null) (F_file_a : Fld Z h0 a "com/example/pipewright/pipewright/core/Call$Redirection" "file" "Lcom/example/pipewright/pipewright/core/Word;" .null) (g_a : n0 ≤ a) :
    Meets l (⟨"com/example/pipewright/pipewright/core/Call$Redirection", "<init>", "(Lcom/example/pipewright/pipewright/core/Call$Direction;Lcom/example/pipewright/pipewright/core/Word;)V"⟩ : MethodName) prog_45_method_1_code 3 none ws ({ frames := 2, cells := 0, slots := 0, locals := 24 } : Room) Z #[(.ref a), .null, (.ref r)] h0 (Q_rm_rd Z a r h0 n0) 0 0 := by
  refine enter (Ls := #[.val (.ref a), .val .null, .val (.ref r)]) (plainFor_of_name pn_15) (fun m => by first | (simp [entryFrame, mkF, argsToLocals, Value.category]; done) | rfl) ?_
  intro p e s m below meth c T0 hx hby hml hown hnm hret hlk hZ X0 e0
  have N0 := Fr.nil n0
  replace hown : s.vm.findClass "com/example/pipewright/pipewright/core/Call$Redirection" = some m.cls := hown
  show Run p e below _ (T0.setTop (mkF m 0 #[.val (.ref a), .val .null, .val (.ref r)] []))
  have K0 := Keep.refl h0 [a]
  refine go (fun _ => XS.aloadN X0.here hx rfl (hb hby d_p45_m1_0) rfl rfl) ?_
  show Run p e below _ (T0.setTop (mkF m 1 #[.val (.ref a), .val .null, .val (.ref r)] [(.ref a)]))
  refine callSp X0 hx hZ rfl hown (wd hw 70 rfl) (wd hw 71 rfl) (wd hw 74 rfl) (wd hw 73 rfl) (by decide) e0 (a := a) (argsL := []) (rest := []) (rm_rec l Z a0 hw [] a h0 n0 O0) (W := 0) (by decide) (by decide) (by decide) (by decide) (by rw [hml]; rfl) (lenOf pd_0 rfl) rfl (Nat.le_of_eq rfl) (hb hby d_p45_m1_1) ?_
  intro v137 T137 L137 h137 X137 e137 q137
  obtain ⟨rfl, n137, k137⟩ := q137
  have e137 := e137.trans k137
  have N137 := Fr.app N0 n137
  show Run p e below _ (T137.setTop (mkF m 4 #[.val (.ref a), .val .null, .val (.ref r)] []))
  refine go (fun _ => XS.aloadN X137.here hx rfl (hb hby d_p45_m1_4) rfl rfl) ?_
  show Run p e below _ (T137.setTop (mkF m 5 #[.val (.ref a), .val .null, .val (.ref r)] [(.ref a)]))
  refine go (fun _ => XS.aloadN X137.here hx rfl (hb hby d_p45_m1_5) rfl rfl) ?_
  show Run p e below _ (T137.setTop (mkF m 6 #[.val (.ref a), .val .null, .val (.ref r)] [.null, (.ref a)]))
  obtain ⟨T138, h138, X138, e138, W138, st138⟩ := putF X137 hx hZ hown (host := "") (Or.inl (wd hw 76 rfl)) Via.refl e137 F_direction_a E_a (Or.inr ⟨(wd hw 77 rfl), rfl, hnm⟩) (wd hw 65 rfl) (ty := (.object "com/example/pipewright/pipewright/core/Call$Direction")) (by decide) rfl rfl (g := (mkF m 6 #[.val (.ref a), .val .null, .val (.ref r)] [.null, (.ref a)])) rfl rfl (hb hby d_p45_m1_6)
  have O0 := O0.wr W138 g_a
  have E_a := E_a.wr W138
  have F_direction_a := F_direction_a.same W138
  have F_file_a := F_file_a.other W138 (Or.inr (slot_ne (Or.inr (wd hw 79 rfl)) (Or.inr (wd hw 77 rfl)) (by decide) (t := (.object "com/example/pipewright/pipewright/core/Word")) (t' := (.object "com/example/pipewright/pipewright/core/Call$Direction")) (by decide) (by decide)))
  have K0 := K0.wr W138 (Or.inl (by simp))
  have N138 := Fr.snoc X138 N137 g_a
  refine go st138 ?_
  show Run p e below _ (T138.setTop (mkF m 9 #[.val (.ref a), .val .null, .val (.ref r)] []))
  refine go (fun _ => XS.aloadN X138.here hx rfl (hb hby d_p45_m1_9) rfl rfl) ?_
  show Run p e below _ (T138.setTop (mkF m 10 #[.val (.ref a), .val .null, .val (.ref r)] [(.ref a)]))
  refine go (fun _ => XS.aloadN X138.here hx rfl (hb hby d_p45_m1_10) rfl rfl) ?_
  show Run p e below _ (T138.setTop (mkF m 11 #[.val (.ref a), .val .null, .val (.ref r)] [(.ref r), (.ref a)]))
  obtain ⟨T139, h139, X139, e139, W139, st139⟩ := putF X138 hx hZ hown (host := "") (Or.inl (wd hw 78 rfl)) Via.refl e138 F_file_a E_a (Or.inr ⟨(wd hw 79 rfl), rfl, hnm⟩) (wd hw 65 rfl) (ty := (.object "com/example/pipewright/pipewright/core/Word")) (by decide) rfl rfl (g := (mkF m 11 #[.val (.ref a), .val .null, .val (.ref r)] [(.ref r), (.ref a)])) rfl rfl (hb hby d_p45_m1_11)
  have O0 := O0.wr W139 g_a
  have E_a := E_a.wr W139
  have F_direction_a := F_direction_a.other W139 (Or.inr (slot_ne (Or.inr (wd hw 77 rfl)) (Or.inr (wd hw 79 rfl)) (by decide) (t := (.object "com/example/pipewright/pipewright/core/Call$Direction")) (t' := (.object "com/example/pipewright/pipewright/core/Word")) (by decide) (by decide)))
  have F_file_a := F_file_a.same W139
  have K0 := K0.wr W139 (Or.inl (by simp))
  have N139 := Fr.snoc X139 N138 g_a
  refine go st139 ?_
  show Run p e below _ (T139.setTop (mkF m 14 #[.val (.ref a), .val .null, .val (.ref r)] []))
  exact endV X139 hx hlk hret (hb hby d_p45_m1_14) (by rw [e139]; exact ⟨rfl, N139, K0, E_a⟩) (by decide) (by decide)
theorem d_p43_m1_0 : decode prog_43_method_1_code 0 = .ok (.aload_n 0, 1) := by decide +kernel
theorem d_p43_m1_1 : decode prog_43_method_1_code 1 = .ok (.invokespecial 1, 3) := by decide +kernel
theorem d_p43_m1_4 : decode prog_43_method_1_code 4 = .ok (.aload_n 1, 1) := by decide +kernel
theorem d_p43_m1_5 : decode prog_43_method_1_code 5 = .ok (.invokestatic 7, 3) := by decide +kernel
theorem d_p43_m1_8 : decode prog_43_method_1_code 8 = .ok (.astore_n 1, 1) := by decide +kernel
theorem d_p43_m1_9 : decode prog_43_method_1_code 9 = .ok (.aload_n 2, 1) := by decide +kernel
theorem d_p43_m1_10 : decode prog_43_method_1_code 10 = .ok (.invokestatic 7, 3) := by decide +kernel
theorem d_p43_m1_13 : decode prog_43_method_1_code 13 = .ok (.astore_n 2, 1) := by decide +kernel
theorem d_p43_m1_14 : decode prog_43_method_1_code 14 = .ok (.aload_n 0, 1) := by decide +kernel
theorem d_p43_m1_15 : decode prog_43_method_1_code 15 = .ok (.aload_n 1, 1) := by decide +kernel
theorem d_p43_m1_16 : decode prog_43_method_1_code 16 = .ok (.putfield 13, 3) := by decide +kernel
theorem d_p43_m1_19 : decode prog_43_method_1_code 19 = .ok (.aload_n 0, 1) := by decide +kernel
theorem d_p43_m1_20 : decode prog_43_method_1_code 20 = .ok (.aload_n 2, 1) := by decide +kernel
theorem d_p43_m1_21 : decode prog_43_method_1_code 21 = .ok (.putfield 19, 3) := by decide +kernel
theorem d_p43_m1_24 : decode prog_43_method_1_code 24 = .ok (.return_, 1) := by decide +kernel
theorem pn_16 : plainName "com/example/pipewright/pipewright/core/Call" = true := by first | (simp [plainName, overriddenIn]; done) | decide +kernel
def Q_rm_cl (Z : State) (a r1 r2 x1 x2 mr wEL wE : Addr) (z1 z2 : Int32) (h0 : Heap) (n0 : Nat) (v : Option Value) (h : Heap) (L : List Loc) : Prop := v = none ∧ Fr n0 L ∧ Keep h0 h [a] ∧ Exa Z h a "com/example/pipewright/pipewright/core/Call" ∧ ∃ b1 b2 : Addr, Fld Z h a "com/example/pipewright/pipewright/core/Call" "words" "Ljava/util/List;" (.ref b1) ∧ Fld Z h a "com/example/pipewright/pipewright/core/Call" "redirections" "Ljava/util/List;" (.ref b2) ∧ IL Z h b1 (decide (z1 = 0)) ∧ IL Z h b2 (decide (z2 = 0))
set_option maxRecDepth 65536 in
set_option maxHeartbeats 40000000 in
theorem rm_cl (l : Launch) (Z : State) (a0 : Array Value) (hw : ∀ d ∈ tables_1, d.before a0 Z = true) (ws : List Jvm.Cond) (a r1 r2 x1 x2 mr wEL wE : Addr) (z1 z2 : Int32) (h0 : Heap) (n0 : Nat) (O0 : Old Z n0 h0) (S_EMPTY_LIST : Sta Z Z.heap "java/util/ImmutableCollections" "EMPTY_LIST" "Ljava/util/ImmutableCollections$ListN;" (.ref wEL)) (S_EMPTY : Sta Z Z.heap "java/util/ImmutableCollections" "EMPTY" "Ljava/lang/Object;" (.ref wE)) (Mr : Mir Z "[Ljava/lang/Object;" mr) (HE : IL Z Z.heap wEL true) (E_a : Exa Z h0 a "com/example/pipewright/pipewright/core/Call") (F_words_a : Fld Z h0 a "com/example/pipewright/pipewright/core/Call" "words" "Ljava/util/List;" .null) (F_redirections_a : Fld Z h0 a "com/example/pipewright/pipewright/core/Call" "redirections" "Ljava/util/List;" .null) (g_a : n0 ≤ a) (H1 : ALS Z h0 r1 x1 z1) (H2 : ALS Z h0 r2 x2 z2) :
    Meets l (⟨"com/example/pipewright/pipewright/core/Call", "<init>", "(Ljava/util/List;Ljava/util/List;)V"⟩ : MethodName) prog_43_method_1_code 3 none ws ({ frames := 9, cells := 6, slots := 16, locals := 115 } : Room) Z #[(.ref a), (.ref r1), (.ref r2)] h0 (Q_rm_cl Z a r1 r2 x1 x2 mr wEL wE z1 z2 h0 n0) 6 16 := by
  refine enter (Ls := #[.val (.ref a), .val (.ref r1), .val (.ref r2)]) (plainFor_of_name pn_16) (fun m => by first | (simp [entryFrame, mkF, argsToLocals, Value.category]; done) | rfl) ?_
  intro p e s m below meth c T0 hx hby hml hown hnm hret hlk hZ X0 e0
  have N0 := Fr.nil n0
  replace hown : s.vm.findClass "com/example/pipewright/pipewright/core/Call" = some m.cls := hown
  show Run p e below _ (T0.setTop (mkF m 0 #[.val (.ref a), .val (.ref r1), .val (.ref r2)] []))
  have K0 := Keep.refl h0 [a]
  refine go (fun _ => XS.aloadN X0.here hx rfl (hb hby d_p43_m1_0) rfl rfl) ?_
  show Run p e below _ (T0.setTop (mkF m 1 #[.val (.ref a), .val (.ref r1), .val (.ref r2)] [(.ref a)]))
  refine callSp X0 hx hZ rfl hown (wd hw 119 rfl) (wd hw 71 rfl) (wd hw 74 rfl) (wd hw 73 rfl) (by decide) e0 (a := a) (argsL := []) (rest := []) (rm_rec l Z a0 hw [] a h0 n0 O0) (W := 0) (by decide) (by decide) (by decide) (by decide) (by rw [hml]; rfl) (lenOf pd_0 rfl) rfl (Nat.le_of_eq rfl) (hb hby d_p43_m1_1) ?_
  intro v140 T140 L140 h140 X140 e140 q140
  obtain ⟨rfl, n140, k140⟩ := q140
  have e140 := e140.trans k140
  have N140 := Fr.app N0 n140
  show Run p e below _ (T140.setTop (mkF m 4 #[.val (.ref a), .val (.ref r1), .val (.ref r2)] []))
  refine go (fun _ => XS.aloadN X140.here hx rfl (hb hby d_p43_m1_4) rfl rfl) ?_
  show Run p e below _ (T140.setTop (mkF m 5 #[.val (.ref a), .val (.ref r1), .val (.ref r2)] [(.ref r1)]))
  refine callSt X140 hx hZ hown (wd hw 120 rfl) (wd hw 34 rfl) (wd hw 35 rfl) (wd hw 36 rfl) (by decide) e140 (argsL := [(.ref r1)]) (rest := []) (rm_co l Z a0 hw [] r1 x1 mr wEL wE z1 h0 n0 O0 S_EMPTY_LIST S_EMPTY Mr HE H1) (W := 0) (by decide) (by decide) (by decide) (by decide) (by rw [hml]; rfl) (lenOf pd_12 rfl) rfl (Nat.le_of_eq rfl) (hb hby d_p43_m1_5) ?_
  intro v141 T141 L141 h141 X141 e141 q141
  obtain ⟨b141, rfl, n141, K141, IL141⟩ := q141
  have O0 := O0.keep K141 all0
  have E_a := E_a.keep K141
  have F_words_a := F_words_a.keep K141 nin0
  have F_redirections_a := F_redirections_a.keep K141 nin0
  have K0 := K0.trans K141 all0
  have H1 := H1.keep0 K141
  have H2 := H2.keep0 K141
  have N141 := Fr.app N140 n141
  show Run p e below _ (T141.setTop (mkF m 8 #[.val (.ref a), .val (.ref r1), .val (.ref r2)] [(.ref b141)]))
  refine go (fun _ => XS.astoreN X141.here hx rfl (hb hby d_p43_m1_8) rfl rfl (l' := #[.val (.ref a), .val (.ref b141), .val (.ref r2)]) rfl) ?_
  show Run p e below _ (T141.setTop (mkF m 9 #[.val (.ref a), .val (.ref b141), .val (.ref r2)] []))
  refine go (fun _ => XS.aloadN X141.here hx rfl (hb hby d_p43_m1_9) rfl rfl) ?_
  show Run p e below _ (T141.setTop (mkF m 10 #[.val (.ref a), .val (.ref b141), .val (.ref r2)] [(.ref r2)]))
  refine callSt X141 hx hZ hown (wd hw 120 rfl) (wd hw 34 rfl) (wd hw 35 rfl) (wd hw 36 rfl) (by decide) e141 (argsL := [(.ref r2)]) (rest := []) (rm_co l Z a0 hw [] r2 x2 mr wEL wE z2 h141 n0 O0 S_EMPTY_LIST S_EMPTY Mr HE H2) (W := 0) (by decide) (by decide) (by decide) (by decide) (by rw [hml]; rfl) (lenOf pd_12 rfl) rfl (Nat.le_of_eq rfl) (hb hby d_p43_m1_10) ?_
  intro v142 T142 L142 h142 X142 e142 q142
  obtain ⟨b142, rfl, n142, K142, IL142⟩ := q142
  have O0 := O0.keep K142 all0
  have E_a := E_a.keep K142
  have F_words_a := F_words_a.keep K142 nin0
  have F_redirections_a := F_redirections_a.keep K142 nin0
  have K0 := K0.trans K142 all0
  have H2 := H2.keep0 K142
  have IL141 := IL141.keep0 K142
  have N142 := Fr.app N141 n142
  show Run p e below _ (T142.setTop (mkF m 13 #[.val (.ref a), .val (.ref b141), .val (.ref r2)] [(.ref b142)]))
  refine go (fun _ => XS.astoreN X142.here hx rfl (hb hby d_p43_m1_13) rfl rfl (l' := #[.val (.ref a), .val (.ref b141), .val (.ref b142)]) rfl) ?_
  show Run p e below _ (T142.setTop (mkF m 14 #[.val (.ref a), .val (.ref b141), .val (.ref b142)] []))
  refine go (fun _ => XS.aloadN X142.here hx rfl (hb hby d_p43_m1_14) rfl rfl) ?_
  show Run p e below _ (T142.setTop (mkF m 15 #[.val (.ref a), .val (.ref b141), .val (.ref b142)] [(.ref a)]))
  refine go (fun _ => XS.aloadN X142.here hx rfl (hb hby d_p43_m1_15) rfl rfl) ?_
  show Run p e below _ (T142.setTop (mkF m 16 #[.val (.ref a), .val (.ref b141), .val (.ref b142)] [(.ref b141), (.ref a)]))
  obtain ⟨T143, h143, X143, e143, W143, st143⟩ := putF X142 hx hZ hown (host := "") (Or.inl (wd hw 186 rfl)) Via.refl e142 F_words_a E_a (Or.inr ⟨(wd hw 187 rfl), rfl, hnm⟩) (wd hw 114 rfl) (ty := (.object "java/util/List")) (by decide) rfl rfl (g := (mkF m 16 #[.val (.ref a), .val (.ref b141), .val (.ref b142)] [(.ref b141), (.ref a)])) rfl rfl (hb hby d_p43_m1_16)
  have IL141 := IL141.wrE W143 E_a (by decide) (by decide) (wd hw 114 rfl)
  have IL142 := IL142.wrE W143 E_a (by decide) (by decide) (wd hw 114 rfl)
  have O0 := O0.wr W143 g_a
  have E_a := E_a.wr W143
  have F_words_a := F_words_a.same W143
  have F_redirections_a := F_redirections_a.other W143 (Or.inr (slot_ne (Or.inr (wd hw 189 rfl)) (Or.inr (wd hw 187 rfl)) (by decide) (t := (.object "java/util/List")) (t' := (.object "java/util/List")) (by decide) (by decide)))
  have K0 := K0.wr W143 (Or.inl (by simp))
  have N143 := Fr.snoc X143 N142 g_a
  refine go st143 ?_
  show Run p e below _ (T143.setTop (mkF m 19 #[.val (.ref a), .val (.ref b141), .val (.ref b142)] []))
  refine go (fun _ => XS.aloadN X143.here hx rfl (hb hby d_p43_m1_19) rfl rfl) ?_
  show Run p e below _ (T143.setTop (mkF m 20 #[.val (.ref a), .val (.ref b141), .val (.ref b142)] [(.ref a)]))
  refine go (fun _ => XS.aloadN X143.here hx rfl (hb hby d_p43_m1_20) rfl rfl) ?_
  show Run p e below _ (T143.setTop (mkF m 21 #[.val (.ref a), .val (.ref b141), .val (.ref b142)] [(.ref b142), (.ref a)]))
  obtain ⟨T144, h144, X144, e144, W144, st144⟩ := putF X143 hx hZ hown (host := "") (Or.inl (wd hw 188 rfl)) Via.refl e143 F_redirections_a E_a (Or.inr ⟨(wd hw 189 rfl), rfl, hnm⟩) (wd hw 114 rfl) (ty := (.object "java/util/List")) (by decide) rfl rfl (g := (mkF m 21 #[.val (.ref a), .val (.ref b141), .val (.ref b142)] [(.ref b142), (.ref a)])) rfl rfl (hb hby d_p43_m1_21)
  have IL141 := IL141.wrE W144 E_a (by decide) (by decide) (wd hw 114 rfl)
  have IL142 := IL142.wrE W144 E_a (by decide) (by decide) (wd hw 114 rfl)
  have O0 := O0.wr W144 g_a
  have E_a := E_a.wr W144
  have F_words_a := F_words_a.other W144 (Or.inr (slot_ne (Or.inr (wd hw 187 rfl)) (Or.inr (wd hw 189 rfl)) (by decide) (t := (.object "java/util/List")) (t' := (.object "java/util/List")) (by decide) (by decide)))
  have F_redirections_a := F_redirections_a.same W144
  have K0 := K0.wr W144 (Or.inl (by simp))
  have N144 := Fr.snoc X144 N143 g_a
  refine go st144 ?_
  show Run p e below _ (T144.setTop (mkF m 24 #[.val (.ref a), .val (.ref b141), .val (.ref b142)] []))
  exact endV X144 hx hlk hret (hb hby d_p43_m1_24) (by rw [e144]; exact ⟨rfl, N144, K0, E_a, b141, b142, F_words_a, F_redirections_a, IL141, IL142⟩) (by decide) (by decide)
theorem d_j44_m4_0 : decode jdk_44_method_4_code 0 = .ok (.iconst 0, 1) := by decide +kernel
theorem d_j44_m4_1 : decode jdk_44_method_4_code 1 = .ok (.ireturn, 1) := by decide +kernel
def Q_rm_e12 (a : Addr) (h0 : Heap) (n0 : Nat) (v : Option Value) (h : Heap) (L : List Loc) : Prop := v = some (.int 0) ∧ Fr n0 L ∧ h = h0
set_option maxRecDepth 65536 in
set_option maxHeartbeats 40000000 in
theorem rm_e12 (l : Launch) (Z : State) (a0 : Array Value) (hw : ∀ d ∈ tables_1, d.before a0 Z = true) (ws : List Jvm.Cond) (a : Addr) (h0 : Heap) (n0 : Nat) (O0 : Old Z n0 h0)  :
    Meets l (⟨"java/util/ImmutableCollections$List12", "isEmpty", "()Z"⟩ : MethodName) jdk_44_method_4_code 1 (some .boolean) ws ({ frames := 0, cells := 0, slots := 0, locals := 0 } : Room) Z #[(.ref a)] h0 (Q_rm_e12 a h0 n0) 0 0 := by
  refine enter (Ls := #[.val (.ref a)]) (plainFor_of_name pn_9) (fun m => by first | (simp [entryFrame, mkF, argsToLocals, Value.category]; done) | rfl) ?_
  intro p e s m below meth c T0 hx hby hml hown hnm hret hlk hZ X0 e0
  have N0 := Fr.nil n0
  replace hown : s.vm.findClass "java/util/ImmutableCollections$List12" = some m.cls := hown
  show Run p e below _ (T0.setTop (mkF m 0 #[.val (.ref a)] []))
  refine go (fun _ => XS.iconst X0.here hx rfl (hb hby d_j44_m4_0)) ?_
  show Run p e below _ (T0.setTop (mkF m 1 #[.val (.ref a)] [(.int (0 : Int32))]))
  exact endN X0 hx hlk (t := .boolean) hret (by simp) (hb hby d_j44_m4_1) (⟨rfl, N0, e0⟩) (by decide) (by decide)
theorem d_j45_m2_0 : decode jdk_45_method_2_code 0 = .ok (.aload_n 0, 1) := by decide +kernel
theorem d_j45_m2_1 : decode jdk_45_method_2_code 1 = .ok (.getfield 7, 3) := by decide +kernel
theorem d_j45_m2_4 : decode jdk_45_method_2_code 4 = .ok (.arraylength, 1) := by decide +kernel
theorem d_j45_m2_5 : decode jdk_45_method_2_code 5 = .ok (.ifCond .ne 7, 3) := by decide +kernel
theorem d_j45_m2_8 : decode jdk_45_method_2_code 8 = .ok (.iconst 1, 1) := by decide +kernel
theorem d_j45_m2_9 : decode jdk_45_method_2_code 9 = .ok (.goto 4, 3) := by decide +kernel
theorem d_j45_m2_13 : decode jdk_45_method_2_code 13 = .ok (.ireturn, 1) := by decide +kernel
theorem d_j45_m2_12 : decode jdk_45_method_2_code 12 = .ok (.iconst 0, 1) := by decide +kernel
def Q_rm_eN (a ea : Addr) (ke : ClassId) (z : Int32) (us : List Value) (h0 : Heap) (n0 : Nat) (v : Option Value) (h : Heap) (L : List Loc) : Prop := v = some (.int (if z = 0 then 1 else 0)) ∧ Fr n0 L ∧ h = h0
set_option maxRecDepth 65536 in
set_option maxHeartbeats 40000000 in
theorem rm_eN (l : Launch) (Z : State) (a0 : Array Value) (hw : ∀ d ∈ tables_1, d.before a0 Z = true) (ws : List Jvm.Cond) (a ea : Addr) (ke : ClassId) (z : Int32) (us : List Value) (h0 : Heap) (n0 : Nat) (O0 : Old Z n0 h0) (F_elements_a : Fld Z h0 a "java/util/ImmutableCollections$ListN" "elements" "[Ljava/lang/Object;" (.ref ea)) (V_ea : Arv Z h0 ea ke (.object "java/lang/Object") z us .null) :
    Meets l (⟨"java/util/ImmutableCollections$ListN", "isEmpty", "()Z"⟩ : MethodName) jdk_45_method_2_code 1 (some .boolean) ws ({ frames := 0, cells := 0, slots := 0, locals := 0 } : Room) Z #[(.ref a)] h0 (Q_rm_eN a ea ke z us h0 n0) 0 0 := by
  refine enter (Ls := #[.val (.ref a)]) (plainFor_of_name pn_10) (fun m => by first | (simp [entryFrame, mkF, argsToLocals, Value.category]; done) | rfl) ?_
  intro p e s m below meth c T0 hx hby hml hown hnm hret hlk hZ X0 e0
  have N0 := Fr.nil n0
  replace hown : s.vm.findClass "java/util/ImmutableCollections$ListN" = some m.cls := hown
  show Run p e below _ (T0.setTop (mkF m 0 #[.val (.ref a)] []))
  refine go (fun _ => XS.aloadN X0.here hx rfl (hb hby d_j45_m2_0) rfl rfl) ?_
  show Run p e below _ (T0.setTop (mkF m 1 #[.val (.ref a)] [(.ref a)]))
  obtain ⟨T145, X145, e145, st145⟩ := getF X0 hx hZ hown (host := "") (Or.inl (wd hw 182 rfl)) Via.refl e0 F_elements_a (g := (mkF m 1 #[.val (.ref a)] [(.ref a)])) rfl rfl (hb hby d_j45_m2_1)
  refine go st145 ?_
  show Run p e below _ (T145.setTop (mkF m 4 #[.val (.ref a)] [(.ref ea)]))
  obtain ⟨cl146, Ar146, ak146, as146, an146, ah146, ag146⟩ := id V_ea
  refine go (fun _ => X145.arraylength hx (by rw [e145]; exact Ar146.1) (State.isArrayOf_alike hZ.alike Ar146.2.1) (g := (mkF m 4 #[.val (.ref a)] [(.ref ea)])) rfl rfl (hb hby d_j45_m2_4) _) ?_
  rw [len_of as146 an146]
  show Run p e below _ (T145.setTop (mkF m 5 #[.val (.ref a)] [(.int z)]))
  by_cases c147 : z = 0
  · skip
    refine go (fun _ => XS.ifNo X145.here hx rfl (hb hby d_j45_m2_5) rfl ((if0 _ _).trans (teq c147).2)) ?_
    show Run p e below _ (T145.setTop (mkF m 8 #[.val (.ref a)] []))
    refine go (fun _ => XS.iconst X145.here hx rfl (hb hby d_j45_m2_8)) ?_
    show Run p e below _ (T145.setTop (mkF m 9 #[.val (.ref a)] [(.int (1 : Int32))]))
    refine go (fun _ => XS.goto X145.here hx rfl (pc0 := 9) (pc' := 13) rfl (hb hby d_j45_m2_9) (by decide) (by decide)) ?_
    show Run p e below _ (T145.setTop (mkF m 13 #[.val (.ref a)] [(.int (1 : Int32))]))
    exact endN X145 hx hlk (t := .boolean) hret (by simp) (hb hby d_j45_m2_13) (⟨by simp [c147] <;> rfl, N0, e145⟩) (by decide) (by decide)
  · skip
    refine go (fun _ => XS.ifYes X145.here hx rfl (pc0 := 5) (pc' := 12) rfl (hb hby d_j45_m2_5) rfl ((if0 _ _).trans (feq c147).2) (by decide) (by decide)) ?_
    show Run p e below _ (T145.setTop (mkF m 12 #[.val (.ref a)] []))
    refine go (fun _ => XS.iconst X145.here hx rfl (hb hby d_j45_m2_12)) ?_
    show Run p e below _ (T145.setTop (mkF m 13 #[.val (.ref a)] [(.int (0 : Int32))]))
    exact endN X145 hx hlk (t := .boolean) hret (by simp) (hb hby d_j45_m2_13) (⟨by simp [c147] <;> rfl, N0, e145⟩) (by decide) (by decide)
theorem d_p43_m2_0 : decode prog_43_method_2_code 0 = .ok (.aload_n 0, 1) := by decide +kernel
theorem d_p43_m2_1 : decode prog_43_method_2_code 1 = .ok (.getfield 13, 3) := by decide +kernel
theorem d_p43_m2_4 : decode prog_43_method_2_code 4 = .ok (.invokeinterface 22 1, 5) := by decide +kernel
theorem d_p43_m2_9 : decode prog_43_method_2_code 9 = .ok (.ifCond .eq 19, 3) := by decide +kernel
theorem d_p43_m2_28 : decode prog_43_method_2_code 28 = .ok (.iconst 0, 1) := by decide +kernel
theorem d_p43_m2_29 : decode prog_43_method_2_code 29 = .ok (.ireturn, 1) := by decide +kernel
theorem d_p43_m2_12 : decode prog_43_method_2_code 12 = .ok (.aload_n 0, 1) := by decide +kernel
theorem d_p43_m2_13 : decode prog_43_method_2_code 13 = .ok (.getfield 19, 3) := by decide +kernel
theorem d_p43_m2_16 : decode prog_43_method_2_code 16 = .ok (.invokeinterface 22 1, 5) := by decide +kernel
theorem d_p43_m2_21 : decode prog_43_method_2_code 21 = .ok (.ifCond .eq 7, 3) := by decide +kernel
theorem d_p43_m2_24 : decode prog_43_method_2_code 24 = .ok (.iconst 1, 1) := by decide +kernel
theorem d_p43_m2_25 : decode prog_43_method_2_code 25 = .ok (.goto 4, 3) := by decide +kernel
def Q_rm_cie (a b1 b2 : Addr) (e1 e2 : Bool) (h0 : Heap) (n0 : Nat) (v : Option Value) (h : Heap) (L : List Loc) : Prop := v = some (.int (if e1 = true then (if e2 = true then 1 else 0) else 0)) ∧ Fr n0 L ∧ h = h0
set_option maxRecDepth 65536 in
set_option maxHeartbeats 40000000 in
theorem rm_cie (l : Launch) (Z : State) (a0 : Array Value) (hw : ∀ d ∈ tables_1, d.before a0 Z = true) (ws : List Jvm.Cond) (a b1 b2 : Addr) (e1 e2 : Bool) (h0 : Heap) (n0 : Nat) (O0 : Old Z n0 h0) (F_words_a : Fld Z h0 a "com/example/pipewright/pipewright/core/Call" "words" "Ljava/util/List;" (.ref b1)) (F_redirections_a : Fld Z h0 a "com/example/pipewright/pipewright/core/Call" "redirections" "Ljava/util/List;" (.ref b2)) (H1 : IL Z h0 b1 e1) (H2 : IL Z h0 b2 e2) :
    Meets l (⟨"com/example/pipewright/pipewright/core/Call", "isEmpty", "()Z"⟩ : MethodName) prog_43_method_2_code 1 (some .boolean) ws ({ frames := 1, cells := 0, slots := 0, locals := 12 } : Room) Z #[(.ref a)] h0 (Q_rm_cie a b1 b2 e1 e2 h0 n0) 0 0 := by
  refine enter (Ls := #[.val (.ref a)]) (plainFor_of_name pn_16) (fun m => by first | (simp [entryFrame, mkF, argsToLocals, Value.category]; done) | rfl) ?_
  intro p e s m below meth c T0 hx hby hml hown hnm hret hlk hZ X0 e0
  have N0 := Fr.nil n0
  replace hown : s.vm.findClass "com/example/pipewright/pipewright/core/Call" = some m.cls := hown
  show Run p e below _ (T0.setTop (mkF m 0 #[.val (.ref a)] []))
  rcases H1 with ⟨E_b1, rfl⟩ | ⟨E_b1, ea1, ke1, z1, us1, F_elements_b1, V_ea1, rfl⟩ <;> rcases H2 with ⟨E_b2, rfl⟩ | ⟨E_b2, ea2, ke2, z2, us2, F_elements_b2, V_ea2, rfl⟩
  · skip
    refine go (fun _ => XS.aloadN X0.here hx rfl (hb hby d_p43_m2_0) rfl rfl) ?_
    show Run p e below _ (T0.setTop (mkF m 1 #[.val (.ref a)] [(.ref a)]))
    obtain ⟨T148, X148, e148, st148⟩ := getF X0 hx hZ hown (host := "") (Or.inl (wd hw 186 rfl)) Via.refl e0 F_words_a (g := (mkF m 1 #[.val (.ref a)] [(.ref a)])) rfl rfl (hb hby d_p43_m2_1)
    refine go st148 ?_
    show Run p e below _ (T148.setTop (mkF m 4 #[.val (.ref a)] [(.ref b1)]))
    refine callIf X148 hx hZ hown (wd hw 195 rfl) (wd hw 196 rfl) (wd hw 197 rfl) rfl (wd hw 225 rfl) (wd hw 226 rfl) (wd hw 227 rfl) (wd hw 228 rfl) (wd hw 229 rfl) (wd hw 230 rfl) (wd hw 207 rfl) (by decide) e148 E_b1 (argsL := []) (rest := []) (rm_e12 l Z a0 hw [] b1 h0 n0 O0) (W := 0) (by decide) (by decide) (by decide) (by decide) (by rw [hml]; rfl) (lenOf pd_10 rfl) rfl (Nat.le_of_eq rfl) (hb hby d_p43_m2_4) ?_
    intro v149 T149 L149 h149 X149 e149 q149
    obtain ⟨rv, n149, k149⟩ := q149
    replace rv : v149 = some (.int (0 : Int32)) := rv
    subst rv
    have e149 := e149.trans k149
    have N149 := Fr.app N0 n149
    show Run p e below _ (T149.setTop (mkF m 9 #[.val (.ref a)] [(.int (0 : Int32))]))
    refine go (fun _ => XS.ifYes X149.here hx rfl (pc0 := 9) (pc' := 28) rfl (hb hby d_p43_m2_9) rfl ((if0 _ _).trans (teq (by decide : (0 : Int32) = 0)).1) (by decide) (by decide)) ?_
    show Run p e below _ (T149.setTop (mkF m 28 #[.val (.ref a)] []))
    refine go (fun _ => XS.iconst X149.here hx rfl (hb hby d_p43_m2_28)) ?_
    show Run p e below _ (T149.setTop (mkF m 29 #[.val (.ref a)] [(.int (0 : Int32))]))
    exact endN X149 hx hlk (t := .boolean) hret (by simp) (hb hby d_p43_m2_29) (⟨by  simp_all <;> rfl, N149, e149⟩) (by decide) (by decide)
  · skip
    refine go (fun _ => XS.aloadN X0.here hx rfl (hb hby d_p43_m2_0) rfl rfl) ?_
    show Run p e below _ (T0.setTop (mkF m 1 #[.val (.ref a)] [(.ref a)]))
    obtain ⟨T150, X150, e150, st150⟩ := getF X0 hx hZ hown (host := "") (Or.inl (wd hw 186 rfl)) Via.refl e0 F_words_a (g := (mkF m 1 #[.val (.ref a)] [(.ref a)])) rfl rfl (hb hby d_p43_m2_1)
    refine go st150 ?_
    show Run p e below _ (T150.setTop (mkF m 4 #[.val (.ref a)] [(.ref b1)]))
    refine callIf X150 hx hZ hown (wd hw 195 rfl) (wd hw 196 rfl) (wd hw 197 rfl) rfl (wd hw 225 rfl) (wd hw 226 rfl) (wd hw 227 rfl) (wd hw 228 rfl) (wd hw 229 rfl) (wd hw 230 rfl) (wd hw 207 rfl) (by decide) e150 E_b1 (argsL := []) (rest := []) (rm_e12 l Z a0 hw [] b1 h0 n0 O0) (W := 0) (by decide) (by decide) (by decide) (by decide) (by rw [hml]; rfl) (lenOf pd_10 rfl) rfl (Nat.le_of_eq rfl) (hb hby d_p43_m2_4) ?_
    intro v151 T151 L151 h151 X151 e151 q151
    obtain ⟨rv, n151, k151⟩ := q151
    replace rv : v151 = some (.int (0 : Int32)) := rv
    subst rv
    have e151 := e151.trans k151
    have N151 := Fr.app N0 n151
    show Run p e below _ (T151.setTop (mkF m 9 #[.val (.ref a)] [(.int (0 : Int32))]))
    refine go (fun _ => XS.ifYes X151.here hx rfl (pc0 := 9) (pc' := 28) rfl (hb hby d_p43_m2_9) rfl ((if0 _ _).trans (teq (by decide : (0 : Int32) = 0)).1) (by decide) (by decide)) ?_
    show Run p e below _ (T151.setTop (mkF m 28 #[.val (.ref a)] []))
    refine go (fun _ => XS.iconst X151.here hx rfl (hb hby d_p43_m2_28)) ?_
    show Run p e below _ (T151.setTop (mkF m 29 #[.val (.ref a)] [(.int (0 : Int32))]))
    exact endN X151 hx hlk (t := .boolean) hret (by simp) (hb hby d_p43_m2_29) (⟨by by_cases d2 : z2 = 0 <;> simp_all <;> rfl, N151, e151⟩) (by decide) (by decide)
  · skip
    refine go (fun _ => XS.aloadN X0.here hx rfl (hb hby d_p43_m2_0) rfl rfl) ?_
    show Run p e below _ (T0.setTop (mkF m 1 #[.val (.ref a)] [(.ref a)]))
    obtain ⟨T152, X152, e152, st152⟩ := getF X0 hx hZ hown (host := "") (Or.inl (wd hw 186 rfl)) Via.refl e0 F_words_a (g := (mkF m 1 #[.val (.ref a)] [(.ref a)])) rfl rfl (hb hby d_p43_m2_1)
    refine go st152 ?_
    show Run p e below _ (T152.setTop (mkF m 4 #[.val (.ref a)] [(.ref b1)]))
    refine callIf X152 hx hZ hown (wd hw 195 rfl) (wd hw 196 rfl) (wd hw 197 rfl) rfl (wd hw 198 rfl) (wd hw 199 rfl) (wd hw 200 rfl) (wd hw 201 rfl) (wd hw 202 rfl) (wd hw 203 rfl) (wd hw 163 rfl) (by decide) e152 E_b1 (argsL := []) (rest := []) (rm_eN l Z a0 hw [] b1 ea1 ke1 z1 us1 h0 n0 O0 F_elements_b1 V_ea1) (W := 0) (by decide) (by decide) (by decide) (by decide) (by rw [hml]; rfl) (lenOf pd_10 rfl) rfl (Nat.le_of_eq rfl) (hb hby d_p43_m2_4) ?_
    intro v153 T153 L153 h153 X153 e153 q153
    obtain ⟨rv, n153, k153⟩ := q153
    replace rv : v153 = some (.int (if z1 = 0 then (1 : Int32) else 0)) := rv
    subst rv
    have e153 := e153.trans k153
    have N153 := Fr.app N0 n153
    show Run p e below _ (T153.setTop (mkF m 9 #[.val (.ref a)] [(.int (if z1 = 0 then (1 : Int32) else 0))]))
    by_cases c154 : (if z1 = 0 then (1 : Int32) else 0) = 0
    · skip
      refine go (fun _ => XS.ifYes X153.here hx rfl (pc0 := 9) (pc' := 28) rfl (hb hby d_p43_m2_9) rfl ((if0 _ _).trans (teq c154).1) (by decide) (by decide)) ?_
      show Run p e below _ (T153.setTop (mkF m 28 #[.val (.ref a)] []))
      refine go (fun _ => XS.iconst X153.here hx rfl (hb hby d_p43_m2_28)) ?_
      show Run p e below _ (T153.setTop (mkF m 29 #[.val (.ref a)] [(.int (0 : Int32))]))
      exact endN X153 hx hlk (t := .boolean) hret (by simp) (hb hby d_p43_m2_29) (⟨by by_cases d1 : z1 = 0 <;> simp_all <;> rfl, N153, e153⟩) (by decide) (by decide)
    · skip
      refine go (fun _ => XS.ifNo X153.here hx rfl (hb hby d_p43_m2_9) rfl ((if0 _ _).trans (feq c154).1)) ?_
      show Run p e below _ (T153.setTop (mkF m 12 #[.val (.ref a)] []))
      refine go (fun _ => XS.aloadN X153.here hx rfl (hb hby d_p43_m2_12) rfl rfl) ?_
      show Run p e below _ (T153.setTop (mkF m 13 #[.val (.ref a)] [(.ref a)]))
      obtain ⟨T155, X155, e155, st155⟩ := getF X153 hx hZ hown (host := "") (Or.inl (wd hw 188 rfl)) Via.refl e153 F_redirections_a (g := (mkF m 13 #[.val (.ref a)] [(.ref a)])) rfl rfl (hb hby d_p43_m2_13)
      refine go st155 ?_
      show Run p e below _ (T155.setTop (mkF m 16 #[.val (.ref a)] [(.ref b2)]))
      refine callIf X155 hx hZ hown (wd hw 195 rfl) (wd hw 196 rfl) (wd hw 197 rfl) rfl (wd hw 225 rfl) (wd hw 226 rfl) (wd hw 227 rfl) (wd hw 228 rfl) (wd hw 229 rfl) (wd hw 230 rfl) (wd hw 207 rfl) (by decide) e155 E_b2 (argsL := []) (rest := []) (rm_e12 l Z a0 hw [] b2 h0 n0 O0) (W := 0) (by decide) (by decide) (by decide) (by decide) (by rw [hml]; rfl) (lenOf pd_10 rfl) rfl (Nat.le_of_eq rfl) (hb hby d_p43_m2_16) ?_
      intro v156 T156 L156 h156 X156 e156 q156
      obtain ⟨rv, n156, k156⟩ := q156
      replace rv : v156 = some (.int (0 : Int32)) := rv
      subst rv
      have e156 := e156.trans k156
      have N156 := Fr.app N153 n156
      show Run p e below _ (T156.setTop (mkF m 21 #[.val (.ref a)] [(.int (0 : Int32))]))
      refine go (fun _ => XS.ifYes X156.here hx rfl (pc0 := 21) (pc' := 28) rfl (hb hby d_p43_m2_21) rfl ((if0 _ _).trans (teq (by decide : (0 : Int32) = 0)).1) (by decide) (by decide)) ?_
      show Run p e below _ (T156.setTop (mkF m 28 #[.val (.ref a)] []))
      refine go (fun _ => XS.iconst X156.here hx rfl (hb hby d_p43_m2_28)) ?_
      show Run p e below _ (T156.setTop (mkF m 29 #[.val (.ref a)] [(.int (0 : Int32))]))
      exact endN X156 hx hlk (t := .boolean) hret (by simp) (hb hby d_p43_m2_29) (⟨by by_cases d1 : z1 = 0 <;> simp_all <;> rfl, N156, e156⟩) (by decide) (by decide)
  · skip
    refine go (fun _ => XS.aloadN X0.here hx rfl (hb hby d_p43_m2_0) rfl rfl) ?_
    show Run p e below _ (T0.setTop (mkF m 1 #[.val (.ref a)] [(.ref a)]))
    obtain ⟨T157, X157, e157, st157⟩ := getF X0 hx hZ hown (host := "") (Or.inl (wd hw 186 rfl)) Via.refl e0 F_words_a (g := (mkF m 1 #[.val (.ref a)] [(.ref a)])) rfl rfl (hb hby d_p43_m2_1)
    refine go st157 ?_
    show Run p e below _ (T157.setTop (mkF m 4 #[.val (.ref a)] [(.ref b1)]))
    refine callIf X157 hx hZ hown (wd hw 195 rfl) (wd hw 196 rfl) (wd hw 197 rfl) rfl (wd hw 198 rfl) (wd hw 199 rfl) (wd hw 200 rfl) (wd hw 201 rfl) (wd hw 202 rfl) (wd hw 203 rfl) (wd hw 163 rfl) (by decide) e157 E_b1 (argsL := []) (rest := []) (rm_eN l Z a0 hw [] b1 ea1 ke1 z1 us1 h0 n0 O0 F_elements_b1 V_ea1) (W := 0) (by decide) (by decide) (by decide) (by decide) (by rw [hml]; rfl) (lenOf pd_10 rfl) rfl (Nat.le_of_eq rfl) (hb hby d_p43_m2_4) ?_
    intro v158 T158 L158 h158 X158 e158 q158
    obtain ⟨rv, n158, k158⟩ := q158
    replace rv : v158 = some (.int (if z1 = 0 then (1 : Int32) else 0)) := rv
    subst rv
    have e158 := e158.trans k158
    have N158 := Fr.app N0 n158
    show Run p e below _ (T158.setTop (mkF m 9 #[.val (.ref a)] [(.int (if z1 = 0 then (1 : Int32) else 0))]))
    by_cases c159 : (if z1 = 0 then (1 : Int32) else 0) = 0
    · skip
      refine go (fun _ => XS.ifYes X158.here hx rfl (pc0 := 9) (pc' := 28) rfl (hb hby d_p43_m2_9) rfl ((if0 _ _).trans (teq c159).1) (by decide) (by decide)) ?_
      show Run p e below _ (T158.setTop (mkF m 28 #[.val (.ref a)] []))
      refine go (fun _ => XS.iconst X158.here hx rfl (hb hby d_p43_m2_28)) ?_
      show Run p e below _ (T158.setTop (mkF m 29 #[.val (.ref a)] [(.int (0 : Int32))]))
      exact endN X158 hx hlk (t := .boolean) hret (by simp) (hb hby d_p43_m2_29) (⟨by by_cases d1 : z1 = 0 <;> by_cases d2 : z2 = 0 <;> simp_all <;> rfl, N158, e158⟩) (by decide) (by decide)
    · skip
      refine go (fun _ => XS.ifNo X158.here hx rfl (hb hby d_p43_m2_9) rfl ((if0 _ _).trans (feq c159).1)) ?_
      show Run p e below _ (T158.setTop (mkF m 12 #[.val (.ref a)] []))
      refine go (fun _ => XS.aloadN X158.here hx rfl (hb hby d_p43_m2_12) rfl rfl) ?_
      show Run p e below _ (T158.setTop (mkF m 13 #[.val (.ref a)] [(.ref a)]))
      obtain ⟨T160, X160, e160, st160⟩ := getF X158 hx hZ hown (host := "") (Or.inl (wd hw 188 rfl)) Via.refl e158 F_redirections_a (g := (mkF m 13 #[.val (.ref a)] [(.ref a)])) rfl rfl (hb hby d_p43_m2_13)
      refine go st160 ?_
      show Run p e below _ (T160.setTop (mkF m 16 #[.val (.ref a)] [(.ref b2)]))
      refine callIf X160 hx hZ hown (wd hw 195 rfl) (wd hw 196 rfl) (wd hw 197 rfl) rfl (wd hw 198 rfl) (wd hw 199 rfl) (wd hw 200 rfl) (wd hw 201 rfl) (wd hw 202 rfl) (wd hw 203 rfl) (wd hw 163 rfl) (by decide) e160 E_b2 (argsL := []) (rest := []) (rm_eN l Z a0 hw [] b2 ea2 ke2 z2 us2 h0 n0 O0 F_elements_b2 V_ea2) (W := 0) (by decide) (by decide) (by decide) (by decide) (by rw [hml]; rfl) (lenOf pd_10 rfl) rfl (Nat.le_of_eq rfl) (hb hby d_p43_m2_16) ?_
      intro v161 T161 L161 h161 X161 e161 q161
      obtain ⟨rv, n161, k161⟩ := q161
      replace rv : v161 = some (.int (if z2 = 0 then (1 : Int32) else 0)) := rv
      subst rv
      have e161 := e161.trans k161
      have N161 := Fr.app N158 n161
      show Run p e below _ (T161.setTop (mkF m 21 #[.val (.ref a)] [(.int (if z2 = 0 then (1 : Int32) else 0))]))
      by_cases c162 : (if z2 = 0 then (1 : Int32) else 0) = 0
      · skip
        refine go (fun _ => XS.ifYes X161.here hx rfl (pc0 := 21) (pc' := 28) rfl (hb hby d_p43_m2_21) rfl ((if0 _ _).trans (teq c162).1) (by decide) (by decide)) ?_
        show Run p e below _ (T161.setTop (mkF m 28 #[.val (.ref a)] []))
        refine go (fun _ => XS.iconst X161.here hx rfl (hb hby d_p43_m2_28)) ?_
        show Run p e below _ (T161.setTop (mkF m 29 #[.val (.ref a)] [(.int (0 : Int32))]))
        exact endN X161 hx hlk (t := .boolean) hret (by simp) (hb hby d_p43_m2_29) (⟨by by_cases d1 : z1 = 0 <;> by_cases d2 : z2 = 0 <;> simp_all <;> rfl, N161, e161⟩) (by decide) (by decide)
      · skip
        refine go (fun _ => XS.ifNo X161.here hx rfl (hb hby d_p43_m2_21) rfl ((if0 _ _).trans (feq c162).1)) ?_
        show Run p e below _ (T161.setTop (mkF m 24 #[.val (.ref a)] []))
        refine go (fun _ => XS.iconst X161.here hx rfl (hb hby d_p43_m2_24)) ?_
        show Run p e below _ (T161.setTop (mkF m 25 #[.val (.ref a)] [(.int (1 : Int32))]))
        refine go (fun _ => XS.goto X161.here hx rfl (pc0 := 25) (pc' := 29) rfl (hb hby d_p43_m2_25) (by decide) (by decide)) ?_
        show Run p e below _ (T161.setTop (mkF m 29 #[.val (.ref a)] [(.int (1 : Int32))]))
        exact endN X161 hx hlk (t := .boolean) hret (by simp) (hb hby d_p43_m2_29) (⟨by by_cases d1 : z1 = 0 <;> by_cases d2 : z2 = 0 <;> simp_all <;> rfl, N161, e161⟩) (by decide) (by decide)
theorem own_and3 (x : Int32) : x &&& (3 : Int32) = (0 : Int32) ∨ x &&& (3 : Int32) = (1 : Int32) ∨ x &&& (3 : Int32) = (2 : Int32) ∨ x &&& (3 : Int32) = (3 : Int32) := by
  have h := c_and x 3 (by decide)
  have k0 : (0 : Int32).toInt = 0 := by decide
  have k1 : (1 : Int32).toInt = 1 := by decide
  have k2 : (2 : Int32).toInt = 2 := by decide
  have k3 : (3 : Int32).toInt = 3 := by decide
  simp only [← Int32.toInt_inj]; omega
theorem pd_14 : parseMethodDescriptor "(Ljava/util/List;)V" = some ⟨[(.object "java/util/List")], none⟩ := by decide +kernel
theorem pd_15 : parseMethodDescriptor "(Lcom/example/pipewright/pipewright/core/Call$Direction;Lcom/example/pipewright/pipewright/core/Word;)V" = some ⟨[(.object "com/example/pipewright/pipewright/core/Call$Direction"), (.object "com/example/pipewright/pipewright/core/Word")], none⟩ := by decide +kernel
theorem pd_16 : parseMethodDescriptor "(Ljava/util/List;Ljava/util/List;)V" = some ⟨[(.object "java/util/List"), (.object "java/util/List")], none⟩ := by decide +kernel
theorem d_j38_m24_0 : decode jdk_38_method_24_code 0 = .ok (.iload_n 3, 1) := by decide +kernel
theorem d_j38_m24_1 : decode jdk_38_method_24_code 1 = .ok (.aload_n 2, 1) := by decide +kernel
theorem d_j38_m24_2 : decode jdk_38_method_24_code 2 = .ok (.arraylength, 1) := by decide +kernel
theorem d_j38_m24_3 : decode jdk_38_method_24_code 3 = .ok (.if_icmp .ne 8, 3) := by decide +kernel
theorem d_j38_m24_6 : decode jdk_38_method_24_code 6 = .ok (.aload_n 0, 1) := by decide +kernel
theorem d_j38_m24_7 : decode jdk_38_method_24_code 7 = .ok (.invokevirtual 129, 3) := by decide +kernel
theorem d_j38_m24_10 : decode jdk_38_method_24_code 10 = .ok (.astore_n 2, 1) := by decide +kernel
theorem d_j38_m24_11 : decode jdk_38_method_24_code 11 = .ok (.aload_n 2, 1) := by decide +kernel
theorem d_j38_m24_12 : decode jdk_38_method_24_code 12 = .ok (.iload_n 3, 1) := by decide +kernel
theorem d_j38_m24_13 : decode jdk_38_method_24_code 13 = .ok (.aload_n 1, 1) := by decide +kernel
theorem d_j38_m24_14 : decode jdk_38_method_24_code 14 = .ok (.aastore, 1) := by decide +kernel
theorem d_j38_m24_15 : decode jdk_38_method_24_code 15 = .ok (.aload_n 0, 1) := by decide +kernel
theorem d_j38_m24_16 : decode jdk_38_method_24_code 16 = .ok (.iload_n 3, 1) := by decide +kernel
theorem d_j38_m24_17 : decode jdk_38_method_24_code 17 = .ok (.iconst 1, 1) := by decide +kernel
theorem d_j38_m24_18 : decode jdk_38_method_24_code 18 = .ok (.iadd, 1) := by decide +kernel
theorem d_j38_m24_19 : decode jdk_38_method_24_code 19 = .ok (.putfield 48, 3) := by decide +kernel
theorem d_j38_m24_22 : decode jdk_38_method_24_code 22 = .ok (.return_, 1) := by decide +kernel
def Q_rm_addp0_0 (Z : State) (a x wD : Addr) (kD : ClassId) (mc : Int32) (h0 : Heap) (n0 : Nat) (v : Option Value) (h : Heap) (L : List Loc) : Prop := ∃ (b : Addr) (k : ClassId), v = none ∧ Fr n0 L ∧ Keep h0 h [a] ∧ h0.size ≤ b ∧ n0 ≤ b ∧ Exa Z h a "java/util/ArrayList" ∧ Fld Z h a "java/util/AbstractList" "modCount" "I" (.int mc) ∧ Fld Z h a "java/util/ArrayList" "elementData" "[Ljava/lang/Object;" (.ref b) ∧ Fld Z h a "java/util/ArrayList" "size" "I" (.int (1 : Int32)) ∧ Ovr Z k "java/lang/Object" ∧ Arv Z h b k (.object "java/lang/Object") (10 : Int32) [(.ref x), .null, .null, .null, .null, .null, .null, .null, .null, .null] .null ∧ Exa Z h b "[Ljava/lang/Object;"
set_option maxRecDepth 65536 in
set_option maxHeartbeats 40000000 in
theorem rm_addp0_0 (l : Launch) (Z : State) (a0 : Array Value) (hw : ∀ d ∈ tables_1, d.before a0 Z = true) (ws : List Jvm.Cond) (a x wD : Addr) (kD : ClassId) (mc : Int32) (h0 : Heap) (n0 : Nat) (O0 : Old Z n0 h0) (S_DEFAULTCAPACITY_EMPTY_ELEMENTDATA : Sta Z Z.heap "java/util/ArrayList" "DEFAULTCAPACITY_EMPTY_ELEMENTDATA" "[Ljava/lang/Object;" (.ref wD)) (VD : Arv Z Z.heap wD kD (.object "java/lang/Object") (0 : Int32) [] .null) (E_a : Exa Z h0 a "java/util/ArrayList") (F_modCount_a : Fld Z h0 a "java/util/AbstractList" "modCount" "I" (.int mc)) (F_elementData_a : Fld Z h0 a "java/util/ArrayList" "elementData" "[Ljava/lang/Object;" (.ref wD)) (F_size_a : Fld Z h0 a "java/util/ArrayList" "size" "I" (.int (0 : Int32))) (g_a : n0 ≤ a) (E_x : Exa Z h0 x "com/example/pipewright/pipewright/core/Call$Redirection") (ne_x_a : x ≠ a) :
    Meets l (⟨"java/util/ArrayList", "add", "(Ljava/lang/Object;[Ljava/lang/Object;I)V"⟩ : MethodName) jdk_38_method_24_code 4 none ws ({ frames := 3, cells := 1, slots := 10, locals := 41 } : Room) Z #[(.ref a), (.ref x), (.ref wD), (.int (0 : Int32))] h0 (Q_rm_addp0_0 Z a x wD kD mc h0 n0) 1 10 := by
  refine enter (Ls := #[.val (.ref a), .val (.ref x), .val (.ref wD), .val (.int (0 : Int32))]) (plainFor_of_name pn_2) (fun m => by first | (simp [entryFrame, mkF, argsToLocals, Value.category]; done) | rfl) ?_
  intro p e s m below meth c T0 hx hby hml hown hnm hret hlk hZ X0 e0
  have N0 := Fr.nil n0
  replace hown : s.vm.findClass "java/util/ArrayList" = some m.cls := hown
  show Run p e below _ (T0.setTop (mkF m 0 #[.val (.ref a), .val (.ref x), .val (.ref wD), .val (.int (0 : Int32))] []))
  have K0 := Keep.refl h0 [a]
  have V_wD := VD.ext O0.2
  have ne_wD_a : wD ≠ a := O0.ne VD.lt g_a
  refine go (fun _ => XS.iloadN X0.here hx rfl (hb hby d_j38_m24_0) rfl) ?_
  show Run p e below _ (T0.setTop (mkF m 1 #[.val (.ref a), .val (.ref x), .val (.ref wD), .val (.int (0 : Int32))] [(.int (0 : Int32))]))
  refine go (fun _ => XS.aloadN X0.here hx rfl (hb hby d_j38_m24_1) rfl rfl) ?_
  show Run p e below _ (T0.setTop (mkF m 2 #[.val (.ref a), .val (.ref x), .val (.ref wD), .val (.int (0 : Int32))] [(.ref wD), (.int (0 : Int32))]))
  obtain ⟨cl185, Ar185, ak185, as185, an185, ah185, ag185⟩ := id V_wD
  refine go (fun _ => X0.arraylength hx (by rw [e0]; exact Ar185.1) (State.isArrayOf_alike hZ.alike Ar185.2.1) (g := (mkF m 2 #[.val (.ref a), .val (.ref x), .val (.ref wD), .val (.int (0 : Int32))] [(.ref wD), (.int (0 : Int32))])) rfl rfl (hb hby d_j38_m24_2) _) ?_
  rw [len_of as185 an185]
  show Run p e below _ (T0.setTop (mkF m 3 #[.val (.ref a), .val (.ref x), .val (.ref wD), .val (.int (0 : Int32))] [(.int (0 : Int32)), (.int (0 : Int32))]))
  refine go (fun _ => XS.icmpNo X0.here hx rfl (hb hby d_j38_m24_3) rfl (teq (by decide : (0 : Int32) = 0)).2) ?_
  show Run p e below _ (T0.setTop (mkF m 6 #[.val (.ref a), .val (.ref x), .val (.ref wD), .val (.int (0 : Int32))] []))
  refine go (fun _ => XS.aloadN X0.here hx rfl (hb hby d_j38_m24_6) rfl rfl) ?_
  show Run p e below _ (T0.setTop (mkF m 7 #[.val (.ref a), .val (.ref x), .val (.ref wD), .val (.int (0 : Int32))] [(.ref a)]))
  refine callPr X0 hx hZ hown (wd hw 96 rfl) (wd hw 98 rfl) (wd hw 99 rfl) (wd hw 97 rfl) (wd hw 100 rfl) (wd hw 5 rfl) (by decide) e0 E_a (argsL := []) (rest := []) (rm_gr0 l Z a0 hw [] a wD kD mc h0 n0 O0 S_DEFAULTCAPACITY_EMPTY_ELEMENTDATA VD E_a F_modCount_a F_elementData_a F_size_a g_a) (W := 0) (by decide) (by decide) (by decide) (by decide) (by rw [hml]; rfl) (lenOf pd_11 rfl) rfl (Nat.le_of_eq rfl) (hb hby d_j38_m24_7) ?_
  intro v186 T186 L186 h186 X186 e186 q186
  have lt187_a := E_a.lt
  have lt187_x := E_x.lt
  have lt187_wD := V_wD.lt
  obtain ⟨b186, k186, rfl, n186, K186, sb186, g_b186, E_a, F_modCount_a, F_elementData_a, F_size_a, O186, V_b186, E_b186⟩ := q186
  have szq186 := K0.1
  have ne_a_b186 : a ≠ b186 := Nat.ne_of_lt (Nat.lt_of_lt_of_le lt187_a sb186)
  have ne_x_b186 : x ≠ b186 := Nat.ne_of_lt (Nat.lt_of_lt_of_le lt187_x sb186)
  have ne_wD_b186 : wD ≠ b186 := Nat.ne_of_lt (Nat.lt_of_lt_of_le lt187_wD sb186)
  have O0 := O0.keep K186 (allS g_a all0)
  have E_x := E_x.keep K186
  have K0 := K0.trans K186 (allS (Or.inl (by simp)) all0)
  have V_wD := V_wD.keep K186 (ninS ne_wD_a nin0)
  have sz_b186 : h0.size ≤ b186 := Nat.le_trans szq186 sb186
  have N186 := Fr.app N0 n186
  show Run p e below _ (T186.setTop (mkF m 10 #[.val (.ref a), .val (.ref x), .val (.ref wD), .val (.int (0 : Int32))] [(.ref b186)]))
  refine go (fun _ => XS.astoreN X186.here hx rfl (hb hby d_j38_m24_10) rfl rfl (l' := #[.val (.ref a), .val (.ref x), .val (.ref b186), .val (.int (0 : Int32))]) rfl) ?_
  show Run p e below _ (T186.setTop (mkF m 11 #[.val (.ref a), .val (.ref x), .val (.ref b186), .val (.int (0 : Int32))] []))
  refine go (fun _ => XS.aloadN X186.here hx rfl (hb hby d_j38_m24_11) rfl rfl) ?_
  show Run p e below _ (T186.setTop (mkF m 12 #[.val (.ref a), .val (.ref x), .val (.ref b186), .val (.int (0 : Int32))] [(.ref b186)]))
  refine go (fun _ => XS.iloadN X186.here hx rfl (hb hby d_j38_m24_12) rfl) ?_
  show Run p e below _ (T186.setTop (mkF m 13 #[.val (.ref a), .val (.ref x), .val (.ref b186), .val (.int (0 : Int32))] [(.int (0 : Int32)), (.ref b186)]))
  refine go (fun _ => XS.aloadN X186.here hx rfl (hb hby d_j38_m24_13) rfl rfl) ?_
  show Run p e below _ (T186.setTop (mkF m 14 #[.val (.ref a), .val (.ref x), .val (.ref b186), .val (.int (0 : Int32))] [(.ref x), (.int (0 : Int32)), (.ref b186)]))
  obtain ⟨cl188, Ar188, ak188, as188, an188, ah188, ag188⟩ := id V_b186
  have hin188 := inb_of as188 (j := (0 : Int32)) ⟨by decide, by decide⟩
  obtain ⟨T188, h188, X188, e188, W188, st188⟩ := stR X186 hx hZ e186 Ar188 (j := (0 : Int32)) hin188 rfl (Sto.ofV Ar188 ak188 O186 (Ins.of_exa E_x (wd hw 112 rfl))) (g := (mkF m 14 #[.val (.ref a), .val (.ref x), .val (.ref b186), .val (.int (0 : Int32))] [(.ref x), (.int (0 : Int32)), (.ref b186)])) rfl rfl (hb hby d_j38_m24_14)
  have O0 := O0.wr W188 g_b186
  have E_a := E_a.wr W188
  have E_x := E_x.wr W188
  have K0 := K0.wr W188 (Or.inr sz_b186)
  have V_wD := V_wD.other W188 ne_wD_b186
  have F_modCount_a := F_modCount_a.other W188 (Or.inl ne_a_b186)
  have F_elementData_a := F_elementData_a.other W188 (Or.inl ne_a_b186)
  have F_size_a := F_size_a.other W188 (Or.inl ne_a_b186)
  have V_b186 := (Arv.set Ar188 ak188 as188 an188 ah188 ag188 rfl W188 0 rfl (Nat.le_of_ble_eq_true rfl) : Arv Z h188 b186 k186 (.object "java/lang/Object") (10 : Int32) [(.ref x), .null, .null, .null, .null, .null, .null, .null, .null, .null] .null)
  have E_b186 := E_b186.wr W188
  have N188 := Fr.snoc X188 N186 g_b186
  refine go st188 ?_
  show Run p e below _ (T188.setTop (mkF m 15 #[.val (.ref a), .val (.ref x), .val (.ref b186), .val (.int (0 : Int32))] []))
  refine go (fun _ => XS.aloadN X188.here hx rfl (hb hby d_j38_m24_15) rfl rfl) ?_
  show Run p e below _ (T188.setTop (mkF m 16 #[.val (.ref a), .val (.ref x), .val (.ref b186), .val (.int (0 : Int32))] [(.ref a)]))
  refine go (fun _ => XS.iloadN X188.here hx rfl (hb hby d_j38_m24_16) rfl) ?_
  show Run p e below _ (T188.setTop (mkF m 17 #[.val (.ref a), .val (.ref x), .val (.ref b186), .val (.int (0 : Int32))] [(.int (0 : Int32)), (.ref a)]))
  refine go (fun _ => XS.iconst X188.here hx rfl (hb hby d_j38_m24_17)) ?_
  show Run p e below _ (T188.setTop (mkF m 18 #[.val (.ref a), .val (.ref x), .val (.ref b186), .val (.int (0 : Int32))] [(.int (1 : Int32)), (.int (0 : Int32)), (.ref a)]))
  refine go (fun _ => XS.iadd X188.here hx rfl (hb hby d_j38_m24_18) rfl) ?_
  show Run p e below _ (T188.setTop (mkF m 19 #[.val (.ref a), .val (.ref x), .val (.ref b186), .val (.int (0 : Int32))] [(.int ((0 : Int32) + (1 : Int32))), (.ref a)]))
  show Run p e below _ (T188.setTop (mkF m 19 #[.val (.ref a), .val (.ref x), .val (.ref b186), .val (.int (0 : Int32))] [(.int (1 : Int32)), (.ref a)]))
  obtain ⟨T189, h189, X189, e189, W189, st189⟩ := putF X188 hx hZ hown (host := "") (Or.inl (wd hw 56 rfl)) Via.refl e188 F_size_a E_a (Or.inl (wd hw 57 rfl)) (wd hw 4 rfl) (ty := .int) (by decide) rfl rfl (g := (mkF m 19 #[.val (.ref a), .val (.ref x), .val (.ref b186), .val (.int (0 : Int32))] [(.int (1 : Int32)), (.ref a)])) rfl rfl (hb hby d_j38_m24_19)
  have O0 := O0.wr W189 g_a
  have E_a := E_a.wr W189
  have E_x := E_x.wr W189
  have K0 := K0.wr W189 (Or.inl (by simp))
  have V_wD := V_wD.other W189 ne_wD_a
  have F_modCount_a := F_modCount_a.other W189 (Or.inr (slot_ne (Or.inl (wd hw 25 rfl)) (Or.inl (wd hw 57 rfl)) (by decide) (t := .int) (t' := .int) (by decide) (by decide)))
  have F_elementData_a := F_elementData_a.other W189 (Or.inr (slot_ne (Or.inl (wd hw 28 rfl)) (Or.inl (wd hw 57 rfl)) (by decide) (t := (.array (.object "java/lang/Object"))) (t' := .int) (by decide) (by decide)))
  have F_size_a := F_size_a.same W189
  have V_b186 := V_b186.other W189 (Ne.symm ne_a_b186)
  have E_b186 := E_b186.wr W189
  have N189 := Fr.snoc X189 N188 g_a
  refine go st189 ?_
  show Run p e below _ (T189.setTop (mkF m 22 #[.val (.ref a), .val (.ref x), .val (.ref b186), .val (.int (0 : Int32))] []))
  exact endV X189 hx hlk hret (hb hby d_j38_m24_22) (by rw [e189]; exact ⟨b186, _, rfl, N189, K0, sz_b186, g_b186, E_a, F_modCount_a, F_elementData_a, F_size_a, O186, V_b186, E_b186⟩) (by decide) (by decide)
theorem d_j38_m25_0 : decode jdk_38_method_25_code 0 = .ok (.aload_n 0, 1) := by decide +kernel
theorem d_j38_m25_1 : decode jdk_38_method_25_code 1 = .ok (.dup, 1) := by decide +kernel
theorem d_j38_m25_2 : decode jdk_38_method_25_code 2 = .ok (.getfield 63, 3) := by decide +kernel
theorem d_j38_m25_5 : decode jdk_38_method_25_code 5 = .ok (.iconst 1, 1) := by decide +kernel
theorem d_j38_m25_6 : decode jdk_38_method_25_code 6 = .ok (.iadd, 1) := by decide +kernel
theorem d_j38_m25_7 : decode jdk_38_method_25_code 7 = .ok (.putfield 63, 3) := by decide +kernel
theorem d_j38_m25_10 : decode jdk_38_method_25_code 10 = .ok (.aload_n 0, 1) := by decide +kernel
theorem d_j38_m25_11 : decode jdk_38_method_25_code 11 = .ok (.aload_n 1, 1) := by decide +kernel
theorem d_j38_m25_12 : decode jdk_38_method_25_code 12 = .ok (.aload_n 0, 1) := by decide +kernel
theorem d_j38_m25_13 : decode jdk_38_method_25_code 13 = .ok (.getfield 9, 3) := by decide +kernel
theorem d_j38_m25_16 : decode jdk_38_method_25_code 16 = .ok (.aload_n 0, 1) := by decide +kernel
theorem d_j38_m25_17 : decode jdk_38_method_25_code 17 = .ok (.getfield 48, 3) := by decide +kernel
theorem d_j38_m25_20 : decode jdk_38_method_25_code 20 = .ok (.invokevirtual 131, 3) := by decide +kernel
theorem pd_17 : parseMethodDescriptor "(Ljava/lang/Object;[Ljava/lang/Object;I)V" = some ⟨[(.object "java/lang/Object"), (.array (.object "java/lang/Object")), .int], none⟩ := by decide +kernel
theorem d_j38_m25_23 : decode jdk_38_method_25_code 23 = .ok (.iconst 1, 1) := by decide +kernel
theorem d_j38_m25_24 : decode jdk_38_method_25_code 24 = .ok (.ireturn, 1) := by decide +kernel
def Q_rm_add0_0 (Z : State) (a x wD : Addr) (kD : ClassId) (mc : Int32) (h0 : Heap) (n0 : Nat) (v : Option Value) (h : Heap) (L : List Loc) : Prop := ∃ (b : Addr) (k : ClassId), v = some (.int 1) ∧ Fr n0 L ∧ Keep h0 h [a] ∧ h0.size ≤ b ∧ n0 ≤ b ∧ Exa Z h a "java/util/ArrayList" ∧ Fld Z h a "java/util/AbstractList" "modCount" "I" (.int (mc + (1 : Int32))) ∧ Fld Z h a "java/util/ArrayList" "elementData" "[Ljava/lang/Object;" (.ref b) ∧ Fld Z h a "java/util/ArrayList" "size" "I" (.int (1 : Int32)) ∧ Ovr Z k "java/lang/Object" ∧ Arv Z h b k (.object "java/lang/Object") (10 : Int32) [(.ref x), .null, .null, .null, .null, .null, .null, .null, .null, .null] .null ∧ Exa Z h b "[Ljava/lang/Object;"
set_option maxRecDepth 65536 in
set_option maxHeartbeats 40000000 in
theorem rm_add0_0 (l : Launch) (Z : State) (a0 : Array Value) (hw : ∀ d ∈ tables_1, d.before a0 Z = true) (ws : List Jvm.Cond) (a x wD : Addr) (kD : ClassId) (mc : Int32) (h0 : Heap) (n0 : Nat) (O0 : Old Z n0 h0) (S_DEFAULTCAPACITY_EMPTY_ELEMENTDATA : Sta Z Z.heap "java/util/ArrayList" "DEFAULTCAPACITY_EMPTY_ELEMENTDATA" "[Ljava/lang/Object;" (.ref wD)) (VD : Arv Z Z.heap wD kD (.object "java/lang/Object") (0 : Int32) [] .null) (E_a : Exa Z h0 a "java/util/ArrayList") (F_modCount_a : Fld Z h0 a "java/util/AbstractList" "modCount" "I" (.int mc)) (F_elementData_a : Fld Z h0 a "java/util/ArrayList" "elementData" "[Ljava/lang/Object;" (.ref wD)) (F_size_a : Fld Z h0 a "java/util/ArrayList" "size" "I" (.int (0 : Int32))) (g_a : n0 ≤ a) (E_x : Exa Z h0 x "com/example/pipewright/pipewright/core/Call$Redirection") (ne_x_a : x ≠ a) :
    Meets l (⟨"java/util/ArrayList", "add", "(Ljava/lang/Object;)Z"⟩ : MethodName) jdk_38_method_25_code 2 (some .boolean) ws ({ frames := 4, cells := 1, slots := 10, locals := 56 } : Room) Z #[(.ref a), (.ref x)] h0 (Q_rm_add0_0 Z a x wD kD mc h0 n0) 1 10 := by
  refine enter (Ls := #[.val (.ref a), .val (.ref x)]) (plainFor_of_name pn_2) (fun m => by first | (simp [entryFrame, mkF, argsToLocals, Value.category]; done) | rfl) ?_
  intro p e s m below meth c T0 hx hby hml hown hnm hret hlk hZ X0 e0
  have N0 := Fr.nil n0
  replace hown : s.vm.findClass "java/util/ArrayList" = some m.cls := hown
  show Run p e below _ (T0.setTop (mkF m 0 #[.val (.ref a), .val (.ref x)] []))
  have K0 := Keep.refl h0 [a]
  have V_wD := VD.ext O0.2
  have ne_wD_a : wD ≠ a := O0.ne VD.lt g_a
  refine go (fun _ => XS.aloadN X0.here hx rfl (hb hby d_j38_m25_0) rfl rfl) ?_
  show Run p e below _ (T0.setTop (mkF m 1 #[.val (.ref a), .val (.ref x)] [(.ref a)]))
  refine go (fun _ => XS.dup X0.here hx rfl (hb hby d_j38_m25_1) rfl rfl) ?_
  show Run p e below _ (T0.setTop (mkF m 2 #[.val (.ref a), .val (.ref x)] [(.ref a), (.ref a)]))
  obtain ⟨T190, X190, e190, st190⟩ := getF X0 hx hZ hown (host := "") (Or.inl (wd hw 89 rfl)) (Via.of (wd hw 90 rfl)) e0 F_modCount_a (g := (mkF m 2 #[.val (.ref a), .val (.ref x)] [(.ref a), (.ref a)])) rfl rfl (hb hby d_j38_m25_2)
  refine go st190 ?_
  show Run p e below _ (T190.setTop (mkF m 5 #[.val (.ref a), .val (.ref x)] [(.int mc), (.ref a)]))
  refine go (fun _ => XS.iconst X190.here hx rfl (hb hby d_j38_m25_5)) ?_
  show Run p e below _ (T190.setTop (mkF m 6 #[.val (.ref a), .val (.ref x)] [(.int (1 : Int32)), (.int mc), (.ref a)]))
  refine go (fun _ => XS.iadd X190.here hx rfl (hb hby d_j38_m25_6) rfl) ?_
  show Run p e below _ (T190.setTop (mkF m 7 #[.val (.ref a), .val (.ref x)] [(.int (mc + (1 : Int32))), (.ref a)]))
  obtain ⟨T191, h191, X191, e191, W191, st191⟩ := putF X190 hx hZ hown (host := "") (Or.inl (wd hw 89 rfl)) (Via.of (wd hw 90 rfl)) e190 F_modCount_a E_a (Or.inl (wd hw 25 rfl)) (wd hw 4 rfl) (ty := .int) (by decide) rfl rfl (g := (mkF m 7 #[.val (.ref a), .val (.ref x)] [(.int (mc + (1 : Int32))), (.ref a)])) rfl rfl (hb hby d_j38_m25_7)
  have O0 := O0.wr W191 g_a
  have E_a := E_a.wr W191
  have F_modCount_a := F_modCount_a.same W191
  have F_elementData_a := F_elementData_a.other W191 (Or.inr (slot_ne (Or.inl (wd hw 28 rfl)) (Or.inl (wd hw 25 rfl)) (by decide) (t := (.array (.object "java/lang/Object"))) (t' := .int) (by decide) (by decide)))
  have F_size_a := F_size_a.other W191 (Or.inr (slot_ne (Or.inl (wd hw 57 rfl)) (Or.inl (wd hw 25 rfl)) (by decide) (t := .int) (t' := .int) (by decide) (by decide)))
  have E_x := E_x.wr W191
  have K0 := K0.wr W191 (Or.inl (by simp))
  have V_wD := V_wD.other W191 ne_wD_a
  have N191 := Fr.snoc X191 N0 g_a
  refine go st191 ?_
  show Run p e below _ (T191.setTop (mkF m 10 #[.val (.ref a), .val (.ref x)] []))
  refine go (fun _ => XS.aloadN X191.here hx rfl (hb hby d_j38_m25_10) rfl rfl) ?_
  show Run p e below _ (T191.setTop (mkF m 11 #[.val (.ref a), .val (.ref x)] [(.ref a)]))
  refine go (fun _ => XS.aloadN X191.here hx rfl (hb hby d_j38_m25_11) rfl rfl) ?_
  show Run p e below _ (T191.setTop (mkF m 12 #[.val (.ref a), .val (.ref x)] [(.ref x), (.ref a)]))
  refine go (fun _ => XS.aloadN X191.here hx rfl (hb hby d_j38_m25_12) rfl rfl) ?_
  show Run p e below _ (T191.setTop (mkF m 13 #[.val (.ref a), .val (.ref x)] [(.ref a), (.ref x), (.ref a)]))
  obtain ⟨T192, X192, e192, st192⟩ := getF X191 hx hZ hown (host := "") (Or.inl (wd hw 27 rfl)) Via.refl e191 F_elementData_a (g := (mkF m 13 #[.val (.ref a), .val (.ref x)] [(.ref a), (.ref x), (.ref a)])) rfl rfl (hb hby d_j38_m25_13)
  refine go st192 ?_
  show Run p e below _ (T192.setTop (mkF m 16 #[.val (.ref a), .val (.ref x)] [(.ref wD), (.ref x), (.ref a)]))
  refine go (fun _ => XS.aloadN X192.here hx rfl (hb hby d_j38_m25_16) rfl rfl) ?_
  show Run p e below _ (T192.setTop (mkF m 17 #[.val (.ref a), .val (.ref x)] [(.ref a), (.ref wD), (.ref x), (.ref a)]))
  obtain ⟨T193, X193, e193, st193⟩ := getF X192 hx hZ hown (host := "") (Or.inl (wd hw 56 rfl)) Via.refl e192 F_size_a (g := (mkF m 17 #[.val (.ref a), .val (.ref x)] [(.ref a), (.ref wD), (.ref x), (.ref a)])) rfl rfl (hb hby d_j38_m25_17)
  refine go st193 ?_
  show Run p e below _ (T193.setTop (mkF m 20 #[.val (.ref a), .val (.ref x)] [(.int (0 : Int32)), (.ref wD), (.ref x), (.ref a)]))
  refine callPr X193 hx hZ hown (wd hw 91 rfl) (wd hw 93 rfl) (wd hw 94 rfl) (wd hw 92 rfl) (wd hw 95 rfl) (wd hw 5 rfl) (by decide) e193 E_a (argsL := [(.ref x), (.ref wD), (.int (0 : Int32))]) (rest := []) (rm_addp0_0 l Z a0 hw [] a x wD kD (mc + (1 : Int32)) h191 n0 O0 S_DEFAULTCAPACITY_EMPTY_ELEMENTDATA VD E_a F_modCount_a F_elementData_a F_size_a g_a E_x ne_x_a) (W := 0) (by decide) (by decide) (by decide) (by decide) (by rw [hml]; rfl) (lenOf pd_17 rfl) rfl (Nat.le_of_eq rfl) (hb hby d_j38_m25_20) ?_
  intro v194 T194 L194 h194 X194 e194 q194
  have lt195_a := E_a.lt
  have lt195_x := E_x.lt
  have lt195_wD := V_wD.lt
  obtain ⟨b194, k194, rfl, n194, K194, sb194, g_b194, E_a, F_modCount_a, F_elementData_a, F_size_a, O194, V_b194, E_b194⟩ := q194
  have szq194 := K0.1
  have ne_a_b194 : a ≠ b194 := Nat.ne_of_lt (Nat.lt_of_lt_of_le lt195_a sb194)
  have ne_x_b194 : x ≠ b194 := Nat.ne_of_lt (Nat.lt_of_lt_of_le lt195_x sb194)
  have ne_wD_b194 : wD ≠ b194 := Nat.ne_of_lt (Nat.lt_of_lt_of_le lt195_wD sb194)
  have O0 := O0.keep K194 (allS g_a all0)
  have E_x := E_x.keep K194
  have K0 := K0.trans K194 (allS (Or.inl (by simp)) all0)
  have V_wD := V_wD.keep K194 (ninS ne_wD_a nin0)
  have sz_b194 : h0.size ≤ b194 := Nat.le_trans szq194 sb194
  have N194 := Fr.app N191 n194
  show Run p e below _ (T194.setTop (mkF m 23 #[.val (.ref a), .val (.ref x)] []))
  refine go (fun _ => XS.iconst X194.here hx rfl (hb hby d_j38_m25_23)) ?_
  show Run p e below _ (T194.setTop (mkF m 24 #[.val (.ref a), .val (.ref x)] [(.int (1 : Int32))]))
  exact endN X194 hx hlk (t := .boolean) hret (by simp) (hb hby d_j38_m25_24) (by rw [e194]; exact ⟨b194, _, rfl, N194, K0, sz_b194, g_b194, E_a, F_modCount_a, F_elementData_a, F_size_a, O194, V_b194, E_b194⟩) (by decide) (by decide)
theorem pd_18 : parseMethodDescriptor "(Ljava/lang/Object;)Z" = some ⟨[(.object "java/lang/Object")], some .boolean⟩ := by decide +kernel
def Q_rm_addp1_1 (Z : State) (a x ea : Addr) (ke : ClassId) (mc : Int32) (u0 : Value)  (h0 : Heap) (n0 : Nat) (v : Option Value) (h : Heap) (L : List Loc) : Prop := v = none ∧ Fr n0 L ∧ Keep h0 h [a, ea] ∧ Exa Z h a "java/util/ArrayList" ∧ Fld Z h a "java/util/AbstractList" "modCount" "I" (.int mc) ∧ Fld Z h a "java/util/ArrayList" "elementData" "[Ljava/lang/Object;" (.ref ea) ∧ Fld Z h a "java/util/ArrayList" "size" "I" (.int (2 : Int32)) ∧ Arv Z h ea ke (.object "java/lang/Object") (10 : Int32) [u0, (.ref x), .null, .null, .null, .null, .null, .null, .null, .null] .null
set_option maxRecDepth 65536 in
set_option maxHeartbeats 40000000 in
theorem rm_addp1_1 (l : Launch) (Z : State) (a0 : Array Value) (hw : ∀ d ∈ tables_1, d.before a0 Z = true) (ws : List Jvm.Cond) (a x ea : Addr) (ke : ClassId) (mc : Int32) (u0 : Value)  (h0 : Heap) (n0 : Nat) (O0 : Old Z n0 h0) (E_a : Exa Z h0 a "java/util/ArrayList") (F_modCount_a : Fld Z h0 a "java/util/AbstractList" "modCount" "I" (.int mc)) (F_elementData_a : Fld Z h0 a "java/util/ArrayList" "elementData" "[Ljava/lang/Object;" (.ref ea)) (F_size_a : Fld Z h0 a "java/util/ArrayList" "size" "I" (.int (1 : Int32))) (V_ea : Arv Z h0 ea ke (.object "java/lang/Object") (10 : Int32) [u0, .null, .null, .null, .null, .null, .null, .null, .null, .null] .null) (Oe : Ovr Z ke "java/lang/Object") (g_a : n0 ≤ a) (g_ea : n0 ≤ ea) (ne_ea_a : ea ≠ a) (E_x : Exa Z h0 x "com/example/pipewright/pipewright/core/Call$Redirection") (ne_x_a : x ≠ a) (ne_x_ea : x ≠ ea) :
    Meets l (⟨"java/util/ArrayList", "add", "(Ljava/lang/Object;[Ljava/lang/Object;I)V"⟩ : MethodName) jdk_38_method_24_code 4 none ws ({ frames := 0, cells := 0, slots := 0, locals := 0 } : Room) Z #[(.ref a), (.ref x), (.ref ea), (.int (1 : Int32))] h0 (Q_rm_addp1_1 Z a x ea ke mc u0 h0 n0) 0 0 := by
  refine enter (Ls := #[.val (.ref a), .val (.ref x), .val (.ref ea), .val (.int (1 : Int32))]) (plainFor_of_name pn_2) (fun m => by first | (simp [entryFrame, mkF, argsToLocals, Value.category]; done) | rfl) ?_
  intro p e s m below meth c T0 hx hby hml hown hnm hret hlk hZ X0 e0
  have N0 := Fr.nil n0
  replace hown : s.vm.findClass "java/util/ArrayList" = some m.cls := hown
  show Run p e below _ (T0.setTop (mkF m 0 #[.val (.ref a), .val (.ref x), .val (.ref ea), .val (.int (1 : Int32))] []))
  have K0 := Keep.refl h0 [a, ea]
  refine go (fun _ => XS.iloadN X0.here hx rfl (hb hby d_j38_m24_0) rfl) ?_
  show Run p e below _ (T0.setTop (mkF m 1 #[.val (.ref a), .val (.ref x), .val (.ref ea), .val (.int (1 : Int32))] [(.int (1 : Int32))]))
  refine go (fun _ => XS.aloadN X0.here hx rfl (hb hby d_j38_m24_1) rfl rfl) ?_
  show Run p e below _ (T0.setTop (mkF m 2 #[.val (.ref a), .val (.ref x), .val (.ref ea), .val (.int (1 : Int32))] [(.ref ea), (.int (1 : Int32))]))
  obtain ⟨cl200, Ar200, ak200, as200, an200, ah200, ag200⟩ := id V_ea
  refine go (fun _ => X0.arraylength hx (by rw [e0]; exact Ar200.1) (State.isArrayOf_alike hZ.alike Ar200.2.1) (g := (mkF m 2 #[.val (.ref a), .val (.ref x), .val (.ref ea), .val (.int (1 : Int32))] [(.ref ea), (.int (1 : Int32))])) rfl rfl (hb hby d_j38_m24_2) _) ?_
  rw [len_of as200 an200]
  show Run p e below _ (T0.setTop (mkF m 3 #[.val (.ref a), .val (.ref x), .val (.ref ea), .val (.int (1 : Int32))] [(.int (10 : Int32)), (.int (1 : Int32))]))
  refine go (fun _ => XS.icmpYes X0.here hx rfl (pc0 := 3) (pc' := 11) rfl (hb hby d_j38_m24_3) rfl (feq (by decide : ¬ ((1 : Int32) = 10))).2 (by decide) (by decide)) ?_
  show Run p e below _ (T0.setTop (mkF m 11 #[.val (.ref a), .val (.ref x), .val (.ref ea), .val (.int (1 : Int32))] []))
  refine go (fun _ => XS.aloadN X0.here hx rfl (hb hby d_j38_m24_11) rfl rfl) ?_
  show Run p e below _ (T0.setTop (mkF m 12 #[.val (.ref a), .val (.ref x), .val (.ref ea), .val (.int (1 : Int32))] [(.ref ea)]))
  refine go (fun _ => XS.iloadN X0.here hx rfl (hb hby d_j38_m24_12) rfl) ?_
  show Run p e below _ (T0.setTop (mkF m 13 #[.val (.ref a), .val (.ref x), .val (.ref ea), .val (.int (1 : Int32))] [(.int (1 : Int32)), (.ref ea)]))
  refine go (fun _ => XS.aloadN X0.here hx rfl (hb hby d_j38_m24_13) rfl rfl) ?_
  show Run p e below _ (T0.setTop (mkF m 14 #[.val (.ref a), .val (.ref x), .val (.ref ea), .val (.int (1 : Int32))] [(.ref x), (.int (1 : Int32)), (.ref ea)]))
  obtain ⟨cl201, Ar201, ak201, as201, an201, ah201, ag201⟩ := id V_ea
  have hin201 := inb_of as201 (j := (1 : Int32)) ⟨by decide, by decide⟩
  obtain ⟨T201, h201, X201, e201, W201, st201⟩ := stR X0 hx hZ e0 Ar201 (j := (1 : Int32)) hin201 rfl (Sto.ofV Ar201 ak201 Oe (Ins.of_exa E_x (wd hw 112 rfl))) (g := (mkF m 14 #[.val (.ref a), .val (.ref x), .val (.ref ea), .val (.int (1 : Int32))] [(.ref x), (.int (1 : Int32)), (.ref ea)])) rfl rfl (hb hby d_j38_m24_14)
  have O0 := O0.wr W201 g_ea
  have E_a := E_a.wr W201
  have F_modCount_a := F_modCount_a.other W201 (Or.inl (Ne.symm ne_ea_a))
  have F_elementData_a := F_elementData_a.other W201 (Or.inl (Ne.symm ne_ea_a))
  have F_size_a := F_size_a.other W201 (Or.inl (Ne.symm ne_ea_a))
  have V_ea := (Arv.set Ar201 ak201 as201 an201 ah201 ag201 rfl W201 1 rfl (Nat.le_of_ble_eq_true rfl) : Arv Z h201 ea ke (.object "java/lang/Object") (10 : Int32) [u0, (.ref x), .null, .null, .null, .null, .null, .null, .null, .null] .null)
  have E_x := E_x.wr W201
  have K0 := K0.wr W201 (Or.inl (by simp))
  have N201 := Fr.snoc X201 N0 g_ea
  refine go st201 ?_
  show Run p e below _ (T201.setTop (mkF m 15 #[.val (.ref a), .val (.ref x), .val (.ref ea), .val (.int (1 : Int32))] []))
  refine go (fun _ => XS.aloadN X201.here hx rfl (hb hby d_j38_m24_15) rfl rfl) ?_
  show Run p e below _ (T201.setTop (mkF m 16 #[.val (.ref a), .val (.ref x), .val (.ref ea), .val (.int (1 : Int32))] [(.ref a)]))
  refine go (fun _ => XS.iloadN X201.here hx rfl (hb hby d_j38_m24_16) rfl) ?_
  show Run p e below _ (T201.setTop (mkF m 17 #[.val (.ref a), .val (.ref x), .val (.ref ea), .val (.int (1 : Int32))] [(.int (1 : Int32)), (.ref a)]))
  refine go (fun _ => XS.iconst X201.here hx rfl (hb hby d_j38_m24_17)) ?_
  show Run p e below _ (T201.setTop (mkF m 18 #[.val (.ref a), .val (.ref x), .val (.ref ea), .val (.int (1 : Int32))] [(.int (1 : Int32)), (.int (1 : Int32)), (.ref a)]))
  refine go (fun _ => XS.iadd X201.here hx rfl (hb hby d_j38_m24_18) rfl) ?_
  show Run p e below _ (T201.setTop (mkF m 19 #[.val (.ref a), .val (.ref x), .val (.ref ea), .val (.int (1 : Int32))] [(.int ((1 : Int32) + (1 : Int32))), (.ref a)]))
  show Run p e below _ (T201.setTop (mkF m 19 #[.val (.ref a), .val (.ref x), .val (.ref ea), .val (.int (1 : Int32))] [(.int (2 : Int32)), (.ref a)]))
  obtain ⟨T202, h202, X202, e202, W202, st202⟩ := putF X201 hx hZ hown (host := "") (Or.inl (wd hw 56 rfl)) Via.refl e201 F_size_a E_a (Or.inl (wd hw 57 rfl)) (wd hw 4 rfl) (ty := .int) (by decide) rfl rfl (g := (mkF m 19 #[.val (.ref a), .val (.ref x), .val (.ref ea), .val (.int (1 : Int32))] [(.int (2 : Int32)), (.ref a)])) rfl rfl (hb hby d_j38_m24_19)
  have O0 := O0.wr W202 g_a
  have E_a := E_a.wr W202
  have F_modCount_a := F_modCount_a.other W202 (Or.inr (slot_ne (Or.inl (wd hw 25 rfl)) (Or.inl (wd hw 57 rfl)) (by decide) (t := .int) (t' := .int) (by decide) (by decide)))
  have F_elementData_a := F_elementData_a.other W202 (Or.inr (slot_ne (Or.inl (wd hw 28 rfl)) (Or.inl (wd hw 57 rfl)) (by decide) (t := (.array (.object "java/lang/Object"))) (t' := .int) (by decide) (by decide)))
  have F_size_a := F_size_a.same W202
  have V_ea := V_ea.other W202 ne_ea_a
  have E_x := E_x.wr W202
  have K0 := K0.wr W202 (Or.inl (by simp))
  have N202 := Fr.snoc X202 N201 g_a
  refine go st202 ?_
  show Run p e below _ (T202.setTop (mkF m 22 #[.val (.ref a), .val (.ref x), .val (.ref ea), .val (.int (1 : Int32))] []))
  exact endV X202 hx hlk hret (hb hby d_j38_m24_22) (by rw [e202]; exact ⟨rfl, N202, K0, E_a, F_modCount_a, F_elementData_a, F_size_a, V_ea⟩) (by decide) (by decide)
def Q_rm_add1_1 (Z : State) (a x ea : Addr) (ke : ClassId) (mc : Int32) (u0 : Value)  (h0 : Heap) (n0 : Nat) (v : Option Value) (h : Heap) (L : List Loc) : Prop := v = some (.int 1) ∧ Fr n0 L ∧ Keep h0 h [a, ea] ∧ Exa Z h a "java/util/ArrayList" ∧ Fld Z h a "java/util/AbstractList" "modCount" "I" (.int (mc + (1 : Int32))) ∧ Fld Z h a "java/util/ArrayList" "elementData" "[Ljava/lang/Object;" (.ref ea) ∧ Fld Z h a "java/util/ArrayList" "size" "I" (.int (2 : Int32)) ∧ Arv Z h ea ke (.object "java/lang/Object") (10 : Int32) [u0, (.ref x), .null, .null, .null, .null, .null, .null, .null, .null] .null
set_option maxRecDepth 65536 in
set_option maxHeartbeats 40000000 in
theorem rm_add1_1 (l : Launch) (Z : State) (a0 : Array Value) (hw : ∀ d ∈ tables_1, d.before a0 Z = true) (ws : List Jvm.Cond) (a x ea : Addr) (ke : ClassId) (mc : Int32) (u0 : Value)  (h0 : Heap) (n0 : Nat) (O0 : Old Z n0 h0) (E_a : Exa Z h0 a "java/util/ArrayList") (F_modCount_a : Fld Z h0 a "java/util/AbstractList" "modCount" "I" (.int mc)) (F_elementData_a : Fld Z h0 a "java/util/ArrayList" "elementData" "[Ljava/lang/Object;" (.ref ea)) (F_size_a : Fld Z h0 a "java/util/ArrayList" "size" "I" (.int (1 : Int32))) (V_ea : Arv Z h0 ea ke (.object "java/lang/Object") (10 : Int32) [u0, .null, .null, .null, .null, .null, .null, .null, .null, .null] .null) (Oe : Ovr Z ke "java/lang/Object") (g_a : n0 ≤ a) (g_ea : n0 ≤ ea) (ne_ea_a : ea ≠ a) (E_x : Exa Z h0 x "com/example/pipewright/pipewright/core/Call$Redirection") (ne_x_a : x ≠ a) (ne_x_ea : x ≠ ea) :
    Meets l (⟨"java/util/ArrayList", "add", "(Ljava/lang/Object;)Z"⟩ : MethodName) jdk_38_method_25_code 2 (some .boolean) ws ({ frames := 1, cells := 0, slots := 0, locals := 15 } : Room) Z #[(.ref a), (.ref x)] h0 (Q_rm_add1_1 Z a x ea ke mc u0 h0 n0) 0 0 := by
  refine enter (Ls := #[.val (.ref a), .val (.ref x)]) (plainFor_of_name pn_2) (fun m => by first | (simp [entryFrame, mkF, argsToLocals, Value.category]; done) | rfl) ?_
  intro p e s m below meth c T0 hx hby hml hown hnm hret hlk hZ X0 e0
  have N0 := Fr.nil n0
  replace hown : s.vm.findClass "java/util/ArrayList" = some m.cls := hown
  show Run p e below _ (T0.setTop (mkF m 0 #[.val (.ref a), .val (.ref x)] []))
  have K0 := Keep.refl h0 [a, ea]
  refine go (fun _ => XS.aloadN X0.here hx rfl (hb hby d_j38_m25_0) rfl rfl) ?_
  show Run p e below _ (T0.setTop (mkF m 1 #[.val (.ref a), .val (.ref x)] [(.ref a)]))
  refine go (fun _ => XS.dup X0.here hx rfl (hb hby d_j38_m25_1) rfl rfl) ?_
  show Run p e below _ (T0.setTop (mkF m 2 #[.val (.ref a), .val (.ref x)] [(.ref a), (.ref a)]))
  obtain ⟨T203, X203, e203, st203⟩ := getF X0 hx hZ hown (host := "") (Or.inl (wd hw 89 rfl)) (Via.of (wd hw 90 rfl)) e0 F_modCount_a (g := (mkF m 2 #[.val (.ref a), .val (.ref x)] [(.ref a), (.ref a)])) rfl rfl (hb hby d_j38_m25_2)
  refine go st203 ?_
  show Run p e below _ (T203.setTop (mkF m 5 #[.val (.ref a), .val (.ref x)] [(.int mc), (.ref a)]))
  refine go (fun _ => XS.iconst X203.here hx rfl (hb hby d_j38_m25_5)) ?_
  show Run p e below _ (T203.setTop (mkF m 6 #[.val (.ref a), .val (.ref x)] [(.int (1 : Int32)), (.int mc), (.ref a)]))
  refine go (fun _ => XS.iadd X203.here hx rfl (hb hby d_j38_m25_6) rfl) ?_
  show Run p e below _ (T203.setTop (mkF m 7 #[.val (.ref a), .val (.ref x)] [(.int (mc + (1 : Int32))), (.ref a)]))
  obtain ⟨T204, h204, X204, e204, W204, st204⟩ := putF X203 hx hZ hown (host := "") (Or.inl (wd hw 89 rfl)) (Via.of (wd hw 90 rfl)) e203 F_modCount_a E_a (Or.inl (wd hw 25 rfl)) (wd hw 4 rfl) (ty := .int) (by decide) rfl rfl (g := (mkF m 7 #[.val (.ref a), .val (.ref x)] [(.int (mc + (1 : Int32))), (.ref a)])) rfl rfl (hb hby d_j38_m25_7)
  have O0 := O0.wr W204 g_a
  have E_a := E_a.wr W204
  have F_modCount_a := F_modCount_a.same W204
  have F_elementData_a := F_elementData_a.other W204 (Or.inr (slot_ne (Or.inl (wd hw 28 rfl)) (Or.inl (wd hw 25 rfl)) (by decide) (t := (.array (.object "java/lang/Object"))) (t' := .int) (by decide) (by decide)))
  have F_size_a := F_size_a.other W204 (Or.inr (slot_ne (Or.inl (wd hw 57 rfl)) (Or.inl (wd hw 25 rfl)) (by decide) (t := .int) (t' := .int) (by decide) (by decide)))
  have V_ea := V_ea.other W204 ne_ea_a
  have E_x := E_x.wr W204
  have K0 := K0.wr W204 (Or.inl (by simp))
  have N204 := Fr.snoc X204 N0 g_a
  refine go st204 ?_
  show Run p e below _ (T204.setTop (mkF m 10 #[.val (.ref a), .val (.ref x)] []))
  refine go (fun _ => XS.aloadN X204.here hx rfl (hb hby d_j38_m25_10) rfl rfl) ?_
  show Run p e below _ (T204.setTop (mkF m 11 #[.val (.ref a), .val (.ref x)] [(.ref a)]))
  refine go (fun _ => XS.aloadN X204.here hx rfl (hb hby d_j38_m25_11) rfl rfl) ?_
  show Run p e below _ (T204.setTop (mkF m 12 #[.val (.ref a), .val (.ref x)] [(.ref x), (.ref a)]))
  refine go (fun _ => XS.aloadN X204.here hx rfl (hb hby d_j38_m25_12) rfl rfl) ?_
  show Run p e below _ (T204.setTop (mkF m 13 #[.val (.ref a), .val (.ref x)] [(.ref a), (.ref x), (.ref a)]))
  obtain ⟨T205, X205, e205, st205⟩ := getF X204 hx hZ hown (host := "") (Or.inl (wd hw 27 rfl)) Via.refl e204 F_elementData_a (g := (mkF m 13 #[.val (.ref a), .val (.ref x)] [(.ref a), (.ref x), (.ref a)])) rfl rfl (hb hby d_j38_m25_13)
  refine go st205 ?_
  show Run p e below _ (T205.setTop (mkF m 16 #[.val (.ref a), .val (.ref x)] [(.ref ea), (.ref x), (.ref a)]))
  refine go (fun _ => XS.aloadN X205.here hx rfl (hb hby d_j38_m25_16) rfl rfl) ?_
  show Run p e below _ (T205.setTop (mkF m 17 #[.val (.ref a), .val (.ref x)] [(.ref a), (.ref ea), (.ref x), (.ref a)]))
  obtain ⟨T206, X206, e206, st206⟩ := getF X205 hx hZ hown (host := "") (Or.inl (wd hw 56 rfl)) Via.refl e205 F_size_a (g := (mkF m 17 #[.val (.ref a), .val (.ref x)] [(.ref a), (.ref ea), (.ref x), (.ref a)])) rfl rfl (hb hby d_j38_m25_17)
  refine go st206 ?_
  show Run p e below _ (T206.setTop (mkF m 20 #[.val (.ref a), .val (.ref x)] [(.int (1 : Int32)), (.ref ea), (.ref x), (.ref a)]))
  refine callPr X206 hx hZ hown (wd hw 91 rfl) (wd hw 93 rfl) (wd hw 94 rfl) (wd hw 92 rfl) (wd hw 95 rfl) (wd hw 5 rfl) (by decide) e206 E_a (argsL := [(.ref x), (.ref ea), (.int (1 : Int32))]) (rest := []) (rm_addp1_1 l Z a0 hw [] a x ea ke (mc + (1 : Int32)) u0  h204 n0 O0 E_a F_modCount_a F_elementData_a F_size_a V_ea Oe g_a g_ea ne_ea_a E_x ne_x_a ne_x_ea) (W := 0) (by decide) (by decide) (by decide) (by decide) (by rw [hml]; rfl) (lenOf pd_17 rfl) rfl (Nat.le_of_eq rfl) (hb hby d_j38_m25_20) ?_
  intro v207 T207 L207 h207 X207 e207 q207
  obtain ⟨rfl, n207, K207, E_a, F_modCount_a, F_elementData_a, F_size_a, V_ea⟩ := q207
  have O0 := O0.keep K207 (allS g_a (allS g_ea all0))
  have E_x := E_x.keep K207
  have K0 := K0.trans K207 (allS (Or.inl (by simp)) (allS (Or.inl (by simp)) all0))
  have N207 := Fr.app N204 n207
  show Run p e below _ (T207.setTop (mkF m 23 #[.val (.ref a), .val (.ref x)] []))
  refine go (fun _ => XS.iconst X207.here hx rfl (hb hby d_j38_m25_23)) ?_
  show Run p e below _ (T207.setTop (mkF m 24 #[.val (.ref a), .val (.ref x)] [(.int (1 : Int32))]))
  exact endN X207 hx hlk (t := .boolean) hret (by simp) (hb hby d_j38_m25_24) (by rw [e207]; exact ⟨rfl, N207, K0, E_a, F_modCount_a, F_elementData_a, F_size_a, V_ea⟩) (by decide) (by decide)
def Q_rm_addp2_2 (Z : State) (a x ea : Addr) (ke : ClassId) (mc : Int32) (u0 u1 : Value)  (h0 : Heap) (n0 : Nat) (v : Option Value) (h : Heap) (L : List Loc) : Prop := v = none ∧ Fr n0 L ∧ Keep h0 h [a, ea] ∧ Exa Z h a "java/util/ArrayList" ∧ Fld Z h a "java/util/AbstractList" "modCount" "I" (.int mc) ∧ Fld Z h a "java/util/ArrayList" "elementData" "[Ljava/lang/Object;" (.ref ea) ∧ Fld Z h a "java/util/ArrayList" "size" "I" (.int (3 : Int32)) ∧ Arv Z h ea ke (.object "java/lang/Object") (10 : Int32) [u0, u1, (.ref x), .null, .null, .null, .null, .null, .null, .null] .null
set_option maxRecDepth 65536 in
set_option maxHeartbeats 40000000 in
theorem rm_addp2_2 (l : Launch) (Z : State) (a0 : Array Value) (hw : ∀ d ∈ tables_1, d.before a0 Z = true) (ws : List Jvm.Cond) (a x ea : Addr) (ke : ClassId) (mc : Int32) (u0 u1 : Value)  (h0 : Heap) (n0 : Nat) (O0 : Old Z n0 h0) (E_a : Exa Z h0 a "java/util/ArrayList") (F_modCount_a : Fld Z h0 a "java/util/AbstractList" "modCount" "I" (.int mc)) (F_elementData_a : Fld Z h0 a "java/util/ArrayList" "elementData" "[Ljava/lang/Object;" (.ref ea)) (F_size_a : Fld Z h0 a "java/util/ArrayList" "size" "I" (.int (2 : Int32))) (V_ea : Arv Z h0 ea ke (.object "java/lang/Object") (10 : Int32) [u0, u1, .null, .null, .null, .null, .null, .null, .null, .null] .null) (Oe : Ovr Z ke "java/lang/Object") (g_a : n0 ≤ a) (g_ea : n0 ≤ ea) (ne_ea_a : ea ≠ a) (E_x : Exa Z h0 x "com/example/pipewright/pipewright/core/Call$Redirection") (ne_x_a : x ≠ a) (ne_x_ea : x ≠ ea) :
    Meets l (⟨"java/util/ArrayList", "add", "(Ljava/lang/Object;[Ljava/lang/Object;I)V"⟩ : MethodName) jdk_38_method_24_code 4 none ws ({ frames := 0, cells := 0, slots := 0, locals := 0 } : Room) Z #[(.ref a), (.ref x), (.ref ea), (.int (2 : Int32))] h0 (Q_rm_addp2_2 Z a x ea ke mc u0 u1 h0 n0) 0 0 := by
  refine enter (Ls := #[.val (.ref a), .val (.ref x), .val (.ref ea), .val (.int (2 : Int32))]) (plainFor_of_name pn_2) (fun m => by first | (simp [entryFrame, mkF, argsToLocals, Value.category]; done) | rfl) ?_
  intro p e s m below meth c T0 hx hby hml hown hnm hret hlk hZ X0 e0
  have N0 := Fr.nil n0
  replace hown : s.vm.findClass "java/util/ArrayList" = some m.cls := hown
  show Run p e below _ (T0.setTop (mkF m 0 #[.val (.ref a), .val (.ref x), .val (.ref ea), .val (.int (2 : Int32))] []))
  have K0 := Keep.refl h0 [a, ea]
  refine go (fun _ => XS.iloadN X0.here hx rfl (hb hby d_j38_m24_0) rfl) ?_
  show Run p e below _ (T0.setTop (mkF m 1 #[.val (.ref a), .val (.ref x), .val (.ref ea), .val (.int (2 : Int32))] [(.int (2 : Int32))]))
  refine go (fun _ => XS.aloadN X0.here hx rfl (hb hby d_j38_m24_1) rfl rfl) ?_
  show Run p e below _ (T0.setTop (mkF m 2 #[.val (.ref a), .val (.ref x), .val (.ref ea), .val (.int (2 : Int32))] [(.ref ea), (.int (2 : Int32))]))
  obtain ⟨cl212, Ar212, ak212, as212, an212, ah212, ag212⟩ := id V_ea
  refine go (fun _ => X0.arraylength hx (by rw [e0]; exact Ar212.1) (State.isArrayOf_alike hZ.alike Ar212.2.1) (g := (mkF m 2 #[.val (.ref a), .val (.ref x), .val (.ref ea), .val (.int (2 : Int32))] [(.ref ea), (.int (2 : Int32))])) rfl rfl (hb hby d_j38_m24_2) _) ?_
  rw [len_of as212 an212]
  show Run p e below _ (T0.setTop (mkF m 3 #[.val (.ref a), .val (.ref x), .val (.ref ea), .val (.int (2 : Int32))] [(.int (10 : Int32)), (.int (2 : Int32))]))
  refine go (fun _ => XS.icmpYes X0.here hx rfl (pc0 := 3) (pc' := 11) rfl (hb hby d_j38_m24_3) rfl (feq (by decide : ¬ ((2 : Int32) = 10))).2 (by decide) (by decide)) ?_
  show Run p e below _ (T0.setTop (mkF m 11 #[.val (.ref a), .val (.ref x), .val (.ref ea), .val (.int (2 : Int32))] []))
  refine go (fun _ => XS.aloadN X0.here hx rfl (hb hby d_j38_m24_11) rfl rfl) ?_
  show Run p e below _ (T0.setTop (mkF m 12 #[.val (.ref a), .val (.ref x), .val (.ref ea), .val (.int (2 : Int32))] [(.ref ea)]))
  refine go (fun _ => XS.iloadN X0.here hx rfl (hb hby d_j38_m24_12) rfl) ?_
  show Run p e below _ (T0.setTop (mkF m 13 #[.val (.ref a), .val (.ref x), .val (.ref ea), .val (.int (2 : Int32))] [(.int (2 : Int32)), (.ref ea)]))
  refine go (fun _ => XS.aloadN X0.here hx rfl (hb hby d_j38_m24_13) rfl rfl) ?_
  show Run p e below _ (T0.setTop (mkF m 14 #[.val (.ref a), .val (.ref x), .val (.ref ea), .val (.int (2 : Int32))] [(.ref x), (.int (2 : Int32)), (.ref ea)]))
  obtain ⟨cl213, Ar213, ak213, as213, an213, ah213, ag213⟩ := id V_ea
  have hin213 := inb_of as213 (j := (2 : Int32)) ⟨by decide, by decide⟩
  obtain ⟨T213, h213, X213, e213, W213, st213⟩ := stR X0 hx hZ e0 Ar213 (j := (2 : Int32)) hin213 rfl (Sto.ofV Ar213 ak213 Oe (Ins.of_exa E_x (wd hw 112 rfl))) (g := (mkF m 14 #[.val (.ref a), .val (.ref x), .val (.ref ea), .val (.int (2 : Int32))] [(.ref x), (.int (2 : Int32)), (.ref ea)])) rfl rfl (hb hby d_j38_m24_14)
  have O0 := O0.wr W213 g_ea
  have E_a := E_a.wr W213
  have F_modCount_a := F_modCount_a.other W213 (Or.inl (Ne.symm ne_ea_a))
  have F_elementData_a := F_elementData_a.other W213 (Or.inl (Ne.symm ne_ea_a))
  have F_size_a := F_size_a.other W213 (Or.inl (Ne.symm ne_ea_a))
  have V_ea := (Arv.set Ar213 ak213 as213 an213 ah213 ag213 rfl W213 2 rfl (Nat.le_of_ble_eq_true rfl) : Arv Z h213 ea ke (.object "java/lang/Object") (10 : Int32) [u0, u1, (.ref x), .null, .null, .null, .null, .null, .null, .null] .null)
  have E_x := E_x.wr W213
  have K0 := K0.wr W213 (Or.inl (by simp))
  have N213 := Fr.snoc X213 N0 g_ea
  refine go st213 ?_
  show Run p e below _ (T213.setTop (mkF m 15 #[.val (.ref a), .val (.ref x), .val (.ref ea), .val (.int (2 : Int32))] []))
  refine go (fun _ => XS.aloadN X213.here hx rfl (hb hby d_j38_m24_15) rfl rfl) ?_
  show Run p e below _ (T213.setTop (mkF m 16 #[.val (.ref a), .val (.ref x), .val (.ref ea), .val (.int (2 : Int32))] [(.ref a)]))
  refine go (fun _ => XS.iloadN X213.here hx rfl (hb hby d_j38_m24_16) rfl) ?_
  show Run p e below _ (T213.setTop (mkF m 17 #[.val (.ref a), .val (.ref x), .val (.ref ea), .val (.int (2 : Int32))] [(.int (2 : Int32)), (.ref a)]))
  refine go (fun _ => XS.iconst X213.here hx rfl (hb hby d_j38_m24_17)) ?_
  show Run p e below _ (T213.setTop (mkF m 18 #[.val (.ref a), .val (.ref x), .val (.ref ea), .val (.int (2 : Int32))] [(.int (1 : Int32)), (.int (2 : Int32)), (.ref a)]))
  refine go (fun _ => XS.iadd X213.here hx rfl (hb hby d_j38_m24_18) rfl) ?_
  show Run p e below _ (T213.setTop (mkF m 19 #[.val (.ref a), .val (.ref x), .val (.ref ea), .val (.int (2 : Int32))] [(.int ((2 : Int32) + (1 : Int32))), (.ref a)]))
  show Run p e below _ (T213.setTop (mkF m 19 #[.val (.ref a), .val (.ref x), .val (.ref ea), .val (.int (2 : Int32))] [(.int (3 : Int32)), (.ref a)]))
  obtain ⟨T214, h214, X214, e214, W214, st214⟩ := putF X213 hx hZ hown (host := "") (Or.inl (wd hw 56 rfl)) Via.refl e213 F_size_a E_a (Or.inl (wd hw 57 rfl)) (wd hw 4 rfl) (ty := .int) (by decide) rfl rfl (g := (mkF m 19 #[.val (.ref a), .val (.ref x), .val (.ref ea), .val (.int (2 : Int32))] [(.int (3 : Int32)), (.ref a)])) rfl rfl (hb hby d_j38_m24_19)
  have O0 := O0.wr W214 g_a
  have E_a := E_a.wr W214
  have F_modCount_a := F_modCount_a.other W214 (Or.inr (slot_ne (Or.inl (wd hw 25 rfl)) (Or.inl (wd hw 57 rfl)) (by decide) (t := .int) (t' := .int) (by decide) (by decide)))
  have F_elementData_a := F_elementData_a.other W214 (Or.inr (slot_ne (Or.inl (wd hw 28 rfl)) (Or.inl (wd hw 57 rfl)) (by decide) (t := (.array (.object "java/lang/Object"))) (t' := .int) (by decide) (by decide)))
  have F_size_a := F_size_a.same W214
  have V_ea := V_ea.other W214 ne_ea_a
  have E_x := E_x.wr W214
  have K0 := K0.wr W214 (Or.inl (by simp))
  have N214 := Fr.snoc X214 N213 g_a
  refine go st214 ?_
  show Run p e below _ (T214.setTop (mkF m 22 #[.val (.ref a), .val (.ref x), .val (.ref ea), .val (.int (2 : Int32))] []))
  exact endV X214 hx hlk hret (hb hby d_j38_m24_22) (by rw [e214]; exact ⟨rfl, N214, K0, E_a, F_modCount_a, F_elementData_a, F_size_a, V_ea⟩) (by decide) (by decide)
def Q_rm_add2_2 (Z : State) (a x ea : Addr) (ke : ClassId) (mc : Int32) (u0 u1 : Value)  (h0 : Heap) (n0 : Nat) (v : Option Value) (h : Heap) (L : List Loc) : Prop := v = some (.int 1) ∧ Fr n0 L ∧ Keep h0 h [a, ea] ∧ Exa Z h a "java/util/ArrayList" ∧ Fld Z h a "java/util/AbstractList" "modCount" "I" (.int (mc + (1 : Int32))) ∧ Fld Z h a "java/util/ArrayList" "elementData" "[Ljava/lang/Object;" (.ref ea) ∧ Fld Z h a "java/util/ArrayList" "size" "I" (.int (3 : Int32)) ∧ Arv Z h ea ke (.object "java/lang/Object") (10 : Int32) [u0, u1, (.ref x), .null, .null, .null, .null, .null, .null, .null] .null
set_option maxRecDepth 65536 in
set_option maxHeartbeats 40000000 in
theorem rm_add2_2 (l : Launch) (Z : State) (a0 : Array Value) (hw : ∀ d ∈ tables_1, d.before a0 Z = true) (ws : List Jvm.Cond) (a x ea : Addr) (ke : ClassId) (mc : Int32) (u0 u1 : Value)  (h0 : Heap) (n0 : Nat) (O0 : Old Z n0 h0) (E_a : Exa Z h0 a "java/util/ArrayList") (F_modCount_a : Fld Z h0 a "java/util/AbstractList" "modCount" "I" (.int mc)) (F_elementData_a : Fld Z h0 a "java/util/ArrayList" "elementData" "[Ljava/lang/Object;" (.ref ea)) (F_size_a : Fld Z h0 a "java/util/ArrayList" "size" "I" (.int (2 : Int32))) (V_ea : Arv Z h0 ea ke (.object "java/lang/Object") (10 : Int32) [u0, u1, .null, .null, .null, .null, .null, .null, .null, .null] .null) (Oe : Ovr Z ke "java/lang/Object") (g_a : n0 ≤ a) (g_ea : n0 ≤ ea) (ne_ea_a : ea ≠ a) (E_x : Exa Z h0 x "com/example/pipewright/pipewright/core/Call$Redirection") (ne_x_a : x ≠ a) (ne_x_ea : x ≠ ea) :
    Meets l (⟨"java/util/ArrayList", "add", "(Ljava/lang/Object;)Z"⟩ : MethodName) jdk_38_method_25_code 2 (some .boolean) ws ({ frames := 1, cells := 0, slots := 0, locals := 15 } : Room) Z #[(.ref a), (.ref x)] h0 (Q_rm_add2_2 Z a x ea ke mc u0 u1 h0 n0) 0 0 := by
  refine enter (Ls := #[.val (.ref a), .val (.ref x)]) (plainFor_of_name pn_2) (fun m => by first | (simp [entryFrame, mkF, argsToLocals, Value.category]; done) | rfl) ?_
  intro p e s m below meth c T0 hx hby hml hown hnm hret hlk hZ X0 e0
  have N0 := Fr.nil n0
  replace hown : s.vm.findClass "java/util/ArrayList" = some m.cls := hown
  show Run p e below _ (T0.setTop (mkF m 0 #[.val (.ref a), .val (.ref x)] []))
  have K0 := Keep.refl h0 [a, ea]
  refine go (fun _ => XS.aloadN X0.here hx rfl (hb hby d_j38_m25_0) rfl rfl) ?_
  show Run p e below _ (T0.setTop (mkF m 1 #[.val (.ref a), .val (.ref x)] [(.ref a)]))
  refine go (fun _ => XS.dup X0.here hx rfl (hb hby d_j38_m25_1) rfl rfl) ?_
  show Run p e below _ (T0.setTop (mkF m 2 #[.val (.ref a), .val (.ref x)] [(.ref a), (.ref a)]))
  obtain ⟨T215, X215, e215, st215⟩ := getF X0 hx hZ hown (host := "") (Or.inl (wd hw 89 rfl)) (Via.of (wd hw 90 rfl)) e0 F_modCount_a (g := (mkF m 2 #[.val (.ref a), .val (.ref x)] [(.ref a), (.ref a)])) rfl rfl (hb hby d_j38_m25_2)
  refine go st215 ?_
  show Run p e below _ (T215.setTop (mkF m 5 #[.val (.ref a), .val (.ref x)] [(.int mc), (.ref a)]))
  refine go (fun _ => XS.iconst X215.here hx rfl (hb hby d_j38_m25_5)) ?_
  show Run p e below _ (T215.setTop (mkF m 6 #[.val (.ref a), .val (.ref x)] [(.int (1 : Int32)), (.int mc), (.ref a)]))
  refine go (fun _ => XS.iadd X215.here hx rfl (hb hby d_j38_m25_6) rfl) ?_
  show Run p e below _ (T215.setTop (mkF m 7 #[.val (.ref a), .val (.ref x)] [(.int (mc + (1 : Int32))), (.ref a)]))
  obtain ⟨T216, h216, X216, e216, W216, st216⟩ := putF X215 hx hZ hown (host := "") (Or.inl (wd hw 89 rfl)) (Via.of (wd hw 90 rfl)) e215 F_modCount_a E_a (Or.inl (wd hw 25 rfl)) (wd hw 4 rfl) (ty := .int) (by decide) rfl rfl (g := (mkF m 7 #[.val (.ref a), .val (.ref x)] [(.int (mc + (1 : Int32))), (.ref a)])) rfl rfl (hb hby d_j38_m25_7)
  have O0 := O0.wr W216 g_a
  have E_a := E_a.wr W216
  have F_modCount_a := F_modCount_a.same W216
  have F_elementData_a := F_elementData_a.other W216 (Or.inr (slot_ne (Or.inl (wd hw 28 rfl)) (Or.inl (wd hw 25 rfl)) (by decide) (t := (.array (.object "java/lang/Object"))) (t' := .int) (by decide) (by decide)))
  have F_size_a := F_size_a.other W216 (Or.inr (slot_ne (Or.inl (wd hw 57 rfl)) (Or.inl (wd hw 25 rfl)) (by decide) (t := .int) (t' := .int) (by decide) (by decide)))
  have V_ea := V_ea.other W216 ne_ea_a
  have E_x := E_x.wr W216
  have K0 := K0.wr W216 (Or.inl (by simp))
  have N216 := Fr.snoc X216 N0 g_a
  refine go st216 ?_
  show Run p e below _ (T216.setTop (mkF m 10 #[.val (.ref a), .val (.ref x)] []))
  refine go (fun _ => XS.aloadN X216.here hx rfl (hb hby d_j38_m25_10) rfl rfl) ?_
  show Run p e below _ (T216.setTop (mkF m 11 #[.val (.ref a), .val (.ref x)] [(.ref a)]))
  refine go (fun _ => XS.aloadN X216.here hx rfl (hb hby d_j38_m25_11) rfl rfl) ?_
  show Run p e below _ (T216.setTop (mkF m 12 #[.val (.ref a), .val (.ref x)] [(.ref x), (.ref a)]))
  refine go (fun _ => XS.aloadN X216.here hx rfl (hb hby d_j38_m25_12) rfl rfl) ?_
  show Run p e below _ (T216.setTop (mkF m 13 #[.val (.ref a), .val (.ref x)] [(.ref a), (.ref x), (.ref a)]))
  obtain ⟨T217, X217, e217, st217⟩ := getF X216 hx hZ hown (host := "") (Or.inl (wd hw 27 rfl)) Via.refl e216 F_elementData_a (g := (mkF m 13 #[.val (.ref a), .val (.ref x)] [(.ref a), (.ref x), (.ref a)])) rfl rfl (hb hby d_j38_m25_13)
  refine go st217 ?_
  show Run p e below _ (T217.setTop (mkF m 16 #[.val (.ref a), .val (.ref x)] [(.ref ea), (.ref x), (.ref a)]))
  refine go (fun _ => XS.aloadN X217.here hx rfl (hb hby d_j38_m25_16) rfl rfl) ?_
  show Run p e below _ (T217.setTop (mkF m 17 #[.val (.ref a), .val (.ref x)] [(.ref a), (.ref ea), (.ref x), (.ref a)]))
  obtain ⟨T218, X218, e218, st218⟩ := getF X217 hx hZ hown (host := "") (Or.inl (wd hw 56 rfl)) Via.refl e217 F_size_a (g := (mkF m 17 #[.val (.ref a), .val (.ref x)] [(.ref a), (.ref ea), (.ref x), (.ref a)])) rfl rfl (hb hby d_j38_m25_17)
  refine go st218 ?_
  show Run p e below _ (T218.setTop (mkF m 20 #[.val (.ref a), .val (.ref x)] [(.int (2 : Int32)), (.ref ea), (.ref x), (.ref a)]))
  refine callPr X218 hx hZ hown (wd hw 91 rfl) (wd hw 93 rfl) (wd hw 94 rfl) (wd hw 92 rfl) (wd hw 95 rfl) (wd hw 5 rfl) (by decide) e218 E_a (argsL := [(.ref x), (.ref ea), (.int (2 : Int32))]) (rest := []) (rm_addp2_2 l Z a0 hw [] a x ea ke (mc + (1 : Int32)) u0 u1  h216 n0 O0 E_a F_modCount_a F_elementData_a F_size_a V_ea Oe g_a g_ea ne_ea_a E_x ne_x_a ne_x_ea) (W := 0) (by decide) (by decide) (by decide) (by decide) (by rw [hml]; rfl) (lenOf pd_17 rfl) rfl (Nat.le_of_eq rfl) (hb hby d_j38_m25_20) ?_
  intro v219 T219 L219 h219 X219 e219 q219
  obtain ⟨rfl, n219, K219, E_a, F_modCount_a, F_elementData_a, F_size_a, V_ea⟩ := q219
  have O0 := O0.keep K219 (allS g_a (allS g_ea all0))
  have E_x := E_x.keep K219
  have K0 := K0.trans K219 (allS (Or.inl (by simp)) (allS (Or.inl (by simp)) all0))
  have N219 := Fr.app N216 n219
  show Run p e below _ (T219.setTop (mkF m 23 #[.val (.ref a), .val (.ref x)] []))
  refine go (fun _ => XS.iconst X219.here hx rfl (hb hby d_j38_m25_23)) ?_
  show Run p e below _ (T219.setTop (mkF m 24 #[.val (.ref a), .val (.ref x)] [(.int (1 : Int32))]))
  exact endN X219 hx hlk (t := .boolean) hret (by simp) (hb hby d_j38_m25_24) (by rw [e219]; exact ⟨rfl, N219, K0, E_a, F_modCount_a, F_elementData_a, F_size_a, V_ea⟩) (by decide) (by decide)
def Q_rm_addp0_3 (Z : State) (a x wD : Addr) (kD : ClassId) (mc : Int32) (h0 : Heap) (n0 : Nat) (v : Option Value) (h : Heap) (L : List Loc) : Prop := ∃ (b : Addr) (k : ClassId), v = none ∧ Fr n0 L ∧ Keep h0 h [a] ∧ h0.size ≤ b ∧ n0 ≤ b ∧ Exa Z h a "java/util/ArrayList" ∧ Fld Z h a "java/util/AbstractList" "modCount" "I" (.int mc) ∧ Fld Z h a "java/util/ArrayList" "elementData" "[Ljava/lang/Object;" (.ref b) ∧ Fld Z h a "java/util/ArrayList" "size" "I" (.int (1 : Int32)) ∧ Ovr Z k "java/lang/Object" ∧ Arv Z h b k (.object "java/lang/Object") (10 : Int32) [(.ref x), .null, .null, .null, .null, .null, .null, .null, .null, .null] .null ∧ Exa Z h b "[Ljava/lang/Object;"
set_option maxRecDepth 65536 in
set_option maxHeartbeats 40000000 in
theorem rm_addp0_3 (l : Launch) (Z : State) (a0 : Array Value) (hw : ∀ d ∈ tables_1, d.before a0 Z = true) (ws : List Jvm.Cond) (a x wD : Addr) (kD : ClassId) (mc : Int32) (h0 : Heap) (n0 : Nat) (O0 : Old Z n0 h0) (S_DEFAULTCAPACITY_EMPTY_ELEMENTDATA : Sta Z Z.heap "java/util/ArrayList" "DEFAULTCAPACITY_EMPTY_ELEMENTDATA" "[Ljava/lang/Object;" (.ref wD)) (VD : Arv Z Z.heap wD kD (.object "java/lang/Object") (0 : Int32) [] .null) (E_a : Exa Z h0 a "java/util/ArrayList") (F_modCount_a : Fld Z h0 a "java/util/AbstractList" "modCount" "I" (.int mc)) (F_elementData_a : Fld Z h0 a "java/util/ArrayList" "elementData" "[Ljava/lang/Object;" (.ref wD)) (F_size_a : Fld Z h0 a "java/util/ArrayList" "size" "I" (.int (0 : Int32))) (g_a : n0 ≤ a) (E_x : Exa Z h0 x "com/example/pipewright/pipewright/core/Word") (ne_x_a : x ≠ a) :
    Meets l (⟨"java/util/ArrayList", "add", "(Ljava/lang/Object;[Ljava/lang/Object;I)V"⟩ : MethodName) jdk_38_method_24_code 4 none ws ({ frames := 3, cells := 1, slots := 10, locals := 41 } : Room) Z #[(.ref a), (.ref x), (.ref wD), (.int (0 : Int32))] h0 (Q_rm_addp0_3 Z a x wD kD mc h0 n0) 1 10 := by
  refine enter (Ls := #[.val (.ref a), .val (.ref x), .val (.ref wD), .val (.int (0 : Int32))]) (plainFor_of_name pn_2) (fun m => by first | (simp [entryFrame, mkF, argsToLocals, Value.category]; done) | rfl) ?_
  intro p e s m below meth c T0 hx hby hml hown hnm hret hlk hZ X0 e0
  have N0 := Fr.nil n0
  replace hown : s.vm.findClass "java/util/ArrayList" = some m.cls := hown
  show Run p e below _ (T0.setTop (mkF m 0 #[.val (.ref a), .val (.ref x), .val (.ref wD), .val (.int (0 : Int32))] []))
  have K0 := Keep.refl h0 [a]
  have V_wD := VD.ext O0.2
  have ne_wD_a : wD ≠ a := O0.ne VD.lt g_a
  refine go (fun _ => XS.iloadN X0.here hx rfl (hb hby d_j38_m24_0) rfl) ?_
  show Run p e below _ (T0.setTop (mkF m 1 #[.val (.ref a), .val (.ref x), .val (.ref wD), .val (.int (0 : Int32))] [(.int (0 : Int32))]))
  refine go (fun _ => XS.aloadN X0.here hx rfl (hb hby d_j38_m24_1) rfl rfl) ?_
  show Run p e below _ (T0.setTop (mkF m 2 #[.val (.ref a), .val (.ref x), .val (.ref wD), .val (.int (0 : Int32))] [(.ref wD), (.int (0 : Int32))]))
  obtain ⟨cl221, Ar221, ak221, as221, an221, ah221, ag221⟩ := id V_wD
  refine go (fun _ => X0.arraylength hx (by rw [e0]; exact Ar221.1) (State.isArrayOf_alike hZ.alike Ar221.2.1) (g := (mkF m 2 #[.val (.ref a), .val (.ref x), .val (.ref wD), .val (.int (0 : Int32))] [(.ref wD), (.int (0 : Int32))])) rfl rfl (hb hby d_j38_m24_2) _) ?_
  rw [len_of as221 an221]
  show Run p e below _ (T0.setTop (mkF m 3 #[.val (.ref a), .val (.ref x), .val (.ref wD), .val (.int (0 : Int32))] [(.int (0 : Int32)), (.int (0 : Int32))]))
  refine go (fun _ => XS.icmpNo X0.here hx rfl (hb hby d_j38_m24_3) rfl (teq (by decide : (0 : Int32) = 0)).2) ?_
  show Run p e below _ (T0.setTop (mkF m 6 #[.val (.ref a), .val (.ref x), .val (.ref wD), .val (.int (0 : Int32))] []))
  refine go (fun _ => XS.aloadN X0.here hx rfl (hb hby d_j38_m24_6) rfl rfl) ?_
  show Run p e below _ (T0.setTop (mkF m 7 #[.val (.ref a), .val (.ref x), .val (.ref wD), .val (.int (0 : Int32))] [(.ref a)]))
  refine callPr X0 hx hZ hown (wd hw 96 rfl) (wd hw 98 rfl) (wd hw 99 rfl) (wd hw 97 rfl) (wd hw 100 rfl) (wd hw 5 rfl) (by decide) e0 E_a (argsL := []) (rest := []) (rm_gr0 l Z a0 hw [] a wD kD mc h0 n0 O0 S_DEFAULTCAPACITY_EMPTY_ELEMENTDATA VD E_a F_modCount_a F_elementData_a F_size_a g_a) (W := 0) (by decide) (by decide) (by decide) (by decide) (by rw [hml]; rfl) (lenOf pd_11 rfl) rfl (Nat.le_of_eq rfl) (hb hby d_j38_m24_7) ?_
  intro v222 T222 L222 h222 X222 e222 q222
  have lt223_a := E_a.lt
  have lt223_x := E_x.lt
  have lt223_wD := V_wD.lt
  obtain ⟨b222, k222, rfl, n222, K222, sb222, g_b222, E_a, F_modCount_a, F_elementData_a, F_size_a, O222, V_b222, E_b222⟩ := q222
  have szq222 := K0.1
  have ne_a_b222 : a ≠ b222 := Nat.ne_of_lt (Nat.lt_of_lt_of_le lt223_a sb222)
  have ne_x_b222 : x ≠ b222 := Nat.ne_of_lt (Nat.lt_of_lt_of_le lt223_x sb222)
  have ne_wD_b222 : wD ≠ b222 := Nat.ne_of_lt (Nat.lt_of_lt_of_le lt223_wD sb222)
  have O0 := O0.keep K222 (allS g_a all0)
  have E_x := E_x.keep K222
  have K0 := K0.trans K222 (allS (Or.inl (by simp)) all0)
  have V_wD := V_wD.keep K222 (ninS ne_wD_a nin0)
  have sz_b222 : h0.size ≤ b222 := Nat.le_trans szq222 sb222
  have N222 := Fr.app N0 n222
  show Run p e below _ (T222.setTop (mkF m 10 #[.val (.ref a), .val (.ref x), .val (.ref wD), .val (.int (0 : Int32))] [(.ref b222)]))
  refine go (fun _ => XS.astoreN X222.here hx rfl (hb hby d_j38_m24_10) rfl rfl (l' := #[.val (.ref a), .val (.ref x), .val (.ref b222), .val (.int (0 : Int32))]) rfl) ?_
  show Run p e below _ (T222.setTop (mkF m 11 #[.val (.ref a), .val (.ref x), .val (.ref b222), .val (.int (0 : Int32))] []))
  refine go (fun _ => XS.aloadN X222.here hx rfl (hb hby d_j38_m24_11) rfl rfl) ?_
  show Run p e below _ (T222.setTop (mkF m 12 #[.val (.ref a), .val (.ref x), .val (.ref b222), .val (.int (0 : Int32))] [(.ref b222)]))
  refine go (fun _ => XS.iloadN X222.here hx rfl (hb hby d_j38_m24_12) rfl) ?_
  show Run p e below _ (T222.setTop (mkF m 13 #[.val (.ref a), .val (.ref x), .val (.ref b222), .val (.int (0 : Int32))] [(.int (0 : Int32)), (.ref b222)]))
  refine go (fun _ => XS.aloadN X222.here hx rfl (hb hby d_j38_m24_13) rfl rfl) ?_
  show Run p e below _ (T222.setTop (mkF m 14 #[.val (.ref a), .val (.ref x), .val (.ref b222), .val (.int (0 : Int32))] [(.ref x), (.int (0 : Int32)), (.ref b222)]))
  obtain ⟨cl224, Ar224, ak224, as224, an224, ah224, ag224⟩ := id V_b222
  have hin224 := inb_of as224 (j := (0 : Int32)) ⟨by decide, by decide⟩
  obtain ⟨T224, h224, X224, e224, W224, st224⟩ := stR X222 hx hZ e222 Ar224 (j := (0 : Int32)) hin224 rfl (Sto.ofV Ar224 ak224 O222 (Ins.of_exa E_x (wd hw 204 rfl))) (g := (mkF m 14 #[.val (.ref a), .val (.ref x), .val (.ref b222), .val (.int (0 : Int32))] [(.ref x), (.int (0 : Int32)), (.ref b222)])) rfl rfl (hb hby d_j38_m24_14)
  have O0 := O0.wr W224 g_b222
  have E_a := E_a.wr W224
  have E_x := E_x.wr W224
  have K0 := K0.wr W224 (Or.inr sz_b222)
  have V_wD := V_wD.other W224 ne_wD_b222
  have F_modCount_a := F_modCount_a.other W224 (Or.inl ne_a_b222)
  have F_elementData_a := F_elementData_a.other W224 (Or.inl ne_a_b222)
  have F_size_a := F_size_a.other W224 (Or.inl ne_a_b222)
  have V_b222 := (Arv.set Ar224 ak224 as224 an224 ah224 ag224 rfl W224 0 rfl (Nat.le_of_ble_eq_true rfl) : Arv Z h224 b222 k222 (.object "java/lang/Object") (10 : Int32) [(.ref x), .null, .null, .null, .null, .null, .null, .null, .null, .null] .null)
  have E_b222 := E_b222.wr W224
  have N224 := Fr.snoc X224 N222 g_b222
  refine go st224 ?_
  show Run p e below _ (T224.setTop (mkF m 15 #[.val (.ref a), .val (.ref x), .val (.ref b222), .val (.int (0 : Int32))] []))
  refine go (fun _ => XS.aloadN X224.here hx rfl (hb hby d_j38_m24_15) rfl rfl) ?_
  show Run p e below _ (T224.setTop (mkF m 16 #[.val (.ref a), .val (.ref x), .val (.ref b222), .val (.int (0 : Int32))] [(.ref a)]))
  refine go (fun _ => XS.iloadN X224.here hx rfl (hb hby d_j38_m24_16) rfl) ?_
  show Run p e below _ (T224.setTop (mkF m 17 #[.val (.ref a), .val (.ref x), .val (.ref b222), .val (.int (0 : Int32))] [(.int (0 : Int32)), (.ref a)]))
  refine go (fun _ => XS.iconst X224.here hx rfl (hb hby d_j38_m24_17)) ?_
  show Run p e below _ (T224.setTop (mkF m 18 #[.val (.ref a), .val (.ref x), .val (.ref b222), .val (.int (0 : Int32))] [(.int (1 : Int32)), (.int (0 : Int32)), (.ref a)]))
  refine go (fun _ => XS.iadd X224.here hx rfl (hb hby d_j38_m24_18) rfl) ?_
  show Run p e below _ (T224.setTop (mkF m 19 #[.val (.ref a), .val (.ref x), .val (.ref b222), .val (.int (0 : Int32))] [(.int ((0 : Int32) + (1 : Int32))), (.ref a)]))
  show Run p e below _ (T224.setTop (mkF m 19 #[.val (.ref a), .val (.ref x), .val (.ref b222), .val (.int (0 : Int32))] [(.int (1 : Int32)), (.ref a)]))
  obtain ⟨T225, h225, X225, e225, W225, st225⟩ := putF X224 hx hZ hown (host := "") (Or.inl (wd hw 56 rfl)) Via.refl e224 F_size_a E_a (Or.inl (wd hw 57 rfl)) (wd hw 4 rfl) (ty := .int) (by decide) rfl rfl (g := (mkF m 19 #[.val (.ref a), .val (.ref x), .val (.ref b222), .val (.int (0 : Int32))] [(.int (1 : Int32)), (.ref a)])) rfl rfl (hb hby d_j38_m24_19)
  have O0 := O0.wr W225 g_a
  have E_a := E_a.wr W225
  have E_x := E_x.wr W225
  have K0 := K0.wr W225 (Or.inl (by simp))
  have V_wD := V_wD.other W225 ne_wD_a
  have F_modCount_a := F_modCount_a.other W225 (Or.inr (slot_ne (Or.inl (wd hw 25 rfl)) (Or.inl (wd hw 57 rfl)) (by decide) (t := .int) (t' := .int) (by decide) (by decide)))
  have F_elementData_a := F_elementData_a.other W225 (Or.inr (slot_ne (Or.inl (wd hw 28 rfl)) (Or.inl (wd hw 57 rfl)) (by decide) (t := (.array (.object "java/lang/Object"))) (t' := .int) (by decide) (by decide)))
  have F_size_a := F_size_a.same W225
  have V_b222 := V_b222.other W225 (Ne.symm ne_a_b222)
  have E_b222 := E_b222.wr W225
  have N225 := Fr.snoc X225 N224 g_a
  refine go st225 ?_
  show Run p e below _ (T225.setTop (mkF m 22 #[.val (.ref a), .val (.ref x), .val (.ref b222), .val (.int (0 : Int32))] []))
  exact endV X225 hx hlk hret (hb hby d_j38_m24_22) (by rw [e225]; exact ⟨b222, _, rfl, N225, K0, sz_b222, g_b222, E_a, F_modCount_a, F_elementData_a, F_size_a, O222, V_b222, E_b222⟩) (by decide) (by decide)
def Q_rm_add0_3 (Z : State) (a x wD : Addr) (kD : ClassId) (mc : Int32) (h0 : Heap) (n0 : Nat) (v : Option Value) (h : Heap) (L : List Loc) : Prop := ∃ (b : Addr) (k : ClassId), v = some (.int 1) ∧ Fr n0 L ∧ Keep h0 h [a] ∧ h0.size ≤ b ∧ n0 ≤ b ∧ Exa Z h a "java/util/ArrayList" ∧ Fld Z h a "java/util/AbstractList" "modCount" "I" (.int (mc + (1 : Int32))) ∧ Fld Z h a "java/util/ArrayList" "elementData" "[Ljava/lang/Object;" (.ref b) ∧ Fld Z h a "java/util/ArrayList" "size" "I" (.int (1 : Int32)) ∧ Ovr Z k "java/lang/Object" ∧ Arv Z h b k (.object "java/lang/Object") (10 : Int32) [(.ref x), .null, .null, .null, .null, .null, .null, .null, .null, .null] .null ∧ Exa Z h b "[Ljava/lang/Object;"
set_option maxRecDepth 65536 in
set_option maxHeartbeats 40000000 in
theorem rm_add0_3 (l : Launch) (Z : State) (a0 : Array Value) (hw : ∀ d ∈ tables_1, d.before a0 Z = true) (ws : List Jvm.Cond) (a x wD : Addr) (kD : ClassId) (mc : Int32) (h0 : Heap) (n0 : Nat) (O0 : Old Z n0 h0) (S_DEFAULTCAPACITY_EMPTY_ELEMENTDATA : Sta Z Z.heap "java/util/ArrayList" "DEFAULTCAPACITY_EMPTY_ELEMENTDATA" "[Ljava/lang/Object;" (.ref wD)) (VD : Arv Z Z.heap wD kD (.object "java/lang/Object") (0 : Int32) [] .null) (E_a : Exa Z h0 a "java/util/ArrayList") (F_modCount_a : Fld Z h0 a "java/util/AbstractList" "modCount" "I" (.int mc)) (F_elementData_a : Fld Z h0 a "java/util/ArrayList" "elementData" "[Ljava/lang/Object;" (.ref wD)) (F_size_a : Fld Z h0 a "java/util/ArrayList" "size" "I" (.int (0 : Int32))) (g_a : n0 ≤ a) (E_x : Exa Z h0 x "com/example/pipewright/pipewright/core/Word") (ne_x_a : x ≠ a) :
    Meets l (⟨"java/util/ArrayList", "add", "(Ljava/lang/Object;)Z"⟩ : MethodName) jdk_38_method_25_code 2 (some .boolean) ws ({ frames := 4, cells := 1, slots := 10, locals := 56 } : Room) Z #[(.ref a), (.ref x)] h0 (Q_rm_add0_3 Z a x wD kD mc h0 n0) 1 10 := by
  refine enter (Ls := #[.val (.ref a), .val (.ref x)]) (plainFor_of_name pn_2) (fun m => by first | (simp [entryFrame, mkF, argsToLocals, Value.category]; done) | rfl) ?_
  intro p e s m below meth c T0 hx hby hml hown hnm hret hlk hZ X0 e0
  have N0 := Fr.nil n0
  replace hown : s.vm.findClass "java/util/ArrayList" = some m.cls := hown
  show Run p e below _ (T0.setTop (mkF m 0 #[.val (.ref a), .val (.ref x)] []))
  have K0 := Keep.refl h0 [a]
  have V_wD := VD.ext O0.2
  have ne_wD_a : wD ≠ a := O0.ne VD.lt g_a
  refine go (fun _ => XS.aloadN X0.here hx rfl (hb hby d_j38_m25_0) rfl rfl) ?_
  show Run p e below _ (T0.setTop (mkF m 1 #[.val (.ref a), .val (.ref x)] [(.ref a)]))
  refine go (fun _ => XS.dup X0.here hx rfl (hb hby d_j38_m25_1) rfl rfl) ?_
  show Run p e below _ (T0.setTop (mkF m 2 #[.val (.ref a), .val (.ref x)] [(.ref a), (.ref a)]))
  obtain ⟨T226, X226, e226, st226⟩ := getF X0 hx hZ hown (host := "") (Or.inl (wd hw 89 rfl)) (Via.of (wd hw 90 rfl)) e0 F_modCount_a (g := (mkF m 2 #[.val (.ref a), .val (.ref x)] [(.ref a), (.ref a)])) rfl rfl (hb hby d_j38_m25_2)
  refine go st226 ?_
  show Run p e below _ (T226.setTop (mkF m 5 #[.val (.ref a), .val (.ref x)] [(.int mc), (.ref a)]))
  refine go (fun _ => XS.iconst X226.here hx rfl (hb hby d_j38_m25_5)) ?_
  show Run p e below _ (T226.setTop (mkF m 6 #[.val (.ref a), .val (.ref x)] [(.int (1 : Int32)), (.int mc), (.ref a)]))
  refine go (fun _ => XS.iadd X226.here hx rfl (hb hby d_j38_m25_6) rfl) ?_
  show Run p e below _ (T226.setTop (mkF m 7 #[.val (.ref a), .val (.ref x)] [(.int (mc + (1 : Int32))), (.ref a)]))
  obtain ⟨T227, h227, X227, e227, W227, st227⟩ := putF X226 hx hZ hown (host := "") (Or.inl (wd hw 89 rfl)) (Via.of (wd hw 90 rfl)) e226 F_modCount_a E_a (Or.inl (wd hw 25 rfl)) (wd hw 4 rfl) (ty := .int) (by decide) rfl rfl (g := (mkF m 7 #[.val (.ref a), .val (.ref x)] [(.int (mc + (1 : Int32))), (.ref a)])) rfl rfl (hb hby d_j38_m25_7)
  have O0 := O0.wr W227 g_a
  have E_a := E_a.wr W227
  have F_modCount_a := F_modCount_a.same W227
  have F_elementData_a := F_elementData_a.other W227 (Or.inr (slot_ne (Or.inl (wd hw 28 rfl)) (Or.inl (wd hw 25 rfl)) (by decide) (t := (.array (.object "java/lang/Object"))) (t' := .int) (by decide) (by decide)))
  have F_size_a := F_size_a.other W227 (Or.inr (slot_ne (Or.inl (wd hw 57 rfl)) (Or.inl (wd hw 25 rfl)) (by decide) (t := .int) (t' := .int) (by decide) (by decide)))
  have E_x := E_x.wr W227
  have K0 := K0.wr W227 (Or.inl (by simp))
  have V_wD := V_wD.other W227 ne_wD_a
  have N227 := Fr.snoc X227 N0 g_a
  refine go st227 ?_
  show Run p e below _ (T227.setTop (mkF m 10 #[.val (.ref a), .val (.ref x)] []))
  refine go (fun _ => XS.aloadN X227.here hx rfl (hb hby d_j38_m25_10) rfl rfl) ?_
  show Run p e below _ (T227.setTop (mkF m 11 #[.val (.ref a), .val (.ref x)] [(.ref a)]))
  refine go (fun _ => XS.aloadN X227.here hx rfl (hb hby d_j38_m25_11) rfl rfl) ?_
  show Run p e below _ (T227.setTop (mkF m 12 #[.val (.ref a), .val (.ref x)] [(.ref x), (.ref a)]))
  refine go (fun _ => XS.aloadN X227.here hx rfl (hb hby d_j38_m25_12) rfl rfl) ?_
  show Run p e below _ (T227.setTop (mkF m 13 #[.val (.ref a), .val (.ref x)] [(.ref a), (.ref x), (.ref a)]))
  obtain ⟨T228, X228, e228, st228⟩ := getF X227 hx hZ hown (host := "") (Or.inl (wd hw 27 rfl)) Via.refl e227 F_elementData_a (g := (mkF m 13 #[.val (.ref a), .val (.ref x)] [(.ref a), (.ref x), (.ref a)])) rfl rfl (hb hby d_j38_m25_13)
  refine go st228 ?_
  show Run p e below _ (T228.setTop (mkF m 16 #[.val (.ref a), .val (.ref x)] [(.ref wD), (.ref x), (.ref a)]))
  refine go (fun _ => XS.aloadN X228.here hx rfl (hb hby d_j38_m25_16) rfl rfl) ?_
  show Run p e below _ (T228.setTop (mkF m 17 #[.val (.ref a), .val (.ref x)] [(.ref a), (.ref wD), (.ref x), (.ref a)]))
  obtain ⟨T229, X229, e229, st229⟩ := getF X228 hx hZ hown (host := "") (Or.inl (wd hw 56 rfl)) Via.refl e228 F_size_a (g := (mkF m 17 #[.val (.ref a), .val (.ref x)] [(.ref a), (.ref wD), (.ref x), (.ref a)])) rfl rfl (hb hby d_j38_m25_17)
  refine go st229 ?_
  show Run p e below _ (T229.setTop (mkF m 20 #[.val (.ref a), .val (.ref x)] [(.int (0 : Int32)), (.ref wD), (.ref x), (.ref a)]))
  refine callPr X229 hx hZ hown (wd hw 91 rfl) (wd hw 93 rfl) (wd hw 94 rfl) (wd hw 92 rfl) (wd hw 95 rfl) (wd hw 5 rfl) (by decide) e229 E_a (argsL := [(.ref x), (.ref wD), (.int (0 : Int32))]) (rest := []) (rm_addp0_3 l Z a0 hw [] a x wD kD (mc + (1 : Int32)) h227 n0 O0 S_DEFAULTCAPACITY_EMPTY_ELEMENTDATA VD E_a F_modCount_a F_elementData_a F_size_a g_a E_x ne_x_a) (W := 0) (by decide) (by decide) (by decide) (by decide) (by rw [hml]; rfl) (lenOf pd_17 rfl) rfl (Nat.le_of_eq rfl) (hb hby d_j38_m25_20) ?_
  intro v230 T230 L230 h230 X230 e230 q230
  have lt231_a := E_a.lt
  have lt231_x := E_x.lt
  have lt231_wD := V_wD.lt
  obtain ⟨b230, k230, rfl, n230, K230, sb230, g_b230, E_a, F_modCount_a, F_elementData_a, F_size_a, O230, V_b230, E_b230⟩ := q230
  have szq230 := K0.1
  have ne_a_b230 : a ≠ b230 := Nat.ne_of_lt (Nat.lt_of_lt_of_le lt231_a sb230)
  have ne_x_b230 : x ≠ b230 := Nat.ne_of_lt (Nat.lt_of_lt_of_le lt231_x sb230)
  have ne_wD_b230 : wD ≠ b230 := Nat.ne_of_lt (Nat.lt_of_lt_of_le lt231_wD sb230)
  have O0 := O0.keep K230 (allS g_a all0)
  have E_x := E_x.keep K230
  have K0 := K0.trans K230 (allS (Or.inl (by simp)) all0)
  have V_wD := V_wD.keep K230 (ninS ne_wD_a nin0)
  have sz_b230 : h0.size ≤ b230 := Nat.le_trans szq230 sb230
  have N230 := Fr.app N227 n230
  show Run p e below _ (T230.setTop (mkF m 23 #[.val (.ref a), .val (.ref x)] []))
  refine go (fun _ => XS.iconst X230.here hx rfl (hb hby d_j38_m25_23)) ?_
  show Run p e below _ (T230.setTop (mkF m 24 #[.val (.ref a), .val (.ref x)] [(.int (1 : Int32))]))
  exact endN X230 hx hlk (t := .boolean) hret (by simp) (hb hby d_j38_m25_24) (by rw [e230]; exact ⟨b230, _, rfl, N230, K0, sz_b230, g_b230, E_a, F_modCount_a, F_elementData_a, F_size_a, O230, V_b230, E_b230⟩) (by decide) (by decide)
def Q_rm_addp1_4 (Z : State) (a x ea : Addr) (ke : ClassId) (mc : Int32) (u0 : Value)  (h0 : Heap) (n0 : Nat) (v : Option Value) (h : Heap) (L : List Loc) : Prop := v = none ∧ Fr n0 L ∧ Keep h0 h [a, ea] ∧ Exa Z h a "java/util/ArrayList" ∧ Fld Z h a "java/util/AbstractList" "modCount" "I" (.int mc) ∧ Fld Z h a "java/util/ArrayList" "elementData" "[Ljava/lang/Object;" (.ref ea) ∧ Fld Z h a "java/util/ArrayList" "size" "I" (.int (2 : Int32)) ∧ Arv Z h ea ke (.object "java/lang/Object") (10 : Int32) [u0, (.ref x), .null, .null, .null, .null, .null, .null, .null, .null] .null
set_option maxRecDepth 65536 in
set_option maxHeartbeats 40000000 in
theorem rm_addp1_4 (l : Launch) (Z : State) (a0 : Array Value) (hw : ∀ d ∈ tables_1, d.before a0 Z = true) (ws : List Jvm.Cond) (a x ea : Addr) (ke : ClassId) (mc : Int32) (u0 : Value)  (h0 : Heap) (n0 : Nat) (O0 : Old Z n0 h0) (E_a : Exa Z h0 a "java/util/ArrayList") (F_modCount_a : Fld Z h0 a "java/util/AbstractList" "modCount" "I" (.int mc)) (F_elementData_a : Fld Z h0 a "java/util/ArrayList" "elementData" "[Ljava/lang/Object;" (.ref ea)) (F_size_a : Fld Z h0 a "java/util/ArrayList" "size" "I" (.int (1 : Int32))) (V_ea : Arv Z h0 ea ke (.object "java/lang/Object") (10 : Int32) [u0, .null, .null, .null, .null, .null, .null, .null, .null, .null] .null) (Oe : Ovr Z ke "java/lang/Object") (g_a : n0 ≤ a) (g_ea : n0 ≤ ea) (ne_ea_a : ea ≠ a) (E_x : Exa Z h0 x "com/example/pipewright/pipewright/core/Word") (ne_x_a : x ≠ a) (ne_x_ea : x ≠ ea) :
    Meets l (⟨"java/util/ArrayList", "add", "(Ljava/lang/Object;[Ljava/lang/Object;I)V"⟩ : MethodName) jdk_38_method_24_code 4 none ws ({ frames := 0, cells := 0, slots := 0, locals := 0 } : Room) Z #[(.ref a), (.ref x), (.ref ea), (.int (1 : Int32))] h0 (Q_rm_addp1_4 Z a x ea ke mc u0 h0 n0) 0 0 := by
  refine enter (Ls := #[.val (.ref a), .val (.ref x), .val (.ref ea), .val (.int (1 : Int32))]) (plainFor_of_name pn_2) (fun m => by first | (simp [entryFrame, mkF, argsToLocals, Value.category]; done) | rfl) ?_
  intro p e s m below meth c T0 hx hby hml hown hnm hret hlk hZ X0 e0
  have N0 := Fr.nil n0
  replace hown : s.vm.findClass "java/util/ArrayList" = some m.cls := hown
  show Run p e below _ (T0.setTop (mkF m 0 #[.val (.ref a), .val (.ref x), .val (.ref ea), .val (.int (1 : Int32))] []))
  have K0 := Keep.refl h0 [a, ea]
  refine go (fun _ => XS.iloadN X0.here hx rfl (hb hby d_j38_m24_0) rfl) ?_
  show Run p e below _ (T0.setTop (mkF m 1 #[.val (.ref a), .val (.ref x), .val (.ref ea), .val (.int (1 : Int32))] [(.int (1 : Int32))]))
  refine go (fun _ => XS.aloadN X0.here hx rfl (hb hby d_j38_m24_1) rfl rfl) ?_
  show Run p e below _ (T0.setTop (mkF m 2 #[.val (.ref a), .val (.ref x), .val (.ref ea), .val (.int (1 : Int32))] [(.ref ea), (.int (1 : Int32))]))
  obtain ⟨cl245, Ar245, ak245, as245, an245, ah245, ag245⟩ := id V_ea
  refine go (fun _ => X0.arraylength hx (by rw [e0]; exact Ar245.1) (State.isArrayOf_alike hZ.alike Ar245.2.1) (g := (mkF m 2 #[.val (.ref a), .val (.ref x), .val (.ref ea), .val (.int (1 : Int32))] [(.ref ea), (.int (1 : Int32))])) rfl rfl (hb hby d_j38_m24_2) _) ?_
  rw [len_of as245 an245]
  show Run p e below _ (T0.setTop (mkF m 3 #[.val (.ref a), .val (.ref x), .val (.ref ea), .val (.int (1 : Int32))] [(.int (10 : Int32)), (.int (1 : Int32))]))
  refine go (fun _ => XS.icmpYes X0.here hx rfl (pc0 := 3) (pc' := 11) rfl (hb hby d_j38_m24_3) rfl (feq (by decide : ¬ ((1 : Int32) = 10))).2 (by decide) (by decide)) ?_
  show Run p e below _ (T0.setTop (mkF m 11 #[.val (.ref a), .val (.ref x), .val (.ref ea), .val (.int (1 : Int32))] []))
  refine go (fun _ => XS.aloadN X0.here hx rfl (hb hby d_j38_m24_11) rfl rfl) ?_
  show Run p e below _ (T0.setTop (mkF m 12 #[.val (.ref a), .val (.ref x), .val (.ref ea), .val (.int (1 : Int32))] [(.ref ea)]))
  refine go (fun _ => XS.iloadN X0.here hx rfl (hb hby d_j38_m24_12) rfl) ?_
  show Run p e below _ (T0.setTop (mkF m 13 #[.val (.ref a), .val (.ref x), .val (.ref ea), .val (.int (1 : Int32))] [(.int (1 : Int32)), (.ref ea)]))
  refine go (fun _ => XS.aloadN X0.here hx rfl (hb hby d_j38_m24_13) rfl rfl) ?_
  show Run p e below _ (T0.setTop (mkF m 14 #[.val (.ref a), .val (.ref x), .val (.ref ea), .val (.int (1 : Int32))] [(.ref x), (.int (1 : Int32)), (.ref ea)]))
  obtain ⟨cl246, Ar246, ak246, as246, an246, ah246, ag246⟩ := id V_ea
  have hin246 := inb_of as246 (j := (1 : Int32)) ⟨by decide, by decide⟩
  obtain ⟨T246, h246, X246, e246, W246, st246⟩ := stR X0 hx hZ e0 Ar246 (j := (1 : Int32)) hin246 rfl (Sto.ofV Ar246 ak246 Oe (Ins.of_exa E_x (wd hw 204 rfl))) (g := (mkF m 14 #[.val (.ref a), .val (.ref x), .val (.ref ea), .val (.int (1 : Int32))] [(.ref x), (.int (1 : Int32)), (.ref ea)])) rfl rfl (hb hby d_j38_m24_14)
  have O0 := O0.wr W246 g_ea
  have E_a := E_a.wr W246
  have F_modCount_a := F_modCount_a.other W246 (Or.inl (Ne.symm ne_ea_a))
  have F_elementData_a := F_elementData_a.other W246 (Or.inl (Ne.symm ne_ea_a))
  have F_size_a := F_size_a.other W246 (Or.inl (Ne.symm ne_ea_a))
  have V_ea := (Arv.set Ar246 ak246 as246 an246 ah246 ag246 rfl W246 1 rfl (Nat.le_of_ble_eq_true rfl) : Arv Z h246 ea ke (.object "java/lang/Object") (10 : Int32) [u0, (.ref x), .null, .null, .null, .null, .null, .null, .null, .null] .null)
  have E_x := E_x.wr W246
  have K0 := K0.wr W246 (Or.inl (by simp))
  have N246 := Fr.snoc X246 N0 g_ea
  refine go st246 ?_
  show Run p e below _ (T246.setTop (mkF m 15 #[.val (.ref a), .val (.ref x), .val (.ref ea), .val (.int (1 : Int32))] []))
  refine go (fun _ => XS.aloadN X246.here hx rfl (hb hby d_j38_m24_15) rfl rfl) ?_
  show Run p e below _ (T246.setTop (mkF m 16 #[.val (.ref a), .val (.ref x), .val (.ref ea), .val (.int (1 : Int32))] [(.ref a)]))
  refine go (fun _ => XS.iloadN X246.here hx rfl (hb hby d_j38_m24_16) rfl) ?_
  show Run p e below _ (T246.setTop (mkF m 17 #[.val (.ref a), .val (.ref x), .val (.ref ea), .val (.int (1 : Int32))] [(.int (1 : Int32)), (.ref a)]))
  refine go (fun _ => XS.iconst X246.here hx rfl (hb hby d_j38_m24_17)) ?_
  show Run p e below _ (T246.setTop (mkF m 18 #[.val (.ref a), .val (.ref x), .val (.ref ea), .val (.int (1 : Int32))] [(.int (1 : Int32)), (.int (1 : Int32)), (.ref a)]))
  refine go (fun _ => XS.iadd X246.here hx rfl (hb hby d_j38_m24_18) rfl) ?_
  show Run p e below _ (T246.setTop (mkF m 19 #[.val (.ref a), .val (.ref x), .val (.ref ea), .val (.int (1 : Int32))] [(.int ((1 : Int32) + (1 : Int32))), (.ref a)]))
  show Run p e below _ (T246.setTop (mkF m 19 #[.val (.ref a), .val (.ref x), .val (.ref ea), .val (.int (1 : Int32))] [(.int (2 : Int32)), (.ref a)]))
  obtain ⟨T247, h247, X247, e247, W247, st247⟩ := putF X246 hx hZ hown (host := "") (Or.inl (wd hw 56 rfl)) Via.refl e246 F_size_a E_a (Or.inl (wd hw 57 rfl)) (wd hw 4 rfl) (ty := .int) (by decide) rfl rfl (g := (mkF m 19 #[.val (.ref a), .val (.ref x), .val (.ref ea), .val (.int (1 : Int32))] [(.int (2 : Int32)), (.ref a)])) rfl rfl (hb hby d_j38_m24_19)
  have O0 := O0.wr W247 g_a
  have E_a := E_a.wr W247
  have F_modCount_a := F_modCount_a.other W247 (Or.inr (slot_ne (Or.inl (wd hw 25 rfl)) (Or.inl (wd hw 57 rfl)) (by decide) (t := .int) (t' := .int) (by decide) (by decide)))
  have F_elementData_a := F_elementData_a.other W247 (Or.inr (slot_ne (Or.inl (wd hw 28 rfl)) (Or.inl (wd hw 57 rfl)) (by decide) (t := (.array (.object "java/lang/Object"))) (t' := .int) (by decide) (by decide)))
  have F_size_a := F_size_a.same W247
  have V_ea := V_ea.other W247 ne_ea_a
  have E_x := E_x.wr W247
  have K0 := K0.wr W247 (Or.inl (by simp))
  have N247 := Fr.snoc X247 N246 g_a
  refine go st247 ?_
  show Run p e below _ (T247.setTop (mkF m 22 #[.val (.ref a), .val (.ref x), .val (.ref ea), .val (.int (1 : Int32))] []))
  exact endV X247 hx hlk hret (hb hby d_j38_m24_22) (by rw [e247]; exact ⟨rfl, N247, K0, E_a, F_modCount_a, F_elementData_a, F_size_a, V_ea⟩) (by decide) (by decide)
def Q_rm_add1_4 (Z : State) (a x ea : Addr) (ke : ClassId) (mc : Int32) (u0 : Value)  (h0 : Heap) (n0 : Nat) (v : Option Value) (h : Heap) (L : List Loc) : Prop := v = some (.int 1) ∧ Fr n0 L ∧ Keep h0 h [a, ea] ∧ Exa Z h a "java/util/ArrayList" ∧ Fld Z h a "java/util/AbstractList" "modCount" "I" (.int (mc + (1 : Int32))) ∧ Fld Z h a "java/util/ArrayList" "elementData" "[Ljava/lang/Object;" (.ref ea) ∧ Fld Z h a "java/util/ArrayList" "size" "I" (.int (2 : Int32)) ∧ Arv Z h ea ke (.object "java/lang/Object") (10 : Int32) [u0, (.ref x), .null, .null, .null, .null, .null, .null, .null, .null] .null
set_option maxRecDepth 65536 in
set_option maxHeartbeats 40000000 in
theorem rm_add1_4 (l : Launch) (Z : State) (a0 : Array Value) (hw : ∀ d ∈ tables_1, d.before a0 Z = true) (ws : List Jvm.Cond) (a x ea : Addr) (ke : ClassId) (mc : Int32) (u0 : Value)  (h0 : Heap) (n0 : Nat) (O0 : Old Z n0 h0) (E_a : Exa Z h0 a "java/util/ArrayList") (F_modCount_a : Fld Z h0 a "java/util/AbstractList" "modCount" "I" (.int mc)) (F_elementData_a : Fld Z h0 a "java/util/ArrayList" "elementData" "[Ljava/lang/Object;" (.ref ea)) (F_size_a : Fld Z h0 a "java/util/ArrayList" "size" "I" (.int (1 : Int32))) (V_ea : Arv Z h0 ea ke (.object "java/lang/Object") (10 : Int32) [u0, .null, .null, .null, .null, .null, .null, .null, .null, .null] .null) (Oe : Ovr Z ke "java/lang/Object") (g_a : n0 ≤ a) (g_ea : n0 ≤ ea) (ne_ea_a : ea ≠ a) (E_x : Exa Z h0 x "com/example/pipewright/pipewright/core/Word") (ne_x_a : x ≠ a) (ne_x_ea : x ≠ ea) :
    Meets l (⟨"java/util/ArrayList", "add", "(Ljava/lang/Object;)Z"⟩ : MethodName) jdk_38_method_25_code 2 (some .boolean) ws ({ frames := 1, cells := 0, slots := 0, locals := 15 } : Room) Z #[(.ref a), (.ref x)] h0 (Q_rm_add1_4 Z a x ea ke mc u0 h0 n0) 0 0 := by
  refine enter (Ls := #[.val (.ref a), .val (.ref x)]) (plainFor_of_name pn_2) (fun m => by first | (simp [entryFrame, mkF, argsToLocals, Value.category]; done) | rfl) ?_
  intro p e s m below meth c T0 hx hby hml hown hnm hret hlk hZ X0 e0
  have N0 := Fr.nil n0
  replace hown : s.vm.findClass "java/util/ArrayList" = some m.cls := hown
  show Run p e below _ (T0.setTop (mkF m 0 #[.val (.ref a), .val (.ref x)] []))
  have K0 := Keep.refl h0 [a, ea]
  refine go (fun _ => XS.aloadN X0.here hx rfl (hb hby d_j38_m25_0) rfl rfl) ?_
  show Run p e below _ (T0.setTop (mkF m 1 #[.val (.ref a), .val (.ref x)] [(.ref a)]))
  refine go (fun _ => XS.dup X0.here hx rfl (hb hby d_j38_m25_1) rfl rfl) ?_
  show Run p e below _ (T0.setTop (mkF m 2 #[.val (.ref a), .val (.ref x)] [(.ref a), (.ref a)]))
  obtain ⟨T248, X248, e248, st248⟩ := getF X0 hx hZ hown (host := "") (Or.inl (wd hw 89 rfl)) (Via.of (wd hw 90 rfl)) e0 F_modCount_a (g := (mkF m 2 #[.val (.ref a), .val (.ref x)] [(.ref a), (.ref a)])) rfl rfl (hb hby d_j38_m25_2)
  refine go st248 ?_
  show Run p e below _ (T248.setTop (mkF m 5 #[.val (.ref a), .val (.ref x)] [(.int mc), (.ref a)]))
  refine go (fun _ => XS.iconst X248.here hx rfl (hb hby d_j38_m25_5)) ?_
  show Run p e below _ (T248.setTop (mkF m 6 #[.val (.ref a), .val (.ref x)] [(.int (1 : Int32)), (.int mc), (.ref a)]))
  refine go (fun _ => XS.iadd X248.here hx rfl (hb hby d_j38_m25_6) rfl) ?_
  show Run p e below _ (T248.setTop (mkF m 7 #[.val (.ref a), .val (.ref x)] [(.int (mc + (1 : Int32))), (.ref a)]))
  obtain ⟨T249, h249, X249, e249, W249, st249⟩ := putF X248 hx hZ hown (host := "") (Or.inl (wd hw 89 rfl)) (Via.of (wd hw 90 rfl)) e248 F_modCount_a E_a (Or.inl (wd hw 25 rfl)) (wd hw 4 rfl) (ty := .int) (by decide) rfl rfl (g := (mkF m 7 #[.val (.ref a), .val (.ref x)] [(.int (mc + (1 : Int32))), (.ref a)])) rfl rfl (hb hby d_j38_m25_7)
  have O0 := O0.wr W249 g_a
  have E_a := E_a.wr W249
  have F_modCount_a := F_modCount_a.same W249
  have F_elementData_a := F_elementData_a.other W249 (Or.inr (slot_ne (Or.inl (wd hw 28 rfl)) (Or.inl (wd hw 25 rfl)) (by decide) (t := (.array (.object "java/lang/Object"))) (t' := .int) (by decide) (by decide)))
  have F_size_a := F_size_a.other W249 (Or.inr (slot_ne (Or.inl (wd hw 57 rfl)) (Or.inl (wd hw 25 rfl)) (by decide) (t := .int) (t' := .int) (by decide) (by decide)))
  have V_ea := V_ea.other W249 ne_ea_a
  have E_x := E_x.wr W249
  have K0 := K0.wr W249 (Or.inl (by simp))
  have N249 := Fr.snoc X249 N0 g_a
  refine go st249 ?_
  show Run p e below _ (T249.setTop (mkF m 10 #[.val (.ref a), .val (.ref x)] []))
  refine go (fun _ => XS.aloadN X249.here hx rfl (hb hby d_j38_m25_10) rfl rfl) ?_
  show Run p e below _ (T249.setTop (mkF m 11 #[.val (.ref a), .val (.ref x)] [(.ref a)]))
  refine go (fun _ => XS.aloadN X249.here hx rfl (hb hby d_j38_m25_11) rfl rfl) ?_
  show Run p e below _ (T249.setTop (mkF m 12 #[.val (.ref a), .val (.ref x)] [(.ref x), (.ref a)]))
  refine go (fun _ => XS.aloadN X249.here hx rfl (hb hby d_j38_m25_12) rfl rfl) ?_
  show Run p e below _ (T249.setTop (mkF m 13 #[.val (.ref a), .val (.ref x)] [(.ref a), (.ref x), (.ref a)]))
  obtain ⟨T250, X250, e250, st250⟩ := getF X249 hx hZ hown (host := "") (Or.inl (wd hw 27 rfl)) Via.refl e249 F_elementData_a (g := (mkF m 13 #[.val (.ref a), .val (.ref x)] [(.ref a), (.ref x), (.ref a)])) rfl rfl (hb hby d_j38_m25_13)
  refine go st250 ?_
  show Run p e below _ (T250.setTop (mkF m 16 #[.val (.ref a), .val (.ref x)] [(.ref ea), (.ref x), (.ref a)]))
  refine go (fun _ => XS.aloadN X250.here hx rfl (hb hby d_j38_m25_16) rfl rfl) ?_
  show Run p e below _ (T250.setTop (mkF m 17 #[.val (.ref a), .val (.ref x)] [(.ref a), (.ref ea), (.ref x), (.ref a)]))
  obtain ⟨T251, X251, e251, st251⟩ := getF X250 hx hZ hown (host := "") (Or.inl (wd hw 56 rfl)) Via.refl e250 F_size_a (g := (mkF m 17 #[.val (.ref a), .val (.ref x)] [(.ref a), (.ref ea), (.ref x), (.ref a)])) rfl rfl (hb hby d_j38_m25_17)
  refine go st251 ?_
  show Run p e below _ (T251.setTop (mkF m 20 #[.val (.ref a), .val (.ref x)] [(.int (1 : Int32)), (.ref ea), (.ref x), (.ref a)]))
  refine callPr X251 hx hZ hown (wd hw 91 rfl) (wd hw 93 rfl) (wd hw 94 rfl) (wd hw 92 rfl) (wd hw 95 rfl) (wd hw 5 rfl) (by decide) e251 E_a (argsL := [(.ref x), (.ref ea), (.int (1 : Int32))]) (rest := []) (rm_addp1_4 l Z a0 hw [] a x ea ke (mc + (1 : Int32)) u0  h249 n0 O0 E_a F_modCount_a F_elementData_a F_size_a V_ea Oe g_a g_ea ne_ea_a E_x ne_x_a ne_x_ea) (W := 0) (by decide) (by decide) (by decide) (by decide) (by rw [hml]; rfl) (lenOf pd_17 rfl) rfl (Nat.le_of_eq rfl) (hb hby d_j38_m25_20) ?_
  intro v252 T252 L252 h252 X252 e252 q252
  obtain ⟨rfl, n252, K252, E_a, F_modCount_a, F_elementData_a, F_size_a, V_ea⟩ := q252
  have O0 := O0.keep K252 (allS g_a (allS g_ea all0))
  have E_x := E_x.keep K252
  have K0 := K0.trans K252 (allS (Or.inl (by simp)) (allS (Or.inl (by simp)) all0))
  have N252 := Fr.app N249 n252
  show Run p e below _ (T252.setTop (mkF m 23 #[.val (.ref a), .val (.ref x)] []))
  refine go (fun _ => XS.iconst X252.here hx rfl (hb hby d_j38_m25_23)) ?_
  show Run p e below _ (T252.setTop (mkF m 24 #[.val (.ref a), .val (.ref x)] [(.int (1 : Int32))]))
  exact endN X252 hx hlk (t := .boolean) hret (by simp) (hb hby d_j38_m25_24) (by rw [e252]; exact ⟨rfl, N252, K0, E_a, F_modCount_a, F_elementData_a, F_size_a, V_ea⟩) (by decide) (by decide)
def Q_rm_addp2_5 (Z : State) (a x ea : Addr) (ke : ClassId) (mc : Int32) (u0 u1 : Value)  (h0 : Heap) (n0 : Nat) (v : Option Value) (h : Heap) (L : List Loc) : Prop := v = none ∧ Fr n0 L ∧ Keep h0 h [a, ea] ∧ Exa Z h a "java/util/ArrayList" ∧ Fld Z h a "java/util/AbstractList" "modCount" "I" (.int mc) ∧ Fld Z h a "java/util/ArrayList" "elementData" "[Ljava/lang/Object;" (.ref ea) ∧ Fld Z h a "java/util/ArrayList" "size" "I" (.int (3 : Int32)) ∧ Arv Z h ea ke (.object "java/lang/Object") (10 : Int32) [u0, u1, (.ref x), .null, .null, .null, .null, .null, .null, .null] .null
set_option maxRecDepth 65536 in
set_option maxHeartbeats 40000000 in
theorem rm_addp2_5 (l : Launch) (Z : State) (a0 : Array Value) (hw : ∀ d ∈ tables_1, d.before a0 Z = true) (ws : List Jvm.Cond) (a x ea : Addr) (ke : ClassId) (mc : Int32) (u0 u1 : Value)  (h0 : Heap) (n0 : Nat) (O0 : Old Z n0 h0) (E_a : Exa Z h0 a "java/util/ArrayList") (F_modCount_a : Fld Z h0 a "java/util/AbstractList" "modCount" "I" (.int mc)) (F_elementData_a : Fld Z h0 a "java/util/ArrayList" "elementData" "[Ljava/lang/Object;" (.ref ea)) (F_size_a : Fld Z h0 a "java/util/ArrayList" "size" "I" (.int (2 : Int32))) (V_ea : Arv Z h0 ea ke (.object "java/lang/Object") (10 : Int32) [u0, u1, .null, .null, .null, .null, .null, .null, .null, .null] .null) (Oe : Ovr Z ke "java/lang/Object") (g_a : n0 ≤ a) (g_ea : n0 ≤ ea) (ne_ea_a : ea ≠ a) (E_x : Exa Z h0 x "com/example/pipewright/pipewright/core/Word") (ne_x_a : x ≠ a) (ne_x_ea : x ≠ ea) :
    Meets l (⟨"java/util/ArrayList", "add", "(Ljava/lang/Object;[Ljava/lang/Object;I)V"⟩ : MethodName) jdk_38_method_24_code 4 none ws ({ frames := 0, cells := 0, slots := 0, locals := 0 } : Room) Z #[(.ref a), (.ref x), (.ref ea), (.int (2 : Int32))] h0 (Q_rm_addp2_5 Z a x ea ke mc u0 u1 h0 n0) 0 0 := by
  refine enter (Ls := #[.val (.ref a), .val (.ref x), .val (.ref ea), .val (.int (2 : Int32))]) (plainFor_of_name pn_2) (fun m => by first | (simp [entryFrame, mkF, argsToLocals, Value.category]; done) | rfl) ?_
  intro p e s m below meth c T0 hx hby hml hown hnm hret hlk hZ X0 e0
  have N0 := Fr.nil n0
  replace hown : s.vm.findClass "java/util/ArrayList" = some m.cls := hown
  show Run p e below _ (T0.setTop (mkF m 0 #[.val (.ref a), .val (.ref x), .val (.ref ea), .val (.int (2 : Int32))] []))
  have K0 := Keep.refl h0 [a, ea]
  refine go (fun _ => XS.iloadN X0.here hx rfl (hb hby d_j38_m24_0) rfl) ?_
  show Run p e below _ (T0.setTop (mkF m 1 #[.val (.ref a), .val (.ref x), .val (.ref ea), .val (.int (2 : Int32))] [(.int (2 : Int32))]))
  refine go (fun _ => XS.aloadN X0.here hx rfl (hb hby d_j38_m24_1) rfl rfl) ?_
  show Run p e below _ (T0.setTop (mkF m 2 #[.val (.ref a), .val (.ref x), .val (.ref ea), .val (.int (2 : Int32))] [(.ref ea), (.int (2 : Int32))]))
  obtain ⟨cl266, Ar266, ak266, as266, an266, ah266, ag266⟩ := id V_ea
  refine go (fun _ => X0.arraylength hx (by rw [e0]; exact Ar266.1) (State.isArrayOf_alike hZ.alike Ar266.2.1) (g := (mkF m 2 #[.val (.ref a), .val (.ref x), .val (.ref ea), .val (.int (2 : Int32))] [(.ref ea), (.int (2 : Int32))])) rfl rfl (hb hby d_j38_m24_2) _) ?_
  rw [len_of as266 an266]
  show Run p e below _ (T0.setTop (mkF m 3 #[.val (.ref a), .val (.ref x), .val (.ref ea), .val (.int (2 : Int32))] [(.int (10 : Int32)), (.int (2 : Int32))]))
  refine go (fun _ => XS.icmpYes X0.here hx rfl (pc0 := 3) (pc' := 11) rfl (hb hby d_j38_m24_3) rfl (feq (by decide : ¬ ((2 : Int32) = 10))).2 (by decide) (by decide)) ?_
  show Run p e below _ (T0.setTop (mkF m 11 #[.val (.ref a), .val (.ref x), .val (.ref ea), .val (.int (2 : Int32))] []))
  refine go (fun _ => XS.aloadN X0.here hx rfl (hb hby d_j38_m24_11) rfl rfl) ?_
  show Run p e below _ (T0.setTop (mkF m 12 #[.val (.ref a), .val (.ref x), .val (.ref ea), .val (.int (2 : Int32))] [(.ref ea)]))
  refine go (fun _ => XS.iloadN X0.here hx rfl (hb hby d_j38_m24_12) rfl) ?_
  show Run p e below _ (T0.setTop (mkF m 13 #[.val (.ref a), .val (.ref x), .val (.ref ea), .val (.int (2 : Int32))] [(.int (2 : Int32)), (.ref ea)]))
  refine go (fun _ => XS.aloadN X0.here hx rfl (hb hby d_j38_m24_13) rfl rfl) ?_
  show Run p e below _ (T0.setTop (mkF m 14 #[.val (.ref a), .val (.ref x), .val (.ref ea), .val (.int (2 : Int32))] [(.ref x), (.int (2 : Int32)), (.ref ea)]))
  obtain ⟨cl267, Ar267, ak267, as267, an267, ah267, ag267⟩ := id V_ea
  have hin267 := inb_of as267 (j := (2 : Int32)) ⟨by decide, by decide⟩
  obtain ⟨T267, h267, X267, e267, W267, st267⟩ := stR X0 hx hZ e0 Ar267 (j := (2 : Int32)) hin267 rfl (Sto.ofV Ar267 ak267 Oe (Ins.of_exa E_x (wd hw 204 rfl))) (g := (mkF m 14 #[.val (.ref a), .val (.ref x), .val (.ref ea), .val (.int (2 : Int32))] [(.ref x), (.int (2 : Int32)), (.ref ea)])) rfl rfl (hb hby d_j38_m24_14)
  have O0 := O0.wr W267 g_ea
  have E_a := E_a.wr W267
  have F_modCount_a := F_modCount_a.other W267 (Or.inl (Ne.symm ne_ea_a))
  have F_elementData_a := F_elementData_a.other W267 (Or.inl (Ne.symm ne_ea_a))
  have F_size_a := F_size_a.other W267 (Or.inl (Ne.symm ne_ea_a))
  have V_ea := (Arv.set Ar267 ak267 as267 an267 ah267 ag267 rfl W267 2 rfl (Nat.le_of_ble_eq_true rfl) : Arv Z h267 ea ke (.object "java/lang/Object") (10 : Int32) [u0, u1, (.ref x), .null, .null, .null, .null, .null, .null, .null] .null)
  have E_x := E_x.wr W267
  have K0 := K0.wr W267 (Or.inl (by simp))
  have N267 := Fr.snoc X267 N0 g_ea
  refine go st267 ?_
  show Run p e below _ (T267.setTop (mkF m 15 #[.val (.ref a), .val (.ref x), .val (.ref ea), .val (.int (2 : Int32))] []))
  refine go (fun _ => XS.aloadN X267.here hx rfl (hb hby d_j38_m24_15) rfl rfl) ?_
  show Run p e below _ (T267.setTop (mkF m 16 #[.val (.ref a), .val (.ref x), .val (.ref ea), .val (.int (2 : Int32))] [(.ref a)]))
  refine go (fun _ => XS.iloadN X267.here hx rfl (hb hby d_j38_m24_16) rfl) ?_
  show Run p e below _ (T267.setTop (mkF m 17 #[.val (.ref a), .val (.ref x), .val (.ref ea), .val (.int (2 : Int32))] [(.int (2 : Int32)), (.ref a)]))
  refine go (fun _ => XS.iconst X267.here hx rfl (hb hby d_j38_m24_17)) ?_
  show Run p e below _ (T267.setTop (mkF m 18 #[.val (.ref a), .val (.ref x), .val (.ref ea), .val (.int (2 : Int32))] [(.int (1 : Int32)), (.int (2 : Int32)), (.ref a)]))
  refine go (fun _ => XS.iadd X267.here hx rfl (hb hby d_j38_m24_18) rfl) ?_
  show Run p e below _ (T267.setTop (mkF m 19 #[.val (.ref a), .val (.ref x), .val (.ref ea), .val (.int (2 : Int32))] [(.int ((2 : Int32) + (1 : Int32))), (.ref a)]))
  show Run p e below _ (T267.setTop (mkF m 19 #[.val (.ref a), .val (.ref x), .val (.ref ea), .val (.int (2 : Int32))] [(.int (3 : Int32)), (.ref a)]))
  obtain ⟨T268, h268, X268, e268, W268, st268⟩ := putF X267 hx hZ hown (host := "") (Or.inl (wd hw 56 rfl)) Via.refl e267 F_size_a E_a (Or.inl (wd hw 57 rfl)) (wd hw 4 rfl) (ty := .int) (by decide) rfl rfl (g := (mkF m 19 #[.val (.ref a), .val (.ref x), .val (.ref ea), .val (.int (2 : Int32))] [(.int (3 : Int32)), (.ref a)])) rfl rfl (hb hby d_j38_m24_19)
  have O0 := O0.wr W268 g_a
  have E_a := E_a.wr W268
  have F_modCount_a := F_modCount_a.other W268 (Or.inr (slot_ne (Or.inl (wd hw 25 rfl)) (Or.inl (wd hw 57 rfl)) (by decide) (t := .int) (t' := .int) (by decide) (by decide)))
  have F_elementData_a := F_elementData_a.other W268 (Or.inr (slot_ne (Or.inl (wd hw 28 rfl)) (Or.inl (wd hw 57 rfl)) (by decide) (t := (.array (.object "java/lang/Object"))) (t' := .int) (by decide) (by decide)))
  have F_size_a := F_size_a.same W268
  have V_ea := V_ea.other W268 ne_ea_a
  have E_x := E_x.wr W268
  have K0 := K0.wr W268 (Or.inl (by simp))
  have N268 := Fr.snoc X268 N267 g_a
  refine go st268 ?_
  show Run p e below _ (T268.setTop (mkF m 22 #[.val (.ref a), .val (.ref x), .val (.ref ea), .val (.int (2 : Int32))] []))
  exact endV X268 hx hlk hret (hb hby d_j38_m24_22) (by rw [e268]; exact ⟨rfl, N268, K0, E_a, F_modCount_a, F_elementData_a, F_size_a, V_ea⟩) (by decide) (by decide)
def Q_rm_add2_5 (Z : State) (a x ea : Addr) (ke : ClassId) (mc : Int32) (u0 u1 : Value)  (h0 : Heap) (n0 : Nat) (v : Option Value) (h : Heap) (L : List Loc) : Prop := v = some (.int 1) ∧ Fr n0 L ∧ Keep h0 h [a, ea] ∧ Exa Z h a "java/util/ArrayList" ∧ Fld Z h a "java/util/AbstractList" "modCount" "I" (.int (mc + (1 : Int32))) ∧ Fld Z h a "java/util/ArrayList" "elementData" "[Ljava/lang/Object;" (.ref ea) ∧ Fld Z h a "java/util/ArrayList" "size" "I" (.int (3 : Int32)) ∧ Arv Z h ea ke (.object "java/lang/Object") (10 : Int32) [u0, u1, (.ref x), .null, .null, .null, .null, .null, .null, .null] .null
set_option maxRecDepth 65536 in
set_option maxHeartbeats 40000000 in
theorem rm_add2_5 (l : Launch) (Z : State) (a0 : Array Value) (hw : ∀ d ∈ tables_1, d.before a0 Z = true) (ws : List Jvm.Cond) (a x ea : Addr) (ke : ClassId) (mc : Int32) (u0 u1 : Value)  (h0 : Heap) (n0 : Nat) (O0 : Old Z n0 h0) (E_a : Exa Z h0 a "java/util/ArrayList") (F_modCount_a : Fld Z h0 a "java/util/AbstractList" "modCount" "I" (.int mc)) (F_elementData_a : Fld Z h0 a "java/util/ArrayList" "elementData" "[Ljava/lang/Object;" (.ref ea)) (F_size_a : Fld Z h0 a "java/util/ArrayList" "size" "I" (.int (2 : Int32))) (V_ea : Arv Z h0 ea ke (.object "java/lang/Object") (10 : Int32) [u0, u1, .null, .null, .null, .null, .null, .null, .null, .null] .null) (Oe : Ovr Z ke "java/lang/Object") (g_a : n0 ≤ a) (g_ea : n0 ≤ ea) (ne_ea_a : ea ≠ a) (E_x : Exa Z h0 x "com/example/pipewright/pipewright/core/Word") (ne_x_a : x ≠ a) (ne_x_ea : x ≠ ea) :
    Meets l (⟨"java/util/ArrayList", "add", "(Ljava/lang/Object;)Z"⟩ : MethodName) jdk_38_method_25_code 2 (some .boolean) ws ({ frames := 1, cells := 0, slots := 0, locals := 15 } : Room) Z #[(.ref a), (.ref x)] h0 (Q_rm_add2_5 Z a x ea ke mc u0 u1 h0 n0) 0 0 := by
  refine enter (Ls := #[.val (.ref a), .val (.ref x)]) (plainFor_of_name pn_2) (fun m => by first | (simp [entryFrame, mkF, argsToLocals, Value.category]; done) | rfl) ?_
  intro p e s m below meth c T0 hx hby hml hown hnm hret hlk hZ X0 e0
  have N0 := Fr.nil n0
  replace hown : s.vm.findClass "java/util/ArrayList" = some m.cls := hown
  show Run p e below _ (T0.setTop (mkF m 0 #[.val (.ref a), .val (.ref x)] []))
  have K0 := Keep.refl h0 [a, ea]
  refine go (fun _ => XS.aloadN X0.here hx rfl (hb hby d_j38_m25_0) rfl rfl) ?_
  show Run p e below _ (T0.setTop (mkF m 1 #[.val (.ref a), .val (.ref x)] [(.ref a)]))
  refine go (fun _ => XS.dup X0.here hx rfl (hb hby d_j38_m25_1) rfl rfl) ?_
  show Run p e below _ (T0.setTop (mkF m 2 #[.val (.ref a), .val (.ref x)] [(.ref a), (.ref a)]))
  obtain ⟨T269, X269, e269, st269⟩ := getF X0 hx hZ hown (host := "") (Or.inl (wd hw 89 rfl)) (Via.of (wd hw 90 rfl)) e0 F_modCount_a (g := (mkF m 2 #[.val (.ref a), .val (.ref x)] [(.ref a), (.ref a)])) rfl rfl (hb hby d_j38_m25_2)
  refine go st269 ?_
  show Run p e below _ (T269.setTop (mkF m 5 #[.val (.ref a), .val (.ref x)] [(.int mc), (.ref a)]))
  refine go (fun _ => XS.iconst X269.here hx rfl (hb hby d_j38_m25_5)) ?_
  show Run p e below _ (T269.setTop (mkF m 6 #[.val (.ref a), .val (.ref x)] [(.int (1 : Int32)), (.int mc), (.ref a)]))
  refine go (fun _ => XS.iadd X269.here hx rfl (hb hby d_j38_m25_6) rfl) ?_
  show Run p e below _ (T269.setTop (mkF m 7 #[.val (.ref a), .val (.ref x)] [(.int (mc + (1 : Int32))), (.ref a)]))
  obtain ⟨T270, h270, X270, e270, W270, st270⟩ := putF X269 hx hZ hown (host := "") (Or.inl (wd hw 89 rfl)) (Via.of (wd hw 90 rfl)) e269 F_modCount_a E_a (Or.inl (wd hw 25 rfl)) (wd hw 4 rfl) (ty := .int) (by decide) rfl rfl (g := (mkF m 7 #[.val (.ref a), .val (.ref x)] [(.int (mc + (1 : Int32))), (.ref a)])) rfl rfl (hb hby d_j38_m25_7)
  have O0 := O0.wr W270 g_a
  have E_a := E_a.wr W270
  have F_modCount_a := F_modCount_a.same W270
  have F_elementData_a := F_elementData_a.other W270 (Or.inr (slot_ne (Or.inl (wd hw 28 rfl)) (Or.inl (wd hw 25 rfl)) (by decide) (t := (.array (.object "java/lang/Object"))) (t' := .int) (by decide) (by decide)))
  have F_size_a := F_size_a.other W270 (Or.inr (slot_ne (Or.inl (wd hw 57 rfl)) (Or.inl (wd hw 25 rfl)) (by decide) (t := .int) (t' := .int) (by decide) (by decide)))
  have V_ea := V_ea.other W270 ne_ea_a
  have E_x := E_x.wr W270
  have K0 := K0.wr W270 (Or.inl (by simp))
  have N270 := Fr.snoc X270 N0 g_a
  refine go st270 ?_
  show Run p e below _ (T270.setTop (mkF m 10 #[.val (.ref a), .val (.ref x)] []))
  refine go (fun _ => XS.aloadN X270.here hx rfl (hb hby d_j38_m25_10) rfl rfl) ?_
  show Run p e below _ (T270.setTop (mkF m 11 #[.val (.ref a), .val (.ref x)] [(.ref a)]))
  refine go (fun _ => XS.aloadN X270.here hx rfl (hb hby d_j38_m25_11) rfl rfl) ?_
  show Run p e below _ (T270.setTop (mkF m 12 #[.val (.ref a), .val (.ref x)] [(.ref x), (.ref a)]))
  refine go (fun _ => XS.aloadN X270.here hx rfl (hb hby d_j38_m25_12) rfl rfl) ?_
  show Run p e below _ (T270.setTop (mkF m 13 #[.val (.ref a), .val (.ref x)] [(.ref a), (.ref x), (.ref a)]))
  obtain ⟨T271, X271, e271, st271⟩ := getF X270 hx hZ hown (host := "") (Or.inl (wd hw 27 rfl)) Via.refl e270 F_elementData_a (g := (mkF m 13 #[.val (.ref a), .val (.ref x)] [(.ref a), (.ref x), (.ref a)])) rfl rfl (hb hby d_j38_m25_13)
  refine go st271 ?_
  show Run p e below _ (T271.setTop (mkF m 16 #[.val (.ref a), .val (.ref x)] [(.ref ea), (.ref x), (.ref a)]))
  refine go (fun _ => XS.aloadN X271.here hx rfl (hb hby d_j38_m25_16) rfl rfl) ?_
  show Run p e below _ (T271.setTop (mkF m 17 #[.val (.ref a), .val (.ref x)] [(.ref a), (.ref ea), (.ref x), (.ref a)]))
  obtain ⟨T272, X272, e272, st272⟩ := getF X271 hx hZ hown (host := "") (Or.inl (wd hw 56 rfl)) Via.refl e271 F_size_a (g := (mkF m 17 #[.val (.ref a), .val (.ref x)] [(.ref a), (.ref ea), (.ref x), (.ref a)])) rfl rfl (hb hby d_j38_m25_17)
  refine go st272 ?_
  show Run p e below _ (T272.setTop (mkF m 20 #[.val (.ref a), .val (.ref x)] [(.int (2 : Int32)), (.ref ea), (.ref x), (.ref a)]))
  refine callPr X272 hx hZ hown (wd hw 91 rfl) (wd hw 93 rfl) (wd hw 94 rfl) (wd hw 92 rfl) (wd hw 95 rfl) (wd hw 5 rfl) (by decide) e272 E_a (argsL := [(.ref x), (.ref ea), (.int (2 : Int32))]) (rest := []) (rm_addp2_5 l Z a0 hw [] a x ea ke (mc + (1 : Int32)) u0 u1  h270 n0 O0 E_a F_modCount_a F_elementData_a F_size_a V_ea Oe g_a g_ea ne_ea_a E_x ne_x_a ne_x_ea) (W := 0) (by decide) (by decide) (by decide) (by decide) (by rw [hml]; rfl) (lenOf pd_17 rfl) rfl (Nat.le_of_eq rfl) (hb hby d_j38_m25_20) ?_
  intro v273 T273 L273 h273 X273 e273 q273
  obtain ⟨rfl, n273, K273, E_a, F_modCount_a, F_elementData_a, F_size_a, V_ea⟩ := q273
  have O0 := O0.keep K273 (allS g_a (allS g_ea all0))
  have E_x := E_x.keep K273
  have K0 := K0.trans K273 (allS (Or.inl (by simp)) (allS (Or.inl (by simp)) all0))
  have N273 := Fr.app N270 n273
  show Run p e below _ (T273.setTop (mkF m 23 #[.val (.ref a), .val (.ref x)] []))
  refine go (fun _ => XS.iconst X273.here hx rfl (hb hby d_j38_m25_23)) ?_
  show Run p e below _ (T273.setTop (mkF m 24 #[.val (.ref a), .val (.ref x)] [(.int (1 : Int32))]))
  exact endN X273 hx hlk (t := .boolean) hret (by simp) (hb hby d_j38_m25_24) (by rw [e273]; exact ⟨rfl, N273, K0, E_a, F_modCount_a, F_elementData_a, F_size_a, V_ea⟩) (by decide) (by decide)
theorem pn_17 : plainName "com/example/pipewright/pipewright/core/CallIsEmptyPinLaw" = true := by first | (simp [plainName, overriddenIn]; done) | decide +kernel
def Q_rmlaw (p0 p1 : Int32) (wD : Addr) (kD : ClassId) (mr wEL wE : Addr) (h0 : Heap) (n0 : Nat) (v : Option Value) (h : Heap) (L : List Loc) : Prop := v = some (.int 1) ∧ Fr n0 L
set_option maxRecDepth 65536 in
set_option maxHeartbeats 40000000 in
theorem rmlaw (l : Launch) (Z : State) (a0 : Array Value) (hw : ∀ d ∈ tables_1, d.before a0 Z = true) (ws : List Jvm.Cond) (p0 p1 : Int32) (wD : Addr) (kD : ClassId) (mr wEL wE : Addr) (h0 : Heap) (n0 : Nat) (O0 : Old Z n0 h0) (S_DEFAULTCAPACITY_EMPTY_ELEMENTDATA : Sta Z Z.heap "java/util/ArrayList" "DEFAULTCAPACITY_EMPTY_ELEMENTDATA" "[Ljava/lang/Object;" (.ref wD)) (VD : Arv Z Z.heap wD kD (.object "java/lang/Object") (0 : Int32) [] .null) (S_EMPTY_LIST : Sta Z Z.heap "java/util/ImmutableCollections" "EMPTY_LIST" "Ljava/util/ImmutableCollections$ListN;" (.ref wEL)) (S_EMPTY : Sta Z Z.heap "java/util/ImmutableCollections" "EMPTY" "Ljava/lang/Object;" (.ref wE)) (Mr : Mir Z "[Ljava/lang/Object;" mr) (HE : IL Z Z.heap wEL true) :
    Meets l x code maxLocals ret ws room_1 Z #[(.int p0), (.int p1)] h0 (Q_rmlaw p0 p1 wD kD mr wEL wE h0 n0) 40 192 := by
  refine enter (Ls := #[.val (.int p0), .val (.int p1), .unset, .unset, .unset, .unset, .unset, .unset, .unset, .unset]) (plainFor_of_name pn_17) (fun m => by first | (simp [entryFrame, mkF, argsToLocals, Value.category, maxLocals]; done) | rfl) ?_
  intro p e s m below meth c T0 hx hby hml hown hnm hret hlk hZ X0 e0
  have N0 := Fr.nil n0
  replace hown : s.vm.findClass "com/example/pipewright/pipewright/core/CallIsEmptyPinLaw" = some m.cls := hown
  show Run p e below _ (T0.setTop (mkF m 0 #[.val (.int p0), .val (.int p1), .unset, .unset, .unset, .unset, .unset, .unset, .unset, .unset] []))
  refine go (fun _ => XS.iloadN X0.here hx rfl (hb hby at_0) rfl) ?_
  show Run p e below _ (T0.setTop (mkF m 1 #[.val (.int p0), .val (.int p1), .unset, .unset, .unset, .unset, .unset, .unset, .unset, .unset] [(.int p0)]))
  refine go (fun _ => XS.iconst X0.here hx rfl (hb hby at_1)) ?_
  show Run p e below _ (T0.setTop (mkF m 2 #[.val (.int p0), .val (.int p1), .unset, .unset, .unset, .unset, .unset, .unset, .unset, .unset] [(.int (3 : Int32)), (.int p0)]))
  refine go (fun _ => XS.iand X0.here hx rfl (hb hby at_2) rfl) ?_
  show Run p e below _ (T0.setTop (mkF m 3 #[.val (.int p0), .val (.int p1), .unset, .unset, .unset, .unset, .unset, .unset, .unset, .unset] [(.int (p0 &&& (3 : Int32)))]))
  refine go (fun _ => XS.istoreN X0.here hx rfl (hb hby at_3) rfl (l' := #[.val (.int p0), .val (.int p1), .val (.int (p0 &&& (3 : Int32))), .unset, .unset, .unset, .unset, .unset, .unset, .unset]) rfl) ?_
  show Run p e below _ (T0.setTop (mkF m 4 #[.val (.int p0), .val (.int p1), .val (.int (p0 &&& (3 : Int32))), .unset, .unset, .unset, .unset, .unset, .unset, .unset] []))
  refine go (fun _ => XS.iloadN X0.here hx rfl (hb hby at_4) rfl) ?_
  show Run p e below _ (T0.setTop (mkF m 5 #[.val (.int p0), .val (.int p1), .val (.int (p0 &&& (3 : Int32))), .unset, .unset, .unset, .unset, .unset, .unset, .unset] [(.int p1)]))
  refine go (fun _ => XS.iconst X0.here hx rfl (hb hby at_5)) ?_
  show Run p e below _ (T0.setTop (mkF m 6 #[.val (.int p0), .val (.int p1), .val (.int (p0 &&& (3 : Int32))), .unset, .unset, .unset, .unset, .unset, .unset, .unset] [(.int (3 : Int32)), (.int p1)]))
  refine go (fun _ => XS.iand X0.here hx rfl (hb hby at_6) rfl) ?_
  show Run p e below _ (T0.setTop (mkF m 7 #[.val (.int p0), .val (.int p1), .val (.int (p0 &&& (3 : Int32))), .unset, .unset, .unset, .unset, .unset, .unset, .unset] [(.int (p1 &&& (3 : Int32)))]))
  refine go (fun _ => XS.istoreN X0.here hx rfl (hb hby at_7) rfl (l' := #[.val (.int p0), .val (.int p1), .val (.int (p0 &&& (3 : Int32))), .val (.int (p1 &&& (3 : Int32))), .unset, .unset, .unset, .unset, .unset, .unset]) rfl) ?_
  show Run p e below _ (T0.setTop (mkF m 8 #[.val (.int p0), .val (.int p1), .val (.int (p0 &&& (3 : Int32))), .val (.int (p1 &&& (3 : Int32))), .unset, .unset, .unset, .unset, .unset, .unset] []))
  obtain ⟨T163, h163, X163, e163, E163, A163, D163, -, st163⟩ := newO X0 hx hZ hown (wd hw 0 rfl) (wd hw 1 rfl) (wd hw 2 rfl) e0 (g := (mkF m 8 #[.val (.int p0), .val (.int p1), .val (.int (p0 &&& (3 : Int32))), .val (.int (p1 &&& (3 : Int32))), .unset, .unset, .unset, .unset, .unset, .unset] [])) rfl (hb hby at_8) (by decide) (by decide)
  obtain ⟨b163, y163⟩ : ∃ z, z = h0.size := ⟨_, rfl⟩
  rw [← y163] at A163 D163 st163
  have g_b163 : n0 ≤ b163 := y163.symm ▸ old_sz O0
  have O0 := O0.ext E163
  have E_b163 := A163
  have F_parts_b163 : Fld Z h163 b163 "com/example/pipewright/pipewright/core/Word" "parts" "Ljava/util/List;" .null := D163 (Or.inr (wd hw 63 rfl)) (ty := (.object "java/util/List")) (by decide)
  refine go st163 ?_
  show Run p e below _ (T163.setTop (mkF m 11 #[.val (.int p0), .val (.int p1), .val (.int (p0 &&& (3 : Int32))), .val (.int (p1 &&& (3 : Int32))), .unset, .unset, .unset, .unset, .unset, .unset] [(.ref b163)]))
  refine go (fun _ => XS.dup X163.here hx rfl (hb hby at_11) rfl rfl) ?_
  show Run p e below _ (T163.setTop (mkF m 12 #[.val (.int p0), .val (.int p1), .val (.int (p0 &&& (3 : Int32))), .val (.int (p1 &&& (3 : Int32))), .unset, .unset, .unset, .unset, .unset, .unset] [(.ref b163), (.ref b163)]))
  obtain ⟨T164, h164, X164, e164, E164, A164, D164, -, st164⟩ := newO X163 hx hZ hown (wd hw 3 rfl) (wd hw 4 rfl) (wd hw 5 rfl) e163 (g := (mkF m 12 #[.val (.int p0), .val (.int p1), .val (.int (p0 &&& (3 : Int32))), .val (.int (p1 &&& (3 : Int32))), .unset, .unset, .unset, .unset, .unset, .unset] [(.ref b163), (.ref b163)])) rfl (hb hby at_12) (by decide) (by decide)
  obtain ⟨b164, y164⟩ : ∃ z, z = h163.size := ⟨_, rfl⟩
  rw [← y164] at A164 D164 st164
  have g_b164 : n0 ≤ b164 := y164.symm ▸ old_sz O0
  have ne_b163_b164 : b163 ≠ b164 := Nat.ne_of_lt (y164.symm ▸ E_b163.lt)
  have O0 := O0.ext E164
  have E_b163 := E_b163.ext E164
  have F_parts_b163 := F_parts_b163.ext E164
  have E_b164 := A164
  have F_modCount_b164 : Fld Z h164 b164 "java/util/AbstractList" "modCount" "I" (.int (0 : Int32)) := D164 (Or.inl (wd hw 25 rfl)) (ty := .int) (by decide)
  have F_elementData_b164 : Fld Z h164 b164 "java/util/ArrayList" "elementData" "[Ljava/lang/Object;" .null := D164 (Or.inl (wd hw 28 rfl)) (ty := (.array (.object "java/lang/Object"))) (by decide)
  have F_size_b164 : Fld Z h164 b164 "java/util/ArrayList" "size" "I" (.int (0 : Int32)) := D164 (Or.inl (wd hw 57 rfl)) (ty := .int) (by decide)
  refine go st164 ?_
  show Run p e below _ (T164.setTop (mkF m 15 #[.val (.int p0), .val (.int p1), .val (.int (p0 &&& (3 : Int32))), .val (.int (p1 &&& (3 : Int32))), .unset, .unset, .unset, .unset, .unset, .unset] [(.ref b164), (.ref b163), (.ref b163)]))
  refine go (fun _ => XS.dup X164.here hx rfl (hb hby at_15) rfl rfl) ?_
  show Run p e below _ (T164.setTop (mkF m 16 #[.val (.int p0), .val (.int p1), .val (.int (p0 &&& (3 : Int32))), .val (.int (p1 &&& (3 : Int32))), .unset, .unset, .unset, .unset, .unset, .unset] [(.ref b164), (.ref b164), (.ref b163), (.ref b163)]))
  refine callSp X164 hx hZ rfl hown (wd hw 6 rfl) (wd hw 7 rfl) (wd hw 8 rfl) (wd hw 5 rfl) (by decide) e164 (a := b164) (argsL := []) (rest := [(.ref b164), (.ref b163), (.ref b163)]) (rm_ali l Z a0 hw [] b164 wD h164 n0 O0 S_DEFAULTCAPACITY_EMPTY_ELEMENTDATA E_b164 F_modCount_b164 F_elementData_b164 F_size_b164 g_b164) (W := 3) (by decide) (by decide) (by decide) (by decide) (by rw [hml]; rfl) (lenOf pd_0 rfl) rfl (Nat.le_of_eq rfl) (hb hby at_16) ?_
  intro v165 T165 L165 h165 X165 e165 q165
  obtain ⟨rfl, n165, K165, E_b164, F_modCount_b164, F_elementData_b164, F_size_b164⟩ := q165
  have O0 := O0.keep K165 (allS g_b164 all0)
  have E_b163 := E_b163.keep K165
  have F_parts_b163 := F_parts_b163.keep K165 (ninS ne_b163_b164 nin0)
  have N165 := Fr.app N0 n165
  show Run p e below _ (T165.setTop (mkF m 19 #[.val (.int p0), .val (.int p1), .val (.int (p0 &&& (3 : Int32))), .val (.int (p1 &&& (3 : Int32))), .unset, .unset, .unset, .unset, .unset, .unset] [(.ref b164), (.ref b163), (.ref b163)]))
  refine callSp X165 hx hZ rfl hown (wd hw 29 rfl) (wd hw 30 rfl) (wd hw 31 rfl) (wd hw 2 rfl) (by decide) e165 (a := b163) (argsL := [(.ref b164)]) (rest := [(.ref b163)]) (rm_wd l Z a0 hw [] b163 b164 wD mr wEL wE kD h165 n0 O0 S_EMPTY_LIST S_EMPTY Mr HE E_b163 F_parts_b163 g_b163 E_b164 F_elementData_b164 F_size_b164) (W := 1) (by decide) (by decide) (by decide) (by decide) (by rw [hml]; rfl) (lenOf pd_14 rfl) rfl (Nat.le_of_eq rfl) (hb hby at_19) ?_
  intro v166 T166 L166 h166 X166 e166 q166
  obtain ⟨rfl, n166, K166, E_b163⟩ := q166
  have O0 := O0.keep K166 (allS g_b163 all0)
  have N166 := Fr.app N165 n166
  show Run p e below _ (T166.setTop (mkF m 22 #[.val (.int p0), .val (.int p1), .val (.int (p0 &&& (3 : Int32))), .val (.int (p1 &&& (3 : Int32))), .unset, .unset, .unset, .unset, .unset, .unset] [(.ref b163)]))
  refine go (fun _ => XS.astore X166.here hx rfl (hb hby at_22) rfl rfl (l' := #[.val (.int p0), .val (.int p1), .val (.int (p0 &&& (3 : Int32))), .val (.int (p1 &&& (3 : Int32))), .val (.ref b163), .unset, .unset, .unset, .unset, .unset]) rfl) ?_
  show Run p e below _ (T166.setTop (mkF m 24 #[.val (.int p0), .val (.int p1), .val (.int (p0 &&& (3 : Int32))), .val (.int (p1 &&& (3 : Int32))), .val (.ref b163), .unset, .unset, .unset, .unset, .unset] []))
  obtain ⟨T167, h167, X167, e167, E167, A167, D167, -, st167⟩ := newO X166 hx hZ hown (wd hw 64 rfl) (wd hw 65 rfl) (wd hw 66 rfl) e166 (g := (mkF m 24 #[.val (.int p0), .val (.int p1), .val (.int (p0 &&& (3 : Int32))), .val (.int (p1 &&& (3 : Int32))), .val (.ref b163), .unset, .unset, .unset, .unset, .unset] [])) rfl (hb hby at_24) (by decide) (by decide)
  obtain ⟨b167, y167⟩ : ∃ z, z = h166.size := ⟨_, rfl⟩
  rw [← y167] at A167 D167 st167
  have g_b167 : n0 ≤ b167 := y167.symm ▸ old_sz O0
  have ne_b163_b167 : b163 ≠ b167 := Nat.ne_of_lt (y167.symm ▸ E_b163.lt)
  have O0 := O0.ext E167
  have E_b163 := E_b163.ext E167
  have E_b167 := A167
  have F_direction_b167 : Fld Z h167 b167 "com/example/pipewright/pipewright/core/Call$Redirection" "direction" "Lcom/example/pipewright/pipewright/core/Call$Direction;" .null := D167 (Or.inr (wd hw 77 rfl)) (ty := (.object "com/example/pipewright/pipewright/core/Call$Direction")) (by decide)
  have F_file_b167 : Fld Z h167 b167 "com/example/pipewright/pipewright/core/Call$Redirection" "file" "Lcom/example/pipewright/pipewright/core/Word;" .null := D167 (Or.inr (wd hw 79 rfl)) (ty := (.object "com/example/pipewright/pipewright/core/Word")) (by decide)
  refine go st167 ?_
  show Run p e below _ (T167.setTop (mkF m 27 #[.val (.int p0), .val (.int p1), .val (.int (p0 &&& (3 : Int32))), .val (.int (p1 &&& (3 : Int32))), .val (.ref b163), .unset, .unset, .unset, .unset, .unset] [(.ref b167)]))
  refine go (fun _ => XS.dup X167.here hx rfl (hb hby at_27) rfl rfl) ?_
  show Run p e below _ (T167.setTop (mkF m 28 #[.val (.int p0), .val (.int p1), .val (.int (p0 &&& (3 : Int32))), .val (.int (p1 &&& (3 : Int32))), .val (.ref b163), .unset, .unset, .unset, .unset, .unset] [(.ref b167), (.ref b167)]))
  refine go (fun _ => XS.aconstNull X167.here hx rfl (hb hby at_28)) ?_
  show Run p e below _ (T167.setTop (mkF m 29 #[.val (.int p0), .val (.int p1), .val (.int (p0 &&& (3 : Int32))), .val (.int (p1 &&& (3 : Int32))), .val (.ref b163), .unset, .unset, .unset, .unset, .unset] [.null, (.ref b167), (.ref b167)]))
  refine go (fun _ => XS.aload X167.here hx rfl (hb hby at_29) rfl rfl) ?_
  show Run p e below _ (T167.setTop (mkF m 31 #[.val (.int p0), .val (.int p1), .val (.int (p0 &&& (3 : Int32))), .val (.int (p1 &&& (3 : Int32))), .val (.ref b163), .unset, .unset, .unset, .unset, .unset] [(.ref b163), .null, (.ref b167), (.ref b167)]))
  refine callSp X167 hx hZ rfl hown (wd hw 67 rfl) (wd hw 68 rfl) (wd hw 69 rfl) (wd hw 66 rfl) (by decide) e167 (a := b167) (argsL := [.null, (.ref b163)]) (rest := [(.ref b167)]) (rm_rd l Z a0 hw [] b167 b163 h167 n0 O0 E_b167 F_direction_b167 F_file_b167 g_b167) (W := 1) (by decide) (by decide) (by decide) (by decide) (by rw [hml]; rfl) (lenOf pd_15 rfl) rfl (Nat.le_of_eq rfl) (hb hby at_31) ?_
  intro v168 T168 L168 h168 X168 e168 q168
  obtain ⟨rfl, n168, K168, E_b167⟩ := q168
  have O0 := O0.keep K168 (allS g_b167 all0)
  have E_b163 := E_b163.keep K168
  have N168 := Fr.app N166 n168
  show Run p e below _ (T168.setTop (mkF m 34 #[.val (.int p0), .val (.int p1), .val (.int (p0 &&& (3 : Int32))), .val (.int (p1 &&& (3 : Int32))), .val (.ref b163), .unset, .unset, .unset, .unset, .unset] [(.ref b167)]))
  refine go (fun _ => XS.astore X168.here hx rfl (hb hby at_34) rfl rfl (l' := #[.val (.int p0), .val (.int p1), .val (.int (p0 &&& (3 : Int32))), .val (.int (p1 &&& (3 : Int32))), .val (.ref b163), .val (.ref b167), .unset, .unset, .unset, .unset]) rfl) ?_
  show Run p e below _ (T168.setTop (mkF m 36 #[.val (.int p0), .val (.int p1), .val (.int (p0 &&& (3 : Int32))), .val (.int (p1 &&& (3 : Int32))), .val (.ref b163), .val (.ref b167), .unset, .unset, .unset, .unset] []))
  obtain ⟨T169, h169, X169, e169, E169, A169, D169, -, st169⟩ := newO X168 hx hZ hown (wd hw 3 rfl) (wd hw 4 rfl) (wd hw 5 rfl) e168 (g := (mkF m 36 #[.val (.int p0), .val (.int p1), .val (.int (p0 &&& (3 : Int32))), .val (.int (p1 &&& (3 : Int32))), .val (.ref b163), .val (.ref b167), .unset, .unset, .unset, .unset] [])) rfl (hb hby at_36) (by decide) (by decide)
  obtain ⟨b169, y169⟩ : ∃ z, z = h168.size := ⟨_, rfl⟩
  rw [← y169] at A169 D169 st169
  have g_b169 : n0 ≤ b169 := y169.symm ▸ old_sz O0
  have ne_b163_b169 : b163 ≠ b169 := Nat.ne_of_lt (y169.symm ▸ E_b163.lt)
  have ne_b167_b169 : b167 ≠ b169 := Nat.ne_of_lt (y169.symm ▸ E_b167.lt)
  have O0 := O0.ext E169
  have E_b163 := E_b163.ext E169
  have E_b167 := E_b167.ext E169
  have E_b169 := A169
  have F_modCount_b169 : Fld Z h169 b169 "java/util/AbstractList" "modCount" "I" (.int (0 : Int32)) := D169 (Or.inl (wd hw 25 rfl)) (ty := .int) (by decide)
  have F_elementData_b169 : Fld Z h169 b169 "java/util/ArrayList" "elementData" "[Ljava/lang/Object;" .null := D169 (Or.inl (wd hw 28 rfl)) (ty := (.array (.object "java/lang/Object"))) (by decide)
  have F_size_b169 : Fld Z h169 b169 "java/util/ArrayList" "size" "I" (.int (0 : Int32)) := D169 (Or.inl (wd hw 57 rfl)) (ty := .int) (by decide)
  refine go st169 ?_
  show Run p e below _ (T169.setTop (mkF m 39 #[.val (.int p0), .val (.int p1), .val (.int (p0 &&& (3 : Int32))), .val (.int (p1 &&& (3 : Int32))), .val (.ref b163), .val (.ref b167), .unset, .unset, .unset, .unset] [(.ref b169)]))
  refine go (fun _ => XS.dup X169.here hx rfl (hb hby at_39) rfl rfl) ?_
  show Run p e below _ (T169.setTop (mkF m 40 #[.val (.int p0), .val (.int p1), .val (.int (p0 &&& (3 : Int32))), .val (.int (p1 &&& (3 : Int32))), .val (.ref b163), .val (.ref b167), .unset, .unset, .unset, .unset] [(.ref b169), (.ref b169)]))
  refine callSp X169 hx hZ rfl hown (wd hw 6 rfl) (wd hw 7 rfl) (wd hw 8 rfl) (wd hw 5 rfl) (by decide) e169 (a := b169) (argsL := []) (rest := [(.ref b169)]) (rm_ali l Z a0 hw [] b169 wD h169 n0 O0 S_DEFAULTCAPACITY_EMPTY_ELEMENTDATA E_b169 F_modCount_b169 F_elementData_b169 F_size_b169 g_b169) (W := 1) (by decide) (by decide) (by decide) (by decide) (by rw [hml]; rfl) (lenOf pd_0 rfl) rfl (Nat.le_of_eq rfl) (hb hby at_40) ?_
  intro v170 T170 L170 h170 X170 e170 q170
  obtain ⟨rfl, n170, K170, E_b169, F_modCount_b169, F_elementData_b169, F_size_b169⟩ := q170
  have O0 := O0.keep K170 (allS g_b169 all0)
  have E_b163 := E_b163.keep K170
  have E_b167 := E_b167.keep K170
  have N170 := Fr.app N168 n170
  show Run p e below _ (T170.setTop (mkF m 43 #[.val (.int p0), .val (.int p1), .val (.int (p0 &&& (3 : Int32))), .val (.int (p1 &&& (3 : Int32))), .val (.ref b163), .val (.ref b167), .unset, .unset, .unset, .unset] [(.ref b169)]))
  refine go (fun _ => XS.astore X170.here hx rfl (hb hby at_43) rfl rfl (l' := #[.val (.int p0), .val (.int p1), .val (.int (p0 &&& (3 : Int32))), .val (.int (p1 &&& (3 : Int32))), .val (.ref b163), .val (.ref b167), .val (.ref b169), .unset, .unset, .unset]) rfl) ?_
  show Run p e below _ (T170.setTop (mkF m 45 #[.val (.int p0), .val (.int p1), .val (.int (p0 &&& (3 : Int32))), .val (.int (p1 &&& (3 : Int32))), .val (.ref b163), .val (.ref b167), .val (.ref b169), .unset, .unset, .unset] []))
  obtain ⟨T171, h171, X171, e171, E171, A171, D171, -, st171⟩ := newO X170 hx hZ hown (wd hw 3 rfl) (wd hw 4 rfl) (wd hw 5 rfl) e170 (g := (mkF m 45 #[.val (.int p0), .val (.int p1), .val (.int (p0 &&& (3 : Int32))), .val (.int (p1 &&& (3 : Int32))), .val (.ref b163), .val (.ref b167), .val (.ref b169), .unset, .unset, .unset] [])) rfl (hb hby at_45) (by decide) (by decide)
  obtain ⟨b171, y171⟩ : ∃ z, z = h170.size := ⟨_, rfl⟩
  rw [← y171] at A171 D171 st171
  have g_b171 : n0 ≤ b171 := y171.symm ▸ old_sz O0
  have ne_b163_b171 : b163 ≠ b171 := Nat.ne_of_lt (y171.symm ▸ E_b163.lt)
  have ne_b167_b171 : b167 ≠ b171 := Nat.ne_of_lt (y171.symm ▸ E_b167.lt)
  have ne_b169_b171 : b169 ≠ b171 := Nat.ne_of_lt (y171.symm ▸ E_b169.lt)
  have O0 := O0.ext E171
  have E_b163 := E_b163.ext E171
  have E_b167 := E_b167.ext E171
  have E_b169 := E_b169.ext E171
  have F_modCount_b169 := F_modCount_b169.ext E171
  have F_elementData_b169 := F_elementData_b169.ext E171
  have F_size_b169 := F_size_b169.ext E171
  have E_b171 := A171
  have F_modCount_b171 : Fld Z h171 b171 "java/util/AbstractList" "modCount" "I" (.int (0 : Int32)) := D171 (Or.inl (wd hw 25 rfl)) (ty := .int) (by decide)
  have F_elementData_b171 : Fld Z h171 b171 "java/util/ArrayList" "elementData" "[Ljava/lang/Object;" .null := D171 (Or.inl (wd hw 28 rfl)) (ty := (.array (.object "java/lang/Object"))) (by decide)
  have F_size_b171 : Fld Z h171 b171 "java/util/ArrayList" "size" "I" (.int (0 : Int32)) := D171 (Or.inl (wd hw 57 rfl)) (ty := .int) (by decide)
  refine go st171 ?_
  show Run p e below _ (T171.setTop (mkF m 48 #[.val (.int p0), .val (.int p1), .val (.int (p0 &&& (3 : Int32))), .val (.int (p1 &&& (3 : Int32))), .val (.ref b163), .val (.ref b167), .val (.ref b169), .unset, .unset, .unset] [(.ref b171)]))
  refine go (fun _ => XS.dup X171.here hx rfl (hb hby at_48) rfl rfl) ?_
  show Run p e below _ (T171.setTop (mkF m 49 #[.val (.int p0), .val (.int p1), .val (.int (p0 &&& (3 : Int32))), .val (.int (p1 &&& (3 : Int32))), .val (.ref b163), .val (.ref b167), .val (.ref b169), .unset, .unset, .unset] [(.ref b171), (.ref b171)]))
  refine callSp X171 hx hZ rfl hown (wd hw 6 rfl) (wd hw 7 rfl) (wd hw 8 rfl) (wd hw 5 rfl) (by decide) e171 (a := b171) (argsL := []) (rest := [(.ref b171)]) (rm_ali l Z a0 hw [] b171 wD h171 n0 O0 S_DEFAULTCAPACITY_EMPTY_ELEMENTDATA E_b171 F_modCount_b171 F_elementData_b171 F_size_b171 g_b171) (W := 1) (by decide) (by decide) (by decide) (by decide) (by rw [hml]; rfl) (lenOf pd_0 rfl) rfl (Nat.le_of_eq rfl) (hb hby at_49) ?_
  intro v172 T172 L172 h172 X172 e172 q172
  obtain ⟨rfl, n172, K172, E_b171, F_modCount_b171, F_elementData_b171, F_size_b171⟩ := q172
  have O0 := O0.keep K172 (allS g_b171 all0)
  have E_b163 := E_b163.keep K172
  have E_b167 := E_b167.keep K172
  have E_b169 := E_b169.keep K172
  have F_modCount_b169 := F_modCount_b169.keep K172 (ninS ne_b169_b171 nin0)
  have F_elementData_b169 := F_elementData_b169.keep K172 (ninS ne_b169_b171 nin0)
  have F_size_b169 := F_size_b169.keep K172 (ninS ne_b169_b171 nin0)
  have N172 := Fr.app N170 n172
  show Run p e below _ (T172.setTop (mkF m 52 #[.val (.int p0), .val (.int p1), .val (.int (p0 &&& (3 : Int32))), .val (.int (p1 &&& (3 : Int32))), .val (.ref b163), .val (.ref b167), .val (.ref b169), .unset, .unset, .unset] [(.ref b171)]))
  refine go (fun _ => XS.astore X172.here hx rfl (hb hby at_52) rfl rfl (l' := #[.val (.int p0), .val (.int p1), .val (.int (p0 &&& (3 : Int32))), .val (.int (p1 &&& (3 : Int32))), .val (.ref b163), .val (.ref b167), .val (.ref b169), .val (.ref b171), .unset, .unset]) rfl) ?_
  show Run p e below _ (T172.setTop (mkF m 54 #[.val (.int p0), .val (.int p1), .val (.int (p0 &&& (3 : Int32))), .val (.int (p1 &&& (3 : Int32))), .val (.ref b163), .val (.ref b167), .val (.ref b169), .val (.ref b171), .unset, .unset] []))
  have J142 : ∀ (T173 : State) (L173 : List Loc) (h173 : Heap) (X173 : Stand p l e room_1 s m #[(.int p0), (.int p1)] below meth c T173 L173 20 100) (e173 : T173.heap = h173) (N173 : Fr n0 L173) (nw nr : Int32) (xw xr aw ar : Addr) (O0 : Old Z n0 h173) (H1 : ALS Z h173 aw xw nw) (H2 : ALS Z h173 ar xr nr) , Run p e below (Ends s (Q_rmlaw p0 p1 wD kD mr wEL wE h0 n0) 40 192) (T173.setTop (mkF m 142 #[.val (.int p0), .val (.int p1), .val (.int nw), .val (.int nr), .val (.ref xw), .val (.ref xr), .val (.ref aw), .val (.ref ar), .unset, .unset] [])) := by
    intro T173 L173 h173 X173 e173 N173 nw nr xw xr aw ar O0 H1 H2 
    refine go (fun _ => XS.iloadN X173.here hx rfl (hb hby at_142) rfl) ?_
    show Run p e below _ (T173.setTop (mkF m 143 #[.val (.int p0), .val (.int p1), .val (.int nw), .val (.int nr), .val (.ref xw), .val (.ref xr), .val (.ref aw), .val (.ref ar), .unset, .unset] [(.int nw)]))
    by_cases c174 : nw = 0
    · skip
      refine go (fun _ => XS.ifNo X173.here hx rfl (hb hby at_143) rfl ((if0 _ _).trans (teq c174).2)) ?_
      show Run p e below _ (T173.setTop (mkF m 146 #[.val (.int p0), .val (.int p1), .val (.int nw), .val (.int nr), .val (.ref xw), .val (.ref xr), .val (.ref aw), .val (.ref ar), .unset, .unset] []))
      refine go (fun _ => XS.iloadN X173.here hx rfl (hb hby at_146) rfl) ?_
      show Run p e below _ (T173.setTop (mkF m 147 #[.val (.int p0), .val (.int p1), .val (.int nw), .val (.int nr), .val (.ref xw), .val (.ref xr), .val (.ref aw), .val (.ref ar), .unset, .unset] [(.int nr)]))
      by_cases c175 : nr = 0
      · skip
        refine go (fun _ => XS.ifNo X173.here hx rfl (hb hby at_147) rfl ((if0 _ _).trans (teq c175).2)) ?_
        show Run p e below _ (T173.setTop (mkF m 150 #[.val (.int p0), .val (.int p1), .val (.int nw), .val (.int nr), .val (.ref xw), .val (.ref xr), .val (.ref aw), .val (.ref ar), .unset, .unset] []))
        refine go (fun _ => XS.iconst X173.here hx rfl (hb hby at_150)) ?_
        show Run p e below _ (T173.setTop (mkF m 151 #[.val (.int p0), .val (.int p1), .val (.int nw), .val (.int nr), .val (.ref xw), .val (.ref xr), .val (.ref aw), .val (.ref ar), .unset, .unset] [(.int (1 : Int32))]))
        refine go (fun _ => XS.goto X173.here hx rfl (pc0 := 151) (pc' := 155) rfl (hb hby at_151) (by decide) (by decide)) ?_
        show Run p e below _ (T173.setTop (mkF m 155 #[.val (.int p0), .val (.int p1), .val (.int nw), .val (.int nr), .val (.ref xw), .val (.ref xr), .val (.ref aw), .val (.ref ar), .unset, .unset] [(.int (1 : Int32))]))
        refine go (fun _ => XS.istore X173.here hx rfl (hb hby at_155) rfl (l' := #[.val (.int p0), .val (.int p1), .val (.int nw), .val (.int nr), .val (.ref xw), .val (.ref xr), .val (.ref aw), .val (.ref ar), .val (.int (1 : Int32)), .unset]) rfl) ?_
        show Run p e below _ (T173.setTop (mkF m 157 #[.val (.int p0), .val (.int p1), .val (.int nw), .val (.int nr), .val (.ref xw), .val (.ref xr), .val (.ref aw), .val (.ref ar), .val (.int (1 : Int32)), .unset] []))
        obtain ⟨T176, h176, X176, e176, E176, A176, D176, -, st176⟩ := newO X173 hx hZ hown (wd hw 113 rfl) (wd hw 114 rfl) (wd hw 115 rfl) e173 (g := (mkF m 157 #[.val (.int p0), .val (.int p1), .val (.int nw), .val (.int nr), .val (.ref xw), .val (.ref xr), .val (.ref aw), .val (.ref ar), .val (.int (1 : Int32)), .unset] [])) rfl (hb hby at_157) (by decide) (by decide)
        obtain ⟨b176, y176⟩ : ∃ z, z = h173.size := ⟨_, rfl⟩
        rw [← y176] at A176 D176 st176
        have g_b176 : n0 ≤ b176 := y176.symm ▸ old_sz O0
        have O0 := O0.ext E176
        have H1 := H1.keep0 ((Keep.refl _ _).ext E176)
        have H2 := H2.keep0 ((Keep.refl _ _).ext E176)
        have E_b176 := A176
        have F_words_b176 : Fld Z h176 b176 "com/example/pipewright/pipewright/core/Call" "words" "Ljava/util/List;" .null := D176 (Or.inr (wd hw 187 rfl)) (ty := (.object "java/util/List")) (by decide)
        have F_redirections_b176 : Fld Z h176 b176 "com/example/pipewright/pipewright/core/Call" "redirections" "Ljava/util/List;" .null := D176 (Or.inr (wd hw 189 rfl)) (ty := (.object "java/util/List")) (by decide)
        refine go st176 ?_
        show Run p e below _ (T176.setTop (mkF m 160 #[.val (.int p0), .val (.int p1), .val (.int nw), .val (.int nr), .val (.ref xw), .val (.ref xr), .val (.ref aw), .val (.ref ar), .val (.int (1 : Int32)), .unset] [(.ref b176)]))
        refine go (fun _ => XS.dup X176.here hx rfl (hb hby at_160) rfl rfl) ?_
        show Run p e below _ (T176.setTop (mkF m 161 #[.val (.int p0), .val (.int p1), .val (.int nw), .val (.int nr), .val (.ref xw), .val (.ref xr), .val (.ref aw), .val (.ref ar), .val (.int (1 : Int32)), .unset] [(.ref b176), (.ref b176)]))
        refine go (fun _ => XS.aload X176.here hx rfl (hb hby at_161) rfl rfl) ?_
        show Run p e below _ (T176.setTop (mkF m 163 #[.val (.int p0), .val (.int p1), .val (.int nw), .val (.int nr), .val (.ref xw), .val (.ref xr), .val (.ref aw), .val (.ref ar), .val (.int (1 : Int32)), .unset] [(.ref aw), (.ref b176), (.ref b176)]))
        refine go (fun _ => XS.aload X176.here hx rfl (hb hby at_163) rfl rfl) ?_
        show Run p e below _ (T176.setTop (mkF m 165 #[.val (.int p0), .val (.int p1), .val (.int nw), .val (.int nr), .val (.ref xw), .val (.ref xr), .val (.ref aw), .val (.ref ar), .val (.int (1 : Int32)), .unset] [(.ref ar), (.ref aw), (.ref b176), (.ref b176)]))
        refine callSp X176 hx hZ rfl hown (wd hw 116 rfl) (wd hw 117 rfl) (wd hw 118 rfl) (wd hw 115 rfl) (by decide) e176 (a := b176) (argsL := [(.ref aw), (.ref ar)]) (rest := [(.ref b176)]) (rm_cl l Z a0 hw [] b176 aw ar xw xr mr wEL wE nw nr h176 n0 O0 S_EMPTY_LIST S_EMPTY Mr HE E_b176 F_words_b176 F_redirections_b176 g_b176 H1 H2) (W := 1) (by decide) (by decide) (by decide) (by decide) (by rw [hml]; rfl) (lenOf pd_16 rfl) rfl (Nat.le_of_eq rfl) (hb hby at_165) ?_
        intro v177 T177 L177 h177 X177 e177 q177
        obtain ⟨rfl, n177, K177, E_b176, b1_, b2_, F_words_b176, F_redirections_b176, I1, I2⟩ := q177
        have O0 := O0.keep K177 (allS g_b176 all0)
        have N177 := Fr.app N173 n177
        show Run p e below _ (T177.setTop (mkF m 168 #[.val (.int p0), .val (.int p1), .val (.int nw), .val (.int nr), .val (.ref xw), .val (.ref xr), .val (.ref aw), .val (.ref ar), .val (.int (1 : Int32)), .unset] [(.ref b176)]))
        refine go (fun _ => XS.astore X177.here hx rfl (hb hby at_168) rfl rfl (l' := #[.val (.int p0), .val (.int p1), .val (.int nw), .val (.int nr), .val (.ref xw), .val (.ref xr), .val (.ref aw), .val (.ref ar), .val (.int (1 : Int32)), .val (.ref b176)]) rfl) ?_
        show Run p e below _ (T177.setTop (mkF m 170 #[.val (.int p0), .val (.int p1), .val (.int nw), .val (.int nr), .val (.ref xw), .val (.ref xr), .val (.ref aw), .val (.ref ar), .val (.int (1 : Int32)), .val (.ref b176)] []))
        refine go (fun _ => XS.aload X177.here hx rfl (hb hby at_170) rfl rfl) ?_
        show Run p e below _ (T177.setTop (mkF m 172 #[.val (.int p0), .val (.int p1), .val (.int nw), .val (.int nr), .val (.ref xw), .val (.ref xr), .val (.ref aw), .val (.ref ar), .val (.int (1 : Int32)), .val (.ref b176)] [(.ref b176)]))
        refine callVi X177 hx hZ hown (wd hw 190 rfl) (wd hw 191 rfl) (notFace_of_selects (args := #[]) (mvT hZ (wd hw 193 rfl))) (wd hw 193 rfl) (wd hw 192 rfl) (wd hw 194 rfl) (wd hw 115 rfl) (by decide) e177 E_b176 (argsL := []) (rest := []) (rm_cie l Z a0 hw [] b176 b1_ b2_ _ _ h177 n0 O0 F_words_b176 F_redirections_b176 I1 I2) (W := 0) (by decide) (by decide) (by decide) (by decide) (by rw [hml]; rfl) (lenOf pd_10 rfl) rfl (Nat.le_of_eq rfl) (hb hby at_172) ?_
        intro v178 T178 L178 h178 X178 e178 q178
        obtain ⟨rv, n178, k178⟩ := q178
        replace rv : v178 = some (.int (1 : Int32)) := by simpa [c174, c175] using rv
        subst rv
        have e178 := e178.trans k178
        have N178 := Fr.app N177 n178
        show Run p e below _ (T178.setTop (mkF m 175 #[.val (.int p0), .val (.int p1), .val (.int nw), .val (.int nr), .val (.ref xw), .val (.ref xr), .val (.ref aw), .val (.ref ar), .val (.int (1 : Int32)), .val (.ref b176)] [(.int (1 : Int32))]))
        refine go (fun _ => XS.iload X178.here hx rfl (hb hby at_175) rfl) ?_
        show Run p e below _ (T178.setTop (mkF m 177 #[.val (.int p0), .val (.int p1), .val (.int nw), .val (.int nr), .val (.ref xw), .val (.ref xr), .val (.ref aw), .val (.ref ar), .val (.int (1 : Int32)), .val (.ref b176)] [(.int (1 : Int32)), (.int (1 : Int32))]))
        refine go (fun _ => XS.icmpNo X178.here hx rfl (hb hby at_177) rfl (teq (by decide : (1 : Int32) = 1)).2) ?_
        show Run p e below _ (T178.setTop (mkF m 180 #[.val (.int p0), .val (.int p1), .val (.int nw), .val (.int nr), .val (.ref xw), .val (.ref xr), .val (.ref aw), .val (.ref ar), .val (.int (1 : Int32)), .val (.ref b176)] []))
        refine go (fun _ => XS.iconst X178.here hx rfl (hb hby at_180)) ?_
        show Run p e below _ (T178.setTop (mkF m 181 #[.val (.int p0), .val (.int p1), .val (.int nw), .val (.int nr), .val (.ref xw), .val (.ref xr), .val (.ref aw), .val (.ref ar), .val (.int (1 : Int32)), .val (.ref b176)] [(.int (1 : Int32))]))
        refine go (fun _ => XS.goto X178.here hx rfl (pc0 := 181) (pc' := 185) rfl (hb hby at_181) (by decide) (by decide)) ?_
        show Run p e below _ (T178.setTop (mkF m 185 #[.val (.int p0), .val (.int p1), .val (.int nw), .val (.int nr), .val (.ref xw), .val (.ref xr), .val (.ref aw), .val (.ref ar), .val (.int (1 : Int32)), .val (.ref b176)] [(.int (1 : Int32))]))
        exact endN X178 hx hlk (t := .boolean) hret (by simp) (hb hby at_185) (⟨rfl, N178⟩) (by decide) (by decide)
      · skip
        refine go (fun _ => XS.ifYes X173.here hx rfl (pc0 := 147) (pc' := 154) rfl (hb hby at_147) rfl ((if0 _ _).trans (feq c175).2) (by decide) (by decide)) ?_
        show Run p e below _ (T173.setTop (mkF m 154 #[.val (.int p0), .val (.int p1), .val (.int nw), .val (.int nr), .val (.ref xw), .val (.ref xr), .val (.ref aw), .val (.ref ar), .unset, .unset] []))
        refine go (fun _ => XS.iconst X173.here hx rfl (hb hby at_154)) ?_
        show Run p e below _ (T173.setTop (mkF m 155 #[.val (.int p0), .val (.int p1), .val (.int nw), .val (.int nr), .val (.ref xw), .val (.ref xr), .val (.ref aw), .val (.ref ar), .unset, .unset] [(.int (0 : Int32))]))
        refine go (fun _ => XS.istore X173.here hx rfl (hb hby at_155) rfl (l' := #[.val (.int p0), .val (.int p1), .val (.int nw), .val (.int nr), .val (.ref xw), .val (.ref xr), .val (.ref aw), .val (.ref ar), .val (.int (0 : Int32)), .unset]) rfl) ?_
        show Run p e below _ (T173.setTop (mkF m 157 #[.val (.int p0), .val (.int p1), .val (.int nw), .val (.int nr), .val (.ref xw), .val (.ref xr), .val (.ref aw), .val (.ref ar), .val (.int (0 : Int32)), .unset] []))
        obtain ⟨T179, h179, X179, e179, E179, A179, D179, -, st179⟩ := newO X173 hx hZ hown (wd hw 113 rfl) (wd hw 114 rfl) (wd hw 115 rfl) e173 (g := (mkF m 157 #[.val (.int p0), .val (.int p1), .val (.int nw), .val (.int nr), .val (.ref xw), .val (.ref xr), .val (.ref aw), .val (.ref ar), .val (.int (0 : Int32)), .unset] [])) rfl (hb hby at_157) (by decide) (by decide)
        obtain ⟨b179, y179⟩ : ∃ z, z = h173.size := ⟨_, rfl⟩
        rw [← y179] at A179 D179 st179
        have g_b179 : n0 ≤ b179 := y179.symm ▸ old_sz O0
        have O0 := O0.ext E179
        have H1 := H1.keep0 ((Keep.refl _ _).ext E179)
        have H2 := H2.keep0 ((Keep.refl _ _).ext E179)
        have E_b179 := A179
        have F_words_b179 : Fld Z h179 b179 "com/example/pipewright/pipewright/core/Call" "words" "Ljava/util/List;" .null := D179 (Or.inr (wd hw 187 rfl)) (ty := (.object "java/util/List")) (by decide)
        have F_redirections_b179 : Fld Z h179 b179 "com/example/pipewright/pipewright/core/Call" "redirections" "Ljava/util/List;" .null := D179 (Or.inr (wd hw 189 rfl)) (ty := (.object "java/util/List")) (by decide)
        refine go st179 ?_
        show Run p e below _ (T179.setTop (mkF m 160 #[.val (.int p0), .val (.int p1), .val (.int nw), .val (.int nr), .val (.ref xw), .val (.ref xr), .val (.ref aw), .val (.ref ar), .val (.int (0 : Int32)), .unset] [(.ref b179)]))
        refine go (fun _ => XS.dup X179.here hx rfl (hb hby at_160) rfl rfl) ?_
        show Run p e below _ (T179.setTop (mkF m 161 #[.val (.int p0), .val (.int p1), .val (.int nw), .val (.int nr), .val (.ref xw), .val (.ref xr), .val (.ref aw), .val (.ref ar), .val (.int (0 : Int32)), .unset] [(.ref b179), (.ref b179)]))
        refine go (fun _ => XS.aload X179.here hx rfl (hb hby at_161) rfl rfl) ?_
        show Run p e below _ (T179.setTop (mkF m 163 #[.val (.int p0), .val (.int p1), .val (.int nw), .val (.int nr), .val (.ref xw), .val (.ref xr), .val (.ref aw), .val (.ref ar), .val (.int (0 : Int32)), .unset] [(.ref aw), (.ref b179), (.ref b179)]))
        refine go (fun _ => XS.aload X179.here hx rfl (hb hby at_163) rfl rfl) ?_
        show Run p e below _ (T179.setTop (mkF m 165 #[.val (.int p0), .val (.int p1), .val (.int nw), .val (.int nr), .val (.ref xw), .val (.ref xr), .val (.ref aw), .val (.ref ar), .val (.int (0 : Int32)), .unset] [(.ref ar), (.ref aw), (.ref b179), (.ref b179)]))
        refine callSp X179 hx hZ rfl hown (wd hw 116 rfl) (wd hw 117 rfl) (wd hw 118 rfl) (wd hw 115 rfl) (by decide) e179 (a := b179) (argsL := [(.ref aw), (.ref ar)]) (rest := [(.ref b179)]) (rm_cl l Z a0 hw [] b179 aw ar xw xr mr wEL wE nw nr h179 n0 O0 S_EMPTY_LIST S_EMPTY Mr HE E_b179 F_words_b179 F_redirections_b179 g_b179 H1 H2) (W := 1) (by decide) (by decide) (by decide) (by decide) (by rw [hml]; rfl) (lenOf pd_16 rfl) rfl (Nat.le_of_eq rfl) (hb hby at_165) ?_
        intro v180 T180 L180 h180 X180 e180 q180
        obtain ⟨rfl, n180, K180, E_b179, b1_, b2_, F_words_b179, F_redirections_b179, I1, I2⟩ := q180
        have O0 := O0.keep K180 (allS g_b179 all0)
        have N180 := Fr.app N173 n180
        show Run p e below _ (T180.setTop (mkF m 168 #[.val (.int p0), .val (.int p1), .val (.int nw), .val (.int nr), .val (.ref xw), .val (.ref xr), .val (.ref aw), .val (.ref ar), .val (.int (0 : Int32)), .unset] [(.ref b179)]))
        refine go (fun _ => XS.astore X180.here hx rfl (hb hby at_168) rfl rfl (l' := #[.val (.int p0), .val (.int p1), .val (.int nw), .val (.int nr), .val (.ref xw), .val (.ref xr), .val (.ref aw), .val (.ref ar), .val (.int (0 : Int32)), .val (.ref b179)]) rfl) ?_
        show Run p e below _ (T180.setTop (mkF m 170 #[.val (.int p0), .val (.int p1), .val (.int nw), .val (.int nr), .val (.ref xw), .val (.ref xr), .val (.ref aw), .val (.ref ar), .val (.int (0 : Int32)), .val (.ref b179)] []))
        refine go (fun _ => XS.aload X180.here hx rfl (hb hby at_170) rfl rfl) ?_
        show Run p e below _ (T180.setTop (mkF m 172 #[.val (.int p0), .val (.int p1), .val (.int nw), .val (.int nr), .val (.ref xw), .val (.ref xr), .val (.ref aw), .val (.ref ar), .val (.int (0 : Int32)), .val (.ref b179)] [(.ref b179)]))
        refine callVi X180 hx hZ hown (wd hw 190 rfl) (wd hw 191 rfl) (notFace_of_selects (args := #[]) (mvT hZ (wd hw 193 rfl))) (wd hw 193 rfl) (wd hw 192 rfl) (wd hw 194 rfl) (wd hw 115 rfl) (by decide) e180 E_b179 (argsL := []) (rest := []) (rm_cie l Z a0 hw [] b179 b1_ b2_ _ _ h180 n0 O0 F_words_b179 F_redirections_b179 I1 I2) (W := 0) (by decide) (by decide) (by decide) (by decide) (by rw [hml]; rfl) (lenOf pd_10 rfl) rfl (Nat.le_of_eq rfl) (hb hby at_172) ?_
        intro v181 T181 L181 h181 X181 e181 q181
        obtain ⟨rv, n181, k181⟩ := q181
        replace rv : v181 = some (.int (0 : Int32)) := by simpa [c174, c175] using rv
        subst rv
        have e181 := e181.trans k181
        have N181 := Fr.app N180 n181
        show Run p e below _ (T181.setTop (mkF m 175 #[.val (.int p0), .val (.int p1), .val (.int nw), .val (.int nr), .val (.ref xw), .val (.ref xr), .val (.ref aw), .val (.ref ar), .val (.int (0 : Int32)), .val (.ref b179)] [(.int (0 : Int32))]))
        refine go (fun _ => XS.iload X181.here hx rfl (hb hby at_175) rfl) ?_
        show Run p e below _ (T181.setTop (mkF m 177 #[.val (.int p0), .val (.int p1), .val (.int nw), .val (.int nr), .val (.ref xw), .val (.ref xr), .val (.ref aw), .val (.ref ar), .val (.int (0 : Int32)), .val (.ref b179)] [(.int (0 : Int32)), (.int (0 : Int32))]))
        refine go (fun _ => XS.icmpNo X181.here hx rfl (hb hby at_177) rfl (teq (by decide : (0 : Int32) = 0)).2) ?_
        show Run p e below _ (T181.setTop (mkF m 180 #[.val (.int p0), .val (.int p1), .val (.int nw), .val (.int nr), .val (.ref xw), .val (.ref xr), .val (.ref aw), .val (.ref ar), .val (.int (0 : Int32)), .val (.ref b179)] []))
        refine go (fun _ => XS.iconst X181.here hx rfl (hb hby at_180)) ?_
        show Run p e below _ (T181.setTop (mkF m 181 #[.val (.int p0), .val (.int p1), .val (.int nw), .val (.int nr), .val (.ref xw), .val (.ref xr), .val (.ref aw), .val (.ref ar), .val (.int (0 : Int32)), .val (.ref b179)] [(.int (1 : Int32))]))
        refine go (fun _ => XS.goto X181.here hx rfl (pc0 := 181) (pc' := 185) rfl (hb hby at_181) (by decide) (by decide)) ?_
        show Run p e below _ (T181.setTop (mkF m 185 #[.val (.int p0), .val (.int p1), .val (.int nw), .val (.int nr), .val (.ref xw), .val (.ref xr), .val (.ref aw), .val (.ref ar), .val (.int (0 : Int32)), .val (.ref b179)] [(.int (1 : Int32))]))
        exact endN X181 hx hlk (t := .boolean) hret (by simp) (hb hby at_185) (⟨rfl, N181⟩) (by decide) (by decide)
    · skip
      refine go (fun _ => XS.ifYes X173.here hx rfl (pc0 := 143) (pc' := 154) rfl (hb hby at_143) rfl ((if0 _ _).trans (feq c174).2) (by decide) (by decide)) ?_
      show Run p e below _ (T173.setTop (mkF m 154 #[.val (.int p0), .val (.int p1), .val (.int nw), .val (.int nr), .val (.ref xw), .val (.ref xr), .val (.ref aw), .val (.ref ar), .unset, .unset] []))
      refine go (fun _ => XS.iconst X173.here hx rfl (hb hby at_154)) ?_
      show Run p e below _ (T173.setTop (mkF m 155 #[.val (.int p0), .val (.int p1), .val (.int nw), .val (.int nr), .val (.ref xw), .val (.ref xr), .val (.ref aw), .val (.ref ar), .unset, .unset] [(.int (0 : Int32))]))
      refine go (fun _ => XS.istore X173.here hx rfl (hb hby at_155) rfl (l' := #[.val (.int p0), .val (.int p1), .val (.int nw), .val (.int nr), .val (.ref xw), .val (.ref xr), .val (.ref aw), .val (.ref ar), .val (.int (0 : Int32)), .unset]) rfl) ?_
      show Run p e below _ (T173.setTop (mkF m 157 #[.val (.int p0), .val (.int p1), .val (.int nw), .val (.int nr), .val (.ref xw), .val (.ref xr), .val (.ref aw), .val (.ref ar), .val (.int (0 : Int32)), .unset] []))
      obtain ⟨T182, h182, X182, e182, E182, A182, D182, -, st182⟩ := newO X173 hx hZ hown (wd hw 113 rfl) (wd hw 114 rfl) (wd hw 115 rfl) e173 (g := (mkF m 157 #[.val (.int p0), .val (.int p1), .val (.int nw), .val (.int nr), .val (.ref xw), .val (.ref xr), .val (.ref aw), .val (.ref ar), .val (.int (0 : Int32)), .unset] [])) rfl (hb hby at_157) (by decide) (by decide)
      obtain ⟨b182, y182⟩ : ∃ z, z = h173.size := ⟨_, rfl⟩
      rw [← y182] at A182 D182 st182
      have g_b182 : n0 ≤ b182 := y182.symm ▸ old_sz O0
      have O0 := O0.ext E182
      have H1 := H1.keep0 ((Keep.refl _ _).ext E182)
      have H2 := H2.keep0 ((Keep.refl _ _).ext E182)
      have E_b182 := A182
      have F_words_b182 : Fld Z h182 b182 "com/example/pipewright/pipewright/core/Call" "words" "Ljava/util/List;" .null := D182 (Or.inr (wd hw 187 rfl)) (ty := (.object "java/util/List")) (by decide)
      have F_redirections_b182 : Fld Z h182 b182 "com/example/pipewright/pipewright/core/Call" "redirections" "Ljava/util/List;" .null := D182 (Or.inr (wd hw 189 rfl)) (ty := (.object "java/util/List")) (by decide)
      refine go st182 ?_
      show Run p e below _ (T182.setTop (mkF m 160 #[.val (.int p0), .val (.int p1), .val (.int nw), .val (.int nr), .val (.ref xw), .val (.ref xr), .val (.ref aw), .val (.ref ar), .val (.int (0 : Int32)), .unset] [(.ref b182)]))
      refine go (fun _ => XS.dup X182.here hx rfl (hb hby at_160) rfl rfl) ?_
      show Run p e below _ (T182.setTop (mkF m 161 #[.val (.int p0), .val (.int p1), .val (.int nw), .val (.int nr), .val (.ref xw), .val (.ref xr), .val (.ref aw), .val (.ref ar), .val (.int (0 : Int32)), .unset] [(.ref b182), (.ref b182)]))
      refine go (fun _ => XS.aload X182.here hx rfl (hb hby at_161) rfl rfl) ?_
      show Run p e below _ (T182.setTop (mkF m 163 #[.val (.int p0), .val (.int p1), .val (.int nw), .val (.int nr), .val (.ref xw), .val (.ref xr), .val (.ref aw), .val (.ref ar), .val (.int (0 : Int32)), .unset] [(.ref aw), (.ref b182), (.ref b182)]))
      refine go (fun _ => XS.aload X182.here hx rfl (hb hby at_163) rfl rfl) ?_
      show Run p e below _ (T182.setTop (mkF m 165 #[.val (.int p0), .val (.int p1), .val (.int nw), .val (.int nr), .val (.ref xw), .val (.ref xr), .val (.ref aw), .val (.ref ar), .val (.int (0 : Int32)), .unset] [(.ref ar), (.ref aw), (.ref b182), (.ref b182)]))
      refine callSp X182 hx hZ rfl hown (wd hw 116 rfl) (wd hw 117 rfl) (wd hw 118 rfl) (wd hw 115 rfl) (by decide) e182 (a := b182) (argsL := [(.ref aw), (.ref ar)]) (rest := [(.ref b182)]) (rm_cl l Z a0 hw [] b182 aw ar xw xr mr wEL wE nw nr h182 n0 O0 S_EMPTY_LIST S_EMPTY Mr HE E_b182 F_words_b182 F_redirections_b182 g_b182 H1 H2) (W := 1) (by decide) (by decide) (by decide) (by decide) (by rw [hml]; rfl) (lenOf pd_16 rfl) rfl (Nat.le_of_eq rfl) (hb hby at_165) ?_
      intro v183 T183 L183 h183 X183 e183 q183
      obtain ⟨rfl, n183, K183, E_b182, b1_, b2_, F_words_b182, F_redirections_b182, I1, I2⟩ := q183
      have O0 := O0.keep K183 (allS g_b182 all0)
      have N183 := Fr.app N173 n183
      show Run p e below _ (T183.setTop (mkF m 168 #[.val (.int p0), .val (.int p1), .val (.int nw), .val (.int nr), .val (.ref xw), .val (.ref xr), .val (.ref aw), .val (.ref ar), .val (.int (0 : Int32)), .unset] [(.ref b182)]))
      refine go (fun _ => XS.astore X183.here hx rfl (hb hby at_168) rfl rfl (l' := #[.val (.int p0), .val (.int p1), .val (.int nw), .val (.int nr), .val (.ref xw), .val (.ref xr), .val (.ref aw), .val (.ref ar), .val (.int (0 : Int32)), .val (.ref b182)]) rfl) ?_
      show Run p e below _ (T183.setTop (mkF m 170 #[.val (.int p0), .val (.int p1), .val (.int nw), .val (.int nr), .val (.ref xw), .val (.ref xr), .val (.ref aw), .val (.ref ar), .val (.int (0 : Int32)), .val (.ref b182)] []))
      refine go (fun _ => XS.aload X183.here hx rfl (hb hby at_170) rfl rfl) ?_
      show Run p e below _ (T183.setTop (mkF m 172 #[.val (.int p0), .val (.int p1), .val (.int nw), .val (.int nr), .val (.ref xw), .val (.ref xr), .val (.ref aw), .val (.ref ar), .val (.int (0 : Int32)), .val (.ref b182)] [(.ref b182)]))
      refine callVi X183 hx hZ hown (wd hw 190 rfl) (wd hw 191 rfl) (notFace_of_selects (args := #[]) (mvT hZ (wd hw 193 rfl))) (wd hw 193 rfl) (wd hw 192 rfl) (wd hw 194 rfl) (wd hw 115 rfl) (by decide) e183 E_b182 (argsL := []) (rest := []) (rm_cie l Z a0 hw [] b182 b1_ b2_ _ _ h183 n0 O0 F_words_b182 F_redirections_b182 I1 I2) (W := 0) (by decide) (by decide) (by decide) (by decide) (by rw [hml]; rfl) (lenOf pd_10 rfl) rfl (Nat.le_of_eq rfl) (hb hby at_172) ?_
      intro v184 T184 L184 h184 X184 e184 q184
      obtain ⟨rv, n184, k184⟩ := q184
      replace rv : v184 = some (.int (0 : Int32)) := by simpa [c174] using rv
      subst rv
      have e184 := e184.trans k184
      have N184 := Fr.app N183 n184
      show Run p e below _ (T184.setTop (mkF m 175 #[.val (.int p0), .val (.int p1), .val (.int nw), .val (.int nr), .val (.ref xw), .val (.ref xr), .val (.ref aw), .val (.ref ar), .val (.int (0 : Int32)), .val (.ref b182)] [(.int (0 : Int32))]))
      refine go (fun _ => XS.iload X184.here hx rfl (hb hby at_175) rfl) ?_
      show Run p e below _ (T184.setTop (mkF m 177 #[.val (.int p0), .val (.int p1), .val (.int nw), .val (.int nr), .val (.ref xw), .val (.ref xr), .val (.ref aw), .val (.ref ar), .val (.int (0 : Int32)), .val (.ref b182)] [(.int (0 : Int32)), (.int (0 : Int32))]))
      refine go (fun _ => XS.icmpNo X184.here hx rfl (hb hby at_177) rfl (teq (by decide : (0 : Int32) = 0)).2) ?_
      show Run p e below _ (T184.setTop (mkF m 180 #[.val (.int p0), .val (.int p1), .val (.int nw), .val (.int nr), .val (.ref xw), .val (.ref xr), .val (.ref aw), .val (.ref ar), .val (.int (0 : Int32)), .val (.ref b182)] []))
      refine go (fun _ => XS.iconst X184.here hx rfl (hb hby at_180)) ?_
      show Run p e below _ (T184.setTop (mkF m 181 #[.val (.int p0), .val (.int p1), .val (.int nw), .val (.int nr), .val (.ref xw), .val (.ref xr), .val (.ref aw), .val (.ref ar), .val (.int (0 : Int32)), .val (.ref b182)] [(.int (1 : Int32))]))
      refine go (fun _ => XS.goto X184.here hx rfl (pc0 := 181) (pc' := 185) rfl (hb hby at_181) (by decide) (by decide)) ?_
      show Run p e below _ (T184.setTop (mkF m 185 #[.val (.int p0), .val (.int p1), .val (.int nw), .val (.int nr), .val (.ref xw), .val (.ref xr), .val (.ref aw), .val (.ref ar), .val (.int (0 : Int32)), .val (.ref b182)] [(.int (1 : Int32))]))
      exact endN X184 hx hlk (t := .boolean) hret (by simp) (hb hby at_185) (⟨rfl, N184⟩) (by decide) (by decide)
  rcases own_and3 p0 with hz2 | hz2 | hz2 | hz2
  · skip
    rw [hz2]
    show Run p e below _ (T172.setTop (mkF m 54 #[.val (.int p0), .val (.int p1), .val (.int (0 : Int32)), .val (.int (p1 &&& (3 : Int32))), .val (.ref b163), .val (.ref b167), .val (.ref b169), .val (.ref b171), .unset, .unset] []))
    refine go (fun _ => XS.iloadN X172.here hx rfl (hb hby at_54) rfl) ?_
    show Run p e below _ (T172.setTop (mkF m 55 #[.val (.int p0), .val (.int p1), .val (.int (0 : Int32)), .val (.int (p1 &&& (3 : Int32))), .val (.ref b163), .val (.ref b167), .val (.ref b169), .val (.ref b171), .unset, .unset] [(.int (0 : Int32))]))
    refine go (fun _ => XS.ifYes X172.here hx rfl (pc0 := 55) (pc' := 68) rfl (hb hby at_55) rfl ((if0 _ _).trans (flt (by decide : ¬ ((0 : Int32) < 0))).2.2.2) (by decide) (by decide)) ?_
    show Run p e below _ (T172.setTop (mkF m 68 #[.val (.int p0), .val (.int p1), .val (.int (0 : Int32)), .val (.int (p1 &&& (3 : Int32))), .val (.ref b163), .val (.ref b167), .val (.ref b169), .val (.ref b171), .unset, .unset] []))
    refine go (fun _ => XS.iloadN X172.here hx rfl (hb hby at_68) rfl) ?_
    show Run p e below _ (T172.setTop (mkF m 69 #[.val (.int p0), .val (.int p1), .val (.int (0 : Int32)), .val (.int (p1 &&& (3 : Int32))), .val (.ref b163), .val (.ref b167), .val (.ref b169), .val (.ref b171), .unset, .unset] [(.int (0 : Int32))]))
    refine go (fun _ => XS.iconst X172.here hx rfl (hb hby at_69)) ?_
    show Run p e below _ (T172.setTop (mkF m 70 #[.val (.int p0), .val (.int p1), .val (.int (0 : Int32)), .val (.int (p1 &&& (3 : Int32))), .val (.ref b163), .val (.ref b167), .val (.ref b169), .val (.ref b171), .unset, .unset] [(.int (1 : Int32)), (.int (0 : Int32))]))
    refine go (fun _ => XS.icmpYes X172.here hx rfl (pc0 := 70) (pc' := 83) rfl (hb hby at_70) rfl (flt (by decide : ¬ ((1 : Int32) < 0))).2.2.2 (by decide) (by decide)) ?_
    show Run p e below _ (T172.setTop (mkF m 83 #[.val (.int p0), .val (.int p1), .val (.int (0 : Int32)), .val (.int (p1 &&& (3 : Int32))), .val (.ref b163), .val (.ref b167), .val (.ref b169), .val (.ref b171), .unset, .unset] []))
    refine go (fun _ => XS.iloadN X172.here hx rfl (hb hby at_83) rfl) ?_
    show Run p e below _ (T172.setTop (mkF m 84 #[.val (.int p0), .val (.int p1), .val (.int (0 : Int32)), .val (.int (p1 &&& (3 : Int32))), .val (.ref b163), .val (.ref b167), .val (.ref b169), .val (.ref b171), .unset, .unset] [(.int (0 : Int32))]))
    refine go (fun _ => XS.iconst X172.here hx rfl (hb hby at_84)) ?_
    show Run p e below _ (T172.setTop (mkF m 85 #[.val (.int p0), .val (.int p1), .val (.int (0 : Int32)), .val (.int (p1 &&& (3 : Int32))), .val (.ref b163), .val (.ref b167), .val (.ref b169), .val (.ref b171), .unset, .unset] [(.int (2 : Int32)), (.int (0 : Int32))]))
    refine go (fun _ => XS.icmpYes X172.here hx rfl (pc0 := 85) (pc' := 98) rfl (hb hby at_85) rfl (flt (by decide : ¬ ((2 : Int32) < 0))).2.2.2 (by decide) (by decide)) ?_
    show Run p e below _ (T172.setTop (mkF m 98 #[.val (.int p0), .val (.int p1), .val (.int (0 : Int32)), .val (.int (p1 &&& (3 : Int32))), .val (.ref b163), .val (.ref b167), .val (.ref b169), .val (.ref b171), .unset, .unset] []))
    rcases own_and3 p1 with hz3 | hz3 | hz3 | hz3
    · skip
      rw [hz3]
      show Run p e below _ (T172.setTop (mkF m 98 #[.val (.int p0), .val (.int p1), .val (.int (0 : Int32)), .val (.int (0 : Int32)), .val (.ref b163), .val (.ref b167), .val (.ref b169), .val (.ref b171), .unset, .unset] []))
      refine go (fun _ => XS.iloadN X172.here hx rfl (hb hby at_98) rfl) ?_
      show Run p e below _ (T172.setTop (mkF m 99 #[.val (.int p0), .val (.int p1), .val (.int (0 : Int32)), .val (.int (0 : Int32)), .val (.ref b163), .val (.ref b167), .val (.ref b169), .val (.ref b171), .unset, .unset] [(.int (0 : Int32))]))
      refine go (fun _ => XS.ifYes X172.here hx rfl (pc0 := 99) (pc' := 112) rfl (hb hby at_99) rfl ((if0 _ _).trans (flt (by decide : ¬ ((0 : Int32) < 0))).2.2.2) (by decide) (by decide)) ?_
      show Run p e below _ (T172.setTop (mkF m 112 #[.val (.int p0), .val (.int p1), .val (.int (0 : Int32)), .val (.int (0 : Int32)), .val (.ref b163), .val (.ref b167), .val (.ref b169), .val (.ref b171), .unset, .unset] []))
      refine go (fun _ => XS.iloadN X172.here hx rfl (hb hby at_112) rfl) ?_
      show Run p e below _ (T172.setTop (mkF m 113 #[.val (.int p0), .val (.int p1), .val (.int (0 : Int32)), .val (.int (0 : Int32)), .val (.ref b163), .val (.ref b167), .val (.ref b169), .val (.ref b171), .unset, .unset] [(.int (0 : Int32))]))
      refine go (fun _ => XS.iconst X172.here hx rfl (hb hby at_113)) ?_
      show Run p e below _ (T172.setTop (mkF m 114 #[.val (.int p0), .val (.int p1), .val (.int (0 : Int32)), .val (.int (0 : Int32)), .val (.ref b163), .val (.ref b167), .val (.ref b169), .val (.ref b171), .unset, .unset] [(.int (1 : Int32)), (.int (0 : Int32))]))
      refine go (fun _ => XS.icmpYes X172.here hx rfl (pc0 := 114) (pc' := 127) rfl (hb hby at_114) rfl (flt (by decide : ¬ ((1 : Int32) < 0))).2.2.2 (by decide) (by decide)) ?_
      show Run p e below _ (T172.setTop (mkF m 127 #[.val (.int p0), .val (.int p1), .val (.int (0 : Int32)), .val (.int (0 : Int32)), .val (.ref b163), .val (.ref b167), .val (.ref b169), .val (.ref b171), .unset, .unset] []))
      refine go (fun _ => XS.iloadN X172.here hx rfl (hb hby at_127) rfl) ?_
      show Run p e below _ (T172.setTop (mkF m 128 #[.val (.int p0), .val (.int p1), .val (.int (0 : Int32)), .val (.int (0 : Int32)), .val (.ref b163), .val (.ref b167), .val (.ref b169), .val (.ref b171), .unset, .unset] [(.int (0 : Int32))]))
      refine go (fun _ => XS.iconst X172.here hx rfl (hb hby at_128)) ?_
      show Run p e below _ (T172.setTop (mkF m 129 #[.val (.int p0), .val (.int p1), .val (.int (0 : Int32)), .val (.int (0 : Int32)), .val (.ref b163), .val (.ref b167), .val (.ref b169), .val (.ref b171), .unset, .unset] [(.int (2 : Int32)), (.int (0 : Int32))]))
      refine go (fun _ => XS.icmpYes X172.here hx rfl (pc0 := 129) (pc' := 142) rfl (hb hby at_129) rfl (flt (by decide : ¬ ((2 : Int32) < 0))).2.2.2 (by decide) (by decide)) ?_
      show Run p e below _ (T172.setTop (mkF m 142 #[.val (.int p0), .val (.int p1), .val (.int (0 : Int32)), .val (.int (0 : Int32)), .val (.ref b163), .val (.ref b167), .val (.ref b169), .val (.ref b171), .unset, .unset] []))
      exact J142 _ _ _ (smono X172 (by decide) (by decide)) e172 N172 (0 : Int32) (0 : Int32) b163 b167 b169 b171 O0 (⟨E_b169, (Ins.of_exa E_b163 (wd hw 204 rfl)), wD, kD, Or.inl ⟨rfl, F_elementData_b169, F_size_b169⟩⟩ : ALS Z h172 b169 b163 (0 : Int32)) (⟨E_b171, (Ins.of_exa E_b167 (wd hw 112 rfl)), wD, kD, Or.inl ⟨rfl, F_elementData_b171, F_size_b171⟩⟩ : ALS Z h172 b171 b167 (0 : Int32))
    · skip
      rw [hz3]
      show Run p e below _ (T172.setTop (mkF m 98 #[.val (.int p0), .val (.int p1), .val (.int (0 : Int32)), .val (.int (1 : Int32)), .val (.ref b163), .val (.ref b167), .val (.ref b169), .val (.ref b171), .unset, .unset] []))
      refine go (fun _ => XS.iloadN X172.here hx rfl (hb hby at_98) rfl) ?_
      show Run p e below _ (T172.setTop (mkF m 99 #[.val (.int p0), .val (.int p1), .val (.int (0 : Int32)), .val (.int (1 : Int32)), .val (.ref b163), .val (.ref b167), .val (.ref b169), .val (.ref b171), .unset, .unset] [(.int (1 : Int32))]))
      refine go (fun _ => XS.ifNo X172.here hx rfl (hb hby at_99) rfl ((if0 _ _).trans (tlt (by decide : (0 : Int32) < 1)).2.2.2)) ?_
      show Run p e below _ (T172.setTop (mkF m 102 #[.val (.int p0), .val (.int p1), .val (.int (0 : Int32)), .val (.int (1 : Int32)), .val (.ref b163), .val (.ref b167), .val (.ref b169), .val (.ref b171), .unset, .unset] []))
      refine go (fun _ => XS.aload X172.here hx rfl (hb hby at_102) rfl rfl) ?_
      show Run p e below _ (T172.setTop (mkF m 104 #[.val (.int p0), .val (.int p1), .val (.int (0 : Int32)), .val (.int (1 : Int32)), .val (.ref b163), .val (.ref b167), .val (.ref b169), .val (.ref b171), .unset, .unset] [(.ref b171)]))
      refine go (fun _ => XS.aload X172.here hx rfl (hb hby at_104) rfl rfl) ?_
      show Run p e below _ (T172.setTop (mkF m 106 #[.val (.int p0), .val (.int p1), .val (.int (0 : Int32)), .val (.int (1 : Int32)), .val (.ref b163), .val (.ref b167), .val (.ref b169), .val (.ref b171), .unset, .unset] [(.ref b167), (.ref b171)]))
      refine callIf X172 hx hZ hown (wd hw 80 rfl) (wd hw 81 rfl) (wd hw 82 rfl) rfl (wd hw 83 rfl) (wd hw 84 rfl) (wd hw 85 rfl) (wd hw 86 rfl) (wd hw 87 rfl) (wd hw 88 rfl) (wd hw 5 rfl) (by decide) e172 E_b171 (argsL := [(.ref b167)]) (rest := []) (rm_add0_0 l Z a0 hw [] b171 b167 wD kD (0 : Int32) h172 n0 O0 S_DEFAULTCAPACITY_EMPTY_ELEMENTDATA VD E_b171 F_modCount_b171 F_elementData_b171 F_size_b171 g_b171 E_b167 ne_b167_b171) (W := 0) (by decide) (by decide) (by decide) (by decide) (by rw [hml]; rfl) (lenOf pd_18 rfl) rfl (Nat.le_of_eq rfl) (hb hby at_106) ?_
      intro v196 T196 L196 h196 X196 e196 q196
      have lt197_b163 := E_b163.lt
      have lt197_b167 := E_b167.lt
      have lt197_b169 := E_b169.lt
      have lt197_b171 := E_b171.lt
      obtain ⟨b196, k196, rfl, n196, K196, sb196, g_b196, E_b171, F_modCount_b171, F_elementData_b171, F_size_b171, O196, V_b196, E_b196⟩ := q196
      have ne_b163_b196 : b163 ≠ b196 := Nat.ne_of_lt (Nat.lt_of_lt_of_le lt197_b163 sb196)
      have ne_b167_b196 : b167 ≠ b196 := Nat.ne_of_lt (Nat.lt_of_lt_of_le lt197_b167 sb196)
      have ne_b169_b196 : b169 ≠ b196 := Nat.ne_of_lt (Nat.lt_of_lt_of_le lt197_b169 sb196)
      have ne_b171_b196 : b171 ≠ b196 := Nat.ne_of_lt (Nat.lt_of_lt_of_le lt197_b171 sb196)
      have O0 := O0.keep K196 (allS g_b171 all0)
      have E_b163 := E_b163.keep K196
      have E_b167 := E_b167.keep K196
      have E_b169 := E_b169.keep K196
      have F_modCount_b169 := F_modCount_b169.keep K196 (ninS ne_b169_b171 nin0)
      have F_elementData_b169 := F_elementData_b169.keep K196 (ninS ne_b169_b171 nin0)
      have F_size_b169 := F_size_b169.keep K196 (ninS ne_b169_b171 nin0)
      have N196 := Fr.app N172 n196
      show Run p e below _ (T196.setTop (mkF m 111 #[.val (.int p0), .val (.int p1), .val (.int (0 : Int32)), .val (.int (1 : Int32)), .val (.ref b163), .val (.ref b167), .val (.ref b169), .val (.ref b171), .unset, .unset] [(.int (1 : Int32))]))
      refine go (fun _ => XS.pop X196.here hx rfl (hb hby at_111) rfl rfl) ?_
      show Run p e below _ (T196.setTop (mkF m 112 #[.val (.int p0), .val (.int p1), .val (.int (0 : Int32)), .val (.int (1 : Int32)), .val (.ref b163), .val (.ref b167), .val (.ref b169), .val (.ref b171), .unset, .unset] []))
      refine go (fun _ => XS.iloadN X196.here hx rfl (hb hby at_112) rfl) ?_
      show Run p e below _ (T196.setTop (mkF m 113 #[.val (.int p0), .val (.int p1), .val (.int (0 : Int32)), .val (.int (1 : Int32)), .val (.ref b163), .val (.ref b167), .val (.ref b169), .val (.ref b171), .unset, .unset] [(.int (1 : Int32))]))
      refine go (fun _ => XS.iconst X196.here hx rfl (hb hby at_113)) ?_
      show Run p e below _ (T196.setTop (mkF m 114 #[.val (.int p0), .val (.int p1), .val (.int (0 : Int32)), .val (.int (1 : Int32)), .val (.ref b163), .val (.ref b167), .val (.ref b169), .val (.ref b171), .unset, .unset] [(.int (1 : Int32)), (.int (1 : Int32))]))
      refine go (fun _ => XS.icmpYes X196.here hx rfl (pc0 := 114) (pc' := 127) rfl (hb hby at_114) rfl (flt (by decide : ¬ ((1 : Int32) < 1))).2.2.2 (by decide) (by decide)) ?_
      show Run p e below _ (T196.setTop (mkF m 127 #[.val (.int p0), .val (.int p1), .val (.int (0 : Int32)), .val (.int (1 : Int32)), .val (.ref b163), .val (.ref b167), .val (.ref b169), .val (.ref b171), .unset, .unset] []))
      refine go (fun _ => XS.iloadN X196.here hx rfl (hb hby at_127) rfl) ?_
      show Run p e below _ (T196.setTop (mkF m 128 #[.val (.int p0), .val (.int p1), .val (.int (0 : Int32)), .val (.int (1 : Int32)), .val (.ref b163), .val (.ref b167), .val (.ref b169), .val (.ref b171), .unset, .unset] [(.int (1 : Int32))]))
      refine go (fun _ => XS.iconst X196.here hx rfl (hb hby at_128)) ?_
      show Run p e below _ (T196.setTop (mkF m 129 #[.val (.int p0), .val (.int p1), .val (.int (0 : Int32)), .val (.int (1 : Int32)), .val (.ref b163), .val (.ref b167), .val (.ref b169), .val (.ref b171), .unset, .unset] [(.int (2 : Int32)), (.int (1 : Int32))]))
      refine go (fun _ => XS.icmpYes X196.here hx rfl (pc0 := 129) (pc' := 142) rfl (hb hby at_129) rfl (flt (by decide : ¬ ((2 : Int32) < 1))).2.2.2 (by decide) (by decide)) ?_
      show Run p e below _ (T196.setTop (mkF m 142 #[.val (.int p0), .val (.int p1), .val (.int (0 : Int32)), .val (.int (1 : Int32)), .val (.ref b163), .val (.ref b167), .val (.ref b169), .val (.ref b171), .unset, .unset] []))
      exact J142 _ _ _ (smono X196 (by decide) (by decide)) e196 N196 (0 : Int32) (1 : Int32) b163 b167 b169 b171 O0 (⟨E_b169, (Ins.of_exa E_b163 (wd hw 204 rfl)), wD, kD, Or.inl ⟨rfl, F_elementData_b169, F_size_b169⟩⟩ : ALS Z h196 b169 b163 (0 : Int32)) (⟨E_b171, (Ins.of_exa E_b167 (wd hw 112 rfl)), b196, k196, Or.inr (Or.inl ⟨rfl, F_elementData_b171, F_size_b171, V_b196, E_b196⟩)⟩ : ALS Z h196 b171 b167 (1 : Int32))
    · skip
      rw [hz3]
      show Run p e below _ (T172.setTop (mkF m 98 #[.val (.int p0), .val (.int p1), .val (.int (0 : Int32)), .val (.int (2 : Int32)), .val (.ref b163), .val (.ref b167), .val (.ref b169), .val (.ref b171), .unset, .unset] []))
      refine go (fun _ => XS.iloadN X172.here hx rfl (hb hby at_98) rfl) ?_
      show Run p e below _ (T172.setTop (mkF m 99 #[.val (.int p0), .val (.int p1), .val (.int (0 : Int32)), .val (.int (2 : Int32)), .val (.ref b163), .val (.ref b167), .val (.ref b169), .val (.ref b171), .unset, .unset] [(.int (2 : Int32))]))
      refine go (fun _ => XS.ifNo X172.here hx rfl (hb hby at_99) rfl ((if0 _ _).trans (tlt (by decide : (0 : Int32) < 2)).2.2.2)) ?_
      show Run p e below _ (T172.setTop (mkF m 102 #[.val (.int p0), .val (.int p1), .val (.int (0 : Int32)), .val (.int (2 : Int32)), .val (.ref b163), .val (.ref b167), .val (.ref b169), .val (.ref b171), .unset, .unset] []))
      refine go (fun _ => XS.aload X172.here hx rfl (hb hby at_102) rfl rfl) ?_
      show Run p e below _ (T172.setTop (mkF m 104 #[.val (.int p0), .val (.int p1), .val (.int (0 : Int32)), .val (.int (2 : Int32)), .val (.ref b163), .val (.ref b167), .val (.ref b169), .val (.ref b171), .unset, .unset] [(.ref b171)]))
      refine go (fun _ => XS.aload X172.here hx rfl (hb hby at_104) rfl rfl) ?_
      show Run p e below _ (T172.setTop (mkF m 106 #[.val (.int p0), .val (.int p1), .val (.int (0 : Int32)), .val (.int (2 : Int32)), .val (.ref b163), .val (.ref b167), .val (.ref b169), .val (.ref b171), .unset, .unset] [(.ref b167), (.ref b171)]))
      refine callIf X172 hx hZ hown (wd hw 80 rfl) (wd hw 81 rfl) (wd hw 82 rfl) rfl (wd hw 83 rfl) (wd hw 84 rfl) (wd hw 85 rfl) (wd hw 86 rfl) (wd hw 87 rfl) (wd hw 88 rfl) (wd hw 5 rfl) (by decide) e172 E_b171 (argsL := [(.ref b167)]) (rest := []) (rm_add0_0 l Z a0 hw [] b171 b167 wD kD (0 : Int32) h172 n0 O0 S_DEFAULTCAPACITY_EMPTY_ELEMENTDATA VD E_b171 F_modCount_b171 F_elementData_b171 F_size_b171 g_b171 E_b167 ne_b167_b171) (W := 0) (by decide) (by decide) (by decide) (by decide) (by rw [hml]; rfl) (lenOf pd_18 rfl) rfl (Nat.le_of_eq rfl) (hb hby at_106) ?_
      intro v198 T198 L198 h198 X198 e198 q198
      have lt199_b163 := E_b163.lt
      have lt199_b167 := E_b167.lt
      have lt199_b169 := E_b169.lt
      have lt199_b171 := E_b171.lt
      obtain ⟨b198, k198, rfl, n198, K198, sb198, g_b198, E_b171, F_modCount_b171, F_elementData_b171, F_size_b171, O198, V_b198, E_b198⟩ := q198
      have ne_b163_b198 : b163 ≠ b198 := Nat.ne_of_lt (Nat.lt_of_lt_of_le lt199_b163 sb198)
      have ne_b167_b198 : b167 ≠ b198 := Nat.ne_of_lt (Nat.lt_of_lt_of_le lt199_b167 sb198)
      have ne_b169_b198 : b169 ≠ b198 := Nat.ne_of_lt (Nat.lt_of_lt_of_le lt199_b169 sb198)
      have ne_b171_b198 : b171 ≠ b198 := Nat.ne_of_lt (Nat.lt_of_lt_of_le lt199_b171 sb198)
      have O0 := O0.keep K198 (allS g_b171 all0)
      have E_b163 := E_b163.keep K198
      have E_b167 := E_b167.keep K198
      have E_b169 := E_b169.keep K198
      have F_modCount_b169 := F_modCount_b169.keep K198 (ninS ne_b169_b171 nin0)
      have F_elementData_b169 := F_elementData_b169.keep K198 (ninS ne_b169_b171 nin0)
      have F_size_b169 := F_size_b169.keep K198 (ninS ne_b169_b171 nin0)
      have N198 := Fr.app N172 n198
      show Run p e below _ (T198.setTop (mkF m 111 #[.val (.int p0), .val (.int p1), .val (.int (0 : Int32)), .val (.int (2 : Int32)), .val (.ref b163), .val (.ref b167), .val (.ref b169), .val (.ref b171), .unset, .unset] [(.int (1 : Int32))]))
      refine go (fun _ => XS.pop X198.here hx rfl (hb hby at_111) rfl rfl) ?_
      show Run p e below _ (T198.setTop (mkF m 112 #[.val (.int p0), .val (.int p1), .val (.int (0 : Int32)), .val (.int (2 : Int32)), .val (.ref b163), .val (.ref b167), .val (.ref b169), .val (.ref b171), .unset, .unset] []))
      refine go (fun _ => XS.iloadN X198.here hx rfl (hb hby at_112) rfl) ?_
      show Run p e below _ (T198.setTop (mkF m 113 #[.val (.int p0), .val (.int p1), .val (.int (0 : Int32)), .val (.int (2 : Int32)), .val (.ref b163), .val (.ref b167), .val (.ref b169), .val (.ref b171), .unset, .unset] [(.int (2 : Int32))]))
      refine go (fun _ => XS.iconst X198.here hx rfl (hb hby at_113)) ?_
      show Run p e below _ (T198.setTop (mkF m 114 #[.val (.int p0), .val (.int p1), .val (.int (0 : Int32)), .val (.int (2 : Int32)), .val (.ref b163), .val (.ref b167), .val (.ref b169), .val (.ref b171), .unset, .unset] [(.int (1 : Int32)), (.int (2 : Int32))]))
      refine go (fun _ => XS.icmpNo X198.here hx rfl (hb hby at_114) rfl (tlt (by decide : (1 : Int32) < 2)).2.2.2) ?_
      show Run p e below _ (T198.setTop (mkF m 117 #[.val (.int p0), .val (.int p1), .val (.int (0 : Int32)), .val (.int (2 : Int32)), .val (.ref b163), .val (.ref b167), .val (.ref b169), .val (.ref b171), .unset, .unset] []))
      refine go (fun _ => XS.aload X198.here hx rfl (hb hby at_117) rfl rfl) ?_
      show Run p e below _ (T198.setTop (mkF m 119 #[.val (.int p0), .val (.int p1), .val (.int (0 : Int32)), .val (.int (2 : Int32)), .val (.ref b163), .val (.ref b167), .val (.ref b169), .val (.ref b171), .unset, .unset] [(.ref b171)]))
      refine go (fun _ => XS.aload X198.here hx rfl (hb hby at_119) rfl rfl) ?_
      show Run p e below _ (T198.setTop (mkF m 121 #[.val (.int p0), .val (.int p1), .val (.int (0 : Int32)), .val (.int (2 : Int32)), .val (.ref b163), .val (.ref b167), .val (.ref b169), .val (.ref b171), .unset, .unset] [(.ref b167), (.ref b171)]))
      refine callIf X198 hx hZ hown (wd hw 80 rfl) (wd hw 81 rfl) (wd hw 82 rfl) rfl (wd hw 83 rfl) (wd hw 84 rfl) (wd hw 85 rfl) (wd hw 86 rfl) (wd hw 87 rfl) (wd hw 88 rfl) (wd hw 5 rfl) (by decide) e198 E_b171 (argsL := [(.ref b167)]) (rest := []) (rm_add1_1 l Z a0 hw [] b171 b167 b198 k198 ((0 : Int32) + (1 : Int32)) (.ref b167) h198 n0 O0 E_b171 F_modCount_b171 F_elementData_b171 F_size_b171 V_b198 O198 g_b171 g_b198 (Ne.symm ne_b171_b198) E_b167 ne_b167_b171 ne_b167_b198) (W := 0) (by decide) (by decide) (by decide) (by decide) (by rw [hml]; rfl) (lenOf pd_18 rfl) rfl (Nat.le_of_eq rfl) (hb hby at_121) ?_
      intro v208 T208 L208 h208 X208 e208 q208
      obtain ⟨rfl, n208, K208, E_b171, F_modCount_b171, F_elementData_b171, F_size_b171, V_b198⟩ := q208
      have O0 := O0.keep K208 (allS g_b171 (allS g_b198 all0))
      have E_b163 := E_b163.keep K208
      have E_b167 := E_b167.keep K208
      have E_b169 := E_b169.keep K208
      have F_modCount_b169 := F_modCount_b169.keep K208 (ninS ne_b169_b171 (ninS ne_b169_b198 nin0))
      have F_elementData_b169 := F_elementData_b169.keep K208 (ninS ne_b169_b171 (ninS ne_b169_b198 nin0))
      have F_size_b169 := F_size_b169.keep K208 (ninS ne_b169_b171 (ninS ne_b169_b198 nin0))
      have E_b198 := E_b198.keep K208
      have N208 := Fr.app N198 n208
      show Run p e below _ (T208.setTop (mkF m 126 #[.val (.int p0), .val (.int p1), .val (.int (0 : Int32)), .val (.int (2 : Int32)), .val (.ref b163), .val (.ref b167), .val (.ref b169), .val (.ref b171), .unset, .unset] [(.int (1 : Int32))]))
      refine go (fun _ => XS.pop X208.here hx rfl (hb hby at_126) rfl rfl) ?_
      show Run p e below _ (T208.setTop (mkF m 127 #[.val (.int p0), .val (.int p1), .val (.int (0 : Int32)), .val (.int (2 : Int32)), .val (.ref b163), .val (.ref b167), .val (.ref b169), .val (.ref b171), .unset, .unset] []))
      refine go (fun _ => XS.iloadN X208.here hx rfl (hb hby at_127) rfl) ?_
      show Run p e below _ (T208.setTop (mkF m 128 #[.val (.int p0), .val (.int p1), .val (.int (0 : Int32)), .val (.int (2 : Int32)), .val (.ref b163), .val (.ref b167), .val (.ref b169), .val (.ref b171), .unset, .unset] [(.int (2 : Int32))]))
      refine go (fun _ => XS.iconst X208.here hx rfl (hb hby at_128)) ?_
      show Run p e below _ (T208.setTop (mkF m 129 #[.val (.int p0), .val (.int p1), .val (.int (0 : Int32)), .val (.int (2 : Int32)), .val (.ref b163), .val (.ref b167), .val (.ref b169), .val (.ref b171), .unset, .unset] [(.int (2 : Int32)), (.int (2 : Int32))]))
      refine go (fun _ => XS.icmpYes X208.here hx rfl (pc0 := 129) (pc' := 142) rfl (hb hby at_129) rfl (flt (by decide : ¬ ((2 : Int32) < 2))).2.2.2 (by decide) (by decide)) ?_
      show Run p e below _ (T208.setTop (mkF m 142 #[.val (.int p0), .val (.int p1), .val (.int (0 : Int32)), .val (.int (2 : Int32)), .val (.ref b163), .val (.ref b167), .val (.ref b169), .val (.ref b171), .unset, .unset] []))
      exact J142 _ _ _ (smono X208 (by decide) (by decide)) e208 N208 (0 : Int32) (2 : Int32) b163 b167 b169 b171 O0 (⟨E_b169, (Ins.of_exa E_b163 (wd hw 204 rfl)), wD, kD, Or.inl ⟨rfl, F_elementData_b169, F_size_b169⟩⟩ : ALS Z h208 b169 b163 (0 : Int32)) (⟨E_b171, (Ins.of_exa E_b167 (wd hw 112 rfl)), b198, k198, Or.inr (Or.inr (Or.inl ⟨rfl, F_elementData_b171, F_size_b171, V_b198, E_b198⟩))⟩ : ALS Z h208 b171 b167 (2 : Int32))
    · skip
      rw [hz3]
      show Run p e below _ (T172.setTop (mkF m 98 #[.val (.int p0), .val (.int p1), .val (.int (0 : Int32)), .val (.int (3 : Int32)), .val (.ref b163), .val (.ref b167), .val (.ref b169), .val (.ref b171), .unset, .unset] []))
      refine go (fun _ => XS.iloadN X172.here hx rfl (hb hby at_98) rfl) ?_
      show Run p e below _ (T172.setTop (mkF m 99 #[.val (.int p0), .val (.int p1), .val (.int (0 : Int32)), .val (.int (3 : Int32)), .val (.ref b163), .val (.ref b167), .val (.ref b169), .val (.ref b171), .unset, .unset] [(.int (3 : Int32))]))
      refine go (fun _ => XS.ifNo X172.here hx rfl (hb hby at_99) rfl ((if0 _ _).trans (tlt (by decide : (0 : Int32) < 3)).2.2.2)) ?_
      show Run p e below _ (T172.setTop (mkF m 102 #[.val (.int p0), .val (.int p1), .val (.int (0 : Int32)), .val (.int (3 : Int32)), .val (.ref b163), .val (.ref b167), .val (.ref b169), .val (.ref b171), .unset, .unset] []))
      refine go (fun _ => XS.aload X172.here hx rfl (hb hby at_102) rfl rfl) ?_
      show Run p e below _ (T172.setTop (mkF m 104 #[.val (.int p0), .val (.int p1), .val (.int (0 : Int32)), .val (.int (3 : Int32)), .val (.ref b163), .val (.ref b167), .val (.ref b169), .val (.ref b171), .unset, .unset] [(.ref b171)]))
      refine go (fun _ => XS.aload X172.here hx rfl (hb hby at_104) rfl rfl) ?_
      show Run p e below _ (T172.setTop (mkF m 106 #[.val (.int p0), .val (.int p1), .val (.int (0 : Int32)), .val (.int (3 : Int32)), .val (.ref b163), .val (.ref b167), .val (.ref b169), .val (.ref b171), .unset, .unset] [(.ref b167), (.ref b171)]))
      refine callIf X172 hx hZ hown (wd hw 80 rfl) (wd hw 81 rfl) (wd hw 82 rfl) rfl (wd hw 83 rfl) (wd hw 84 rfl) (wd hw 85 rfl) (wd hw 86 rfl) (wd hw 87 rfl) (wd hw 88 rfl) (wd hw 5 rfl) (by decide) e172 E_b171 (argsL := [(.ref b167)]) (rest := []) (rm_add0_0 l Z a0 hw [] b171 b167 wD kD (0 : Int32) h172 n0 O0 S_DEFAULTCAPACITY_EMPTY_ELEMENTDATA VD E_b171 F_modCount_b171 F_elementData_b171 F_size_b171 g_b171 E_b167 ne_b167_b171) (W := 0) (by decide) (by decide) (by decide) (by decide) (by rw [hml]; rfl) (lenOf pd_18 rfl) rfl (Nat.le_of_eq rfl) (hb hby at_106) ?_
      intro v209 T209 L209 h209 X209 e209 q209
      have lt210_b163 := E_b163.lt
      have lt210_b167 := E_b167.lt
      have lt210_b169 := E_b169.lt
      have lt210_b171 := E_b171.lt
      obtain ⟨b209, k209, rfl, n209, K209, sb209, g_b209, E_b171, F_modCount_b171, F_elementData_b171, F_size_b171, O209, V_b209, E_b209⟩ := q209
      have ne_b163_b209 : b163 ≠ b209 := Nat.ne_of_lt (Nat.lt_of_lt_of_le lt210_b163 sb209)
      have ne_b167_b209 : b167 ≠ b209 := Nat.ne_of_lt (Nat.lt_of_lt_of_le lt210_b167 sb209)
      have ne_b169_b209 : b169 ≠ b209 := Nat.ne_of_lt (Nat.lt_of_lt_of_le lt210_b169 sb209)
      have ne_b171_b209 : b171 ≠ b209 := Nat.ne_of_lt (Nat.lt_of_lt_of_le lt210_b171 sb209)
      have O0 := O0.keep K209 (allS g_b171 all0)
      have E_b163 := E_b163.keep K209
      have E_b167 := E_b167.keep K209
      have E_b169 := E_b169.keep K209
      have F_modCount_b169 := F_modCount_b169.keep K209 (ninS ne_b169_b171 nin0)
      have F_elementData_b169 := F_elementData_b169.keep K209 (ninS ne_b169_b171 nin0)
      have F_size_b169 := F_size_b169.keep K209 (ninS ne_b169_b171 nin0)
      have N209 := Fr.app N172 n209
      show Run p e below _ (T209.setTop (mkF m 111 #[.val (.int p0), .val (.int p1), .val (.int (0 : Int32)), .val (.int (3 : Int32)), .val (.ref b163), .val (.ref b167), .val (.ref b169), .val (.ref b171), .unset, .unset] [(.int (1 : Int32))]))
      refine go (fun _ => XS.pop X209.here hx rfl (hb hby at_111) rfl rfl) ?_
      show Run p e below _ (T209.setTop (mkF m 112 #[.val (.int p0), .val (.int p1), .val (.int (0 : Int32)), .val (.int (3 : Int32)), .val (.ref b163), .val (.ref b167), .val (.ref b169), .val (.ref b171), .unset, .unset] []))
      refine go (fun _ => XS.iloadN X209.here hx rfl (hb hby at_112) rfl) ?_
      show Run p e below _ (T209.setTop (mkF m 113 #[.val (.int p0), .val (.int p1), .val (.int (0 : Int32)), .val (.int (3 : Int32)), .val (.ref b163), .val (.ref b167), .val (.ref b169), .val (.ref b171), .unset, .unset] [(.int (3 : Int32))]))
      refine go (fun _ => XS.iconst X209.here hx rfl (hb hby at_113)) ?_
      show Run p e below _ (T209.setTop (mkF m 114 #[.val (.int p0), .val (.int p1), .val (.int (0 : Int32)), .val (.int (3 : Int32)), .val (.ref b163), .val (.ref b167), .val (.ref b169), .val (.ref b171), .unset, .unset] [(.int (1 : Int32)), (.int (3 : Int32))]))
      refine go (fun _ => XS.icmpNo X209.here hx rfl (hb hby at_114) rfl (tlt (by decide : (1 : Int32) < 3)).2.2.2) ?_
      show Run p e below _ (T209.setTop (mkF m 117 #[.val (.int p0), .val (.int p1), .val (.int (0 : Int32)), .val (.int (3 : Int32)), .val (.ref b163), .val (.ref b167), .val (.ref b169), .val (.ref b171), .unset, .unset] []))
      refine go (fun _ => XS.aload X209.here hx rfl (hb hby at_117) rfl rfl) ?_
      show Run p e below _ (T209.setTop (mkF m 119 #[.val (.int p0), .val (.int p1), .val (.int (0 : Int32)), .val (.int (3 : Int32)), .val (.ref b163), .val (.ref b167), .val (.ref b169), .val (.ref b171), .unset, .unset] [(.ref b171)]))
      refine go (fun _ => XS.aload X209.here hx rfl (hb hby at_119) rfl rfl) ?_
      show Run p e below _ (T209.setTop (mkF m 121 #[.val (.int p0), .val (.int p1), .val (.int (0 : Int32)), .val (.int (3 : Int32)), .val (.ref b163), .val (.ref b167), .val (.ref b169), .val (.ref b171), .unset, .unset] [(.ref b167), (.ref b171)]))
      refine callIf X209 hx hZ hown (wd hw 80 rfl) (wd hw 81 rfl) (wd hw 82 rfl) rfl (wd hw 83 rfl) (wd hw 84 rfl) (wd hw 85 rfl) (wd hw 86 rfl) (wd hw 87 rfl) (wd hw 88 rfl) (wd hw 5 rfl) (by decide) e209 E_b171 (argsL := [(.ref b167)]) (rest := []) (rm_add1_1 l Z a0 hw [] b171 b167 b209 k209 ((0 : Int32) + (1 : Int32)) (.ref b167) h209 n0 O0 E_b171 F_modCount_b171 F_elementData_b171 F_size_b171 V_b209 O209 g_b171 g_b209 (Ne.symm ne_b171_b209) E_b167 ne_b167_b171 ne_b167_b209) (W := 0) (by decide) (by decide) (by decide) (by decide) (by rw [hml]; rfl) (lenOf pd_18 rfl) rfl (Nat.le_of_eq rfl) (hb hby at_121) ?_
      intro v211 T211 L211 h211 X211 e211 q211
      obtain ⟨rfl, n211, K211, E_b171, F_modCount_b171, F_elementData_b171, F_size_b171, V_b209⟩ := q211
      have O0 := O0.keep K211 (allS g_b171 (allS g_b209 all0))
      have E_b163 := E_b163.keep K211
      have E_b167 := E_b167.keep K211
      have E_b169 := E_b169.keep K211
      have F_modCount_b169 := F_modCount_b169.keep K211 (ninS ne_b169_b171 (ninS ne_b169_b209 nin0))
      have F_elementData_b169 := F_elementData_b169.keep K211 (ninS ne_b169_b171 (ninS ne_b169_b209 nin0))
      have F_size_b169 := F_size_b169.keep K211 (ninS ne_b169_b171 (ninS ne_b169_b209 nin0))
      have E_b209 := E_b209.keep K211
      have N211 := Fr.app N209 n211
      show Run p e below _ (T211.setTop (mkF m 126 #[.val (.int p0), .val (.int p1), .val (.int (0 : Int32)), .val (.int (3 : Int32)), .val (.ref b163), .val (.ref b167), .val (.ref b169), .val (.ref b171), .unset, .unset] [(.int (1 : Int32))]))
      refine go (fun _ => XS.pop X211.here hx rfl (hb hby at_126) rfl rfl) ?_
      show Run p e below _ (T211.setTop (mkF m 127 #[.val (.int p0), .val (.int p1), .val (.int (0 : Int32)), .val (.int (3 : Int32)), .val (.ref b163), .val (.ref b167), .val (.ref b169), .val (.ref b171), .unset, .unset] []))
      refine go (fun _ => XS.iloadN X211.here hx rfl (hb hby at_127) rfl) ?_
      show Run p e below _ (T211.setTop (mkF m 128 #[.val (.int p0), .val (.int p1), .val (.int (0 : Int32)), .val (.int (3 : Int32)), .val (.ref b163), .val (.ref b167), .val (.ref b169), .val (.ref b171), .unset, .unset] [(.int (3 : Int32))]))
      refine go (fun _ => XS.iconst X211.here hx rfl (hb hby at_128)) ?_
      show Run p e below _ (T211.setTop (mkF m 129 #[.val (.int p0), .val (.int p1), .val (.int (0 : Int32)), .val (.int (3 : Int32)), .val (.ref b163), .val (.ref b167), .val (.ref b169), .val (.ref b171), .unset, .unset] [(.int (2 : Int32)), (.int (3 : Int32))]))
      refine go (fun _ => XS.icmpNo X211.here hx rfl (hb hby at_129) rfl (tlt (by decide : (2 : Int32) < 3)).2.2.2) ?_
      show Run p e below _ (T211.setTop (mkF m 132 #[.val (.int p0), .val (.int p1), .val (.int (0 : Int32)), .val (.int (3 : Int32)), .val (.ref b163), .val (.ref b167), .val (.ref b169), .val (.ref b171), .unset, .unset] []))
      refine go (fun _ => XS.aload X211.here hx rfl (hb hby at_132) rfl rfl) ?_
      show Run p e below _ (T211.setTop (mkF m 134 #[.val (.int p0), .val (.int p1), .val (.int (0 : Int32)), .val (.int (3 : Int32)), .val (.ref b163), .val (.ref b167), .val (.ref b169), .val (.ref b171), .unset, .unset] [(.ref b171)]))
      refine go (fun _ => XS.aload X211.here hx rfl (hb hby at_134) rfl rfl) ?_
      show Run p e below _ (T211.setTop (mkF m 136 #[.val (.int p0), .val (.int p1), .val (.int (0 : Int32)), .val (.int (3 : Int32)), .val (.ref b163), .val (.ref b167), .val (.ref b169), .val (.ref b171), .unset, .unset] [(.ref b167), (.ref b171)]))
      refine callIf X211 hx hZ hown (wd hw 80 rfl) (wd hw 81 rfl) (wd hw 82 rfl) rfl (wd hw 83 rfl) (wd hw 84 rfl) (wd hw 85 rfl) (wd hw 86 rfl) (wd hw 87 rfl) (wd hw 88 rfl) (wd hw 5 rfl) (by decide) e211 E_b171 (argsL := [(.ref b167)]) (rest := []) (rm_add2_2 l Z a0 hw [] b171 b167 b209 k209 (((0 : Int32) + (1 : Int32)) + (1 : Int32)) (.ref b167) (.ref b167) h211 n0 O0 E_b171 F_modCount_b171 F_elementData_b171 F_size_b171 V_b209 O209 g_b171 g_b209 (Ne.symm ne_b171_b209) E_b167 ne_b167_b171 ne_b167_b209) (W := 0) (by decide) (by decide) (by decide) (by decide) (by rw [hml]; rfl) (lenOf pd_18 rfl) rfl (Nat.le_of_eq rfl) (hb hby at_136) ?_
      intro v220 T220 L220 h220 X220 e220 q220
      obtain ⟨rfl, n220, K220, E_b171, F_modCount_b171, F_elementData_b171, F_size_b171, V_b209⟩ := q220
      have O0 := O0.keep K220 (allS g_b171 (allS g_b209 all0))
      have E_b163 := E_b163.keep K220
      have E_b167 := E_b167.keep K220
      have E_b169 := E_b169.keep K220
      have F_modCount_b169 := F_modCount_b169.keep K220 (ninS ne_b169_b171 (ninS ne_b169_b209 nin0))
      have F_elementData_b169 := F_elementData_b169.keep K220 (ninS ne_b169_b171 (ninS ne_b169_b209 nin0))
      have F_size_b169 := F_size_b169.keep K220 (ninS ne_b169_b171 (ninS ne_b169_b209 nin0))
      have E_b209 := E_b209.keep K220
      have N220 := Fr.app N211 n220
      show Run p e below _ (T220.setTop (mkF m 141 #[.val (.int p0), .val (.int p1), .val (.int (0 : Int32)), .val (.int (3 : Int32)), .val (.ref b163), .val (.ref b167), .val (.ref b169), .val (.ref b171), .unset, .unset] [(.int (1 : Int32))]))
      refine go (fun _ => XS.pop X220.here hx rfl (hb hby at_141) rfl rfl) ?_
      show Run p e below _ (T220.setTop (mkF m 142 #[.val (.int p0), .val (.int p1), .val (.int (0 : Int32)), .val (.int (3 : Int32)), .val (.ref b163), .val (.ref b167), .val (.ref b169), .val (.ref b171), .unset, .unset] []))
      exact J142 _ _ _ (smono X220 (by decide) (by decide)) e220 N220 (0 : Int32) (3 : Int32) b163 b167 b169 b171 O0 (⟨E_b169, (Ins.of_exa E_b163 (wd hw 204 rfl)), wD, kD, Or.inl ⟨rfl, F_elementData_b169, F_size_b169⟩⟩ : ALS Z h220 b169 b163 (0 : Int32)) (⟨E_b171, (Ins.of_exa E_b167 (wd hw 112 rfl)), b209, k209, Or.inr (Or.inr (Or.inr ⟨rfl, F_elementData_b171, F_size_b171, V_b209, E_b209⟩))⟩ : ALS Z h220 b171 b167 (3 : Int32))
  · skip
    rw [hz2]
    show Run p e below _ (T172.setTop (mkF m 54 #[.val (.int p0), .val (.int p1), .val (.int (1 : Int32)), .val (.int (p1 &&& (3 : Int32))), .val (.ref b163), .val (.ref b167), .val (.ref b169), .val (.ref b171), .unset, .unset] []))
    refine go (fun _ => XS.iloadN X172.here hx rfl (hb hby at_54) rfl) ?_
    show Run p e below _ (T172.setTop (mkF m 55 #[.val (.int p0), .val (.int p1), .val (.int (1 : Int32)), .val (.int (p1 &&& (3 : Int32))), .val (.ref b163), .val (.ref b167), .val (.ref b169), .val (.ref b171), .unset, .unset] [(.int (1 : Int32))]))
    refine go (fun _ => XS.ifNo X172.here hx rfl (hb hby at_55) rfl ((if0 _ _).trans (tlt (by decide : (0 : Int32) < 1)).2.2.2)) ?_
    show Run p e below _ (T172.setTop (mkF m 58 #[.val (.int p0), .val (.int p1), .val (.int (1 : Int32)), .val (.int (p1 &&& (3 : Int32))), .val (.ref b163), .val (.ref b167), .val (.ref b169), .val (.ref b171), .unset, .unset] []))
    refine go (fun _ => XS.aload X172.here hx rfl (hb hby at_58) rfl rfl) ?_
    show Run p e below _ (T172.setTop (mkF m 60 #[.val (.int p0), .val (.int p1), .val (.int (1 : Int32)), .val (.int (p1 &&& (3 : Int32))), .val (.ref b163), .val (.ref b167), .val (.ref b169), .val (.ref b171), .unset, .unset] [(.ref b169)]))
    refine go (fun _ => XS.aload X172.here hx rfl (hb hby at_60) rfl rfl) ?_
    show Run p e below _ (T172.setTop (mkF m 62 #[.val (.int p0), .val (.int p1), .val (.int (1 : Int32)), .val (.int (p1 &&& (3 : Int32))), .val (.ref b163), .val (.ref b167), .val (.ref b169), .val (.ref b171), .unset, .unset] [(.ref b163), (.ref b169)]))
    refine callIf X172 hx hZ hown (wd hw 80 rfl) (wd hw 81 rfl) (wd hw 82 rfl) rfl (wd hw 83 rfl) (wd hw 84 rfl) (wd hw 85 rfl) (wd hw 86 rfl) (wd hw 87 rfl) (wd hw 88 rfl) (wd hw 5 rfl) (by decide) e172 E_b169 (argsL := [(.ref b163)]) (rest := []) (rm_add0_3 l Z a0 hw [] b169 b163 wD kD (0 : Int32) h172 n0 O0 S_DEFAULTCAPACITY_EMPTY_ELEMENTDATA VD E_b169 F_modCount_b169 F_elementData_b169 F_size_b169 g_b169 E_b163 ne_b163_b169) (W := 0) (by decide) (by decide) (by decide) (by decide) (by rw [hml]; rfl) (lenOf pd_18 rfl) rfl (Nat.le_of_eq rfl) (hb hby at_62) ?_
    intro v232 T232 L232 h232 X232 e232 q232
    have lt233_b163 := E_b163.lt
    have lt233_b167 := E_b167.lt
    have lt233_b169 := E_b169.lt
    have lt233_b171 := E_b171.lt
    obtain ⟨b232, k232, rfl, n232, K232, sb232, g_b232, E_b169, F_modCount_b169, F_elementData_b169, F_size_b169, O232, V_b232, E_b232⟩ := q232
    have ne_b163_b232 : b163 ≠ b232 := Nat.ne_of_lt (Nat.lt_of_lt_of_le lt233_b163 sb232)
    have ne_b167_b232 : b167 ≠ b232 := Nat.ne_of_lt (Nat.lt_of_lt_of_le lt233_b167 sb232)
    have ne_b169_b232 : b169 ≠ b232 := Nat.ne_of_lt (Nat.lt_of_lt_of_le lt233_b169 sb232)
    have ne_b171_b232 : b171 ≠ b232 := Nat.ne_of_lt (Nat.lt_of_lt_of_le lt233_b171 sb232)
    have O0 := O0.keep K232 (allS g_b169 all0)
    have E_b163 := E_b163.keep K232
    have E_b167 := E_b167.keep K232
    have E_b171 := E_b171.keep K232
    have F_modCount_b171 := F_modCount_b171.keep K232 (ninS (Ne.symm ne_b169_b171) nin0)
    have F_elementData_b171 := F_elementData_b171.keep K232 (ninS (Ne.symm ne_b169_b171) nin0)
    have F_size_b171 := F_size_b171.keep K232 (ninS (Ne.symm ne_b169_b171) nin0)
    have N232 := Fr.app N172 n232
    show Run p e below _ (T232.setTop (mkF m 67 #[.val (.int p0), .val (.int p1), .val (.int (1 : Int32)), .val (.int (p1 &&& (3 : Int32))), .val (.ref b163), .val (.ref b167), .val (.ref b169), .val (.ref b171), .unset, .unset] [(.int (1 : Int32))]))
    refine go (fun _ => XS.pop X232.here hx rfl (hb hby at_67) rfl rfl) ?_
    show Run p e below _ (T232.setTop (mkF m 68 #[.val (.int p0), .val (.int p1), .val (.int (1 : Int32)), .val (.int (p1 &&& (3 : Int32))), .val (.ref b163), .val (.ref b167), .val (.ref b169), .val (.ref b171), .unset, .unset] []))
    refine go (fun _ => XS.iloadN X232.here hx rfl (hb hby at_68) rfl) ?_
    show Run p e below _ (T232.setTop (mkF m 69 #[.val (.int p0), .val (.int p1), .val (.int (1 : Int32)), .val (.int (p1 &&& (3 : Int32))), .val (.ref b163), .val (.ref b167), .val (.ref b169), .val (.ref b171), .unset, .unset] [(.int (1 : Int32))]))
    refine go (fun _ => XS.iconst X232.here hx rfl (hb hby at_69)) ?_
    show Run p e below _ (T232.setTop (mkF m 70 #[.val (.int p0), .val (.int p1), .val (.int (1 : Int32)), .val (.int (p1 &&& (3 : Int32))), .val (.ref b163), .val (.ref b167), .val (.ref b169), .val (.ref b171), .unset, .unset] [(.int (1 : Int32)), (.int (1 : Int32))]))
    refine go (fun _ => XS.icmpYes X232.here hx rfl (pc0 := 70) (pc' := 83) rfl (hb hby at_70) rfl (flt (by decide : ¬ ((1 : Int32) < 1))).2.2.2 (by decide) (by decide)) ?_
    show Run p e below _ (T232.setTop (mkF m 83 #[.val (.int p0), .val (.int p1), .val (.int (1 : Int32)), .val (.int (p1 &&& (3 : Int32))), .val (.ref b163), .val (.ref b167), .val (.ref b169), .val (.ref b171), .unset, .unset] []))
    refine go (fun _ => XS.iloadN X232.here hx rfl (hb hby at_83) rfl) ?_
    show Run p e below _ (T232.setTop (mkF m 84 #[.val (.int p0), .val (.int p1), .val (.int (1 : Int32)), .val (.int (p1 &&& (3 : Int32))), .val (.ref b163), .val (.ref b167), .val (.ref b169), .val (.ref b171), .unset, .unset] [(.int (1 : Int32))]))
    refine go (fun _ => XS.iconst X232.here hx rfl (hb hby at_84)) ?_
    show Run p e below _ (T232.setTop (mkF m 85 #[.val (.int p0), .val (.int p1), .val (.int (1 : Int32)), .val (.int (p1 &&& (3 : Int32))), .val (.ref b163), .val (.ref b167), .val (.ref b169), .val (.ref b171), .unset, .unset] [(.int (2 : Int32)), (.int (1 : Int32))]))
    refine go (fun _ => XS.icmpYes X232.here hx rfl (pc0 := 85) (pc' := 98) rfl (hb hby at_85) rfl (flt (by decide : ¬ ((2 : Int32) < 1))).2.2.2 (by decide) (by decide)) ?_
    show Run p e below _ (T232.setTop (mkF m 98 #[.val (.int p0), .val (.int p1), .val (.int (1 : Int32)), .val (.int (p1 &&& (3 : Int32))), .val (.ref b163), .val (.ref b167), .val (.ref b169), .val (.ref b171), .unset, .unset] []))
    rcases own_and3 p1 with hz3 | hz3 | hz3 | hz3
    · skip
      rw [hz3]
      show Run p e below _ (T232.setTop (mkF m 98 #[.val (.int p0), .val (.int p1), .val (.int (1 : Int32)), .val (.int (0 : Int32)), .val (.ref b163), .val (.ref b167), .val (.ref b169), .val (.ref b171), .unset, .unset] []))
      refine go (fun _ => XS.iloadN X232.here hx rfl (hb hby at_98) rfl) ?_
      show Run p e below _ (T232.setTop (mkF m 99 #[.val (.int p0), .val (.int p1), .val (.int (1 : Int32)), .val (.int (0 : Int32)), .val (.ref b163), .val (.ref b167), .val (.ref b169), .val (.ref b171), .unset, .unset] [(.int (0 : Int32))]))
      refine go (fun _ => XS.ifYes X232.here hx rfl (pc0 := 99) (pc' := 112) rfl (hb hby at_99) rfl ((if0 _ _).trans (flt (by decide : ¬ ((0 : Int32) < 0))).2.2.2) (by decide) (by decide)) ?_
      show Run p e below _ (T232.setTop (mkF m 112 #[.val (.int p0), .val (.int p1), .val (.int (1 : Int32)), .val (.int (0 : Int32)), .val (.ref b163), .val (.ref b167), .val (.ref b169), .val (.ref b171), .unset, .unset] []))
      refine go (fun _ => XS.iloadN X232.here hx rfl (hb hby at_112) rfl) ?_
      show Run p e below _ (T232.setTop (mkF m 113 #[.val (.int p0), .val (.int p1), .val (.int (1 : Int32)), .val (.int (0 : Int32)), .val (.ref b163), .val (.ref b167), .val (.ref b169), .val (.ref b171), .unset, .unset] [(.int (0 : Int32))]))
      refine go (fun _ => XS.iconst X232.here hx rfl (hb hby at_113)) ?_
      show Run p e below _ (T232.setTop (mkF m 114 #[.val (.int p0), .val (.int p1), .val (.int (1 : Int32)), .val (.int (0 : Int32)), .val (.ref b163), .val (.ref b167), .val (.ref b169), .val (.ref b171), .unset, .unset] [(.int (1 : Int32)), (.int (0 : Int32))]))
      refine go (fun _ => XS.icmpYes X232.here hx rfl (pc0 := 114) (pc' := 127) rfl (hb hby at_114) rfl (flt (by decide : ¬ ((1 : Int32) < 0))).2.2.2 (by decide) (by decide)) ?_
      show Run p e below _ (T232.setTop (mkF m 127 #[.val (.int p0), .val (.int p1), .val (.int (1 : Int32)), .val (.int (0 : Int32)), .val (.ref b163), .val (.ref b167), .val (.ref b169), .val (.ref b171), .unset, .unset] []))
      refine go (fun _ => XS.iloadN X232.here hx rfl (hb hby at_127) rfl) ?_
      show Run p e below _ (T232.setTop (mkF m 128 #[.val (.int p0), .val (.int p1), .val (.int (1 : Int32)), .val (.int (0 : Int32)), .val (.ref b163), .val (.ref b167), .val (.ref b169), .val (.ref b171), .unset, .unset] [(.int (0 : Int32))]))
      refine go (fun _ => XS.iconst X232.here hx rfl (hb hby at_128)) ?_
      show Run p e below _ (T232.setTop (mkF m 129 #[.val (.int p0), .val (.int p1), .val (.int (1 : Int32)), .val (.int (0 : Int32)), .val (.ref b163), .val (.ref b167), .val (.ref b169), .val (.ref b171), .unset, .unset] [(.int (2 : Int32)), (.int (0 : Int32))]))
      refine go (fun _ => XS.icmpYes X232.here hx rfl (pc0 := 129) (pc' := 142) rfl (hb hby at_129) rfl (flt (by decide : ¬ ((2 : Int32) < 0))).2.2.2 (by decide) (by decide)) ?_
      show Run p e below _ (T232.setTop (mkF m 142 #[.val (.int p0), .val (.int p1), .val (.int (1 : Int32)), .val (.int (0 : Int32)), .val (.ref b163), .val (.ref b167), .val (.ref b169), .val (.ref b171), .unset, .unset] []))
      exact J142 _ _ _ (smono X232 (by decide) (by decide)) e232 N232 (1 : Int32) (0 : Int32) b163 b167 b169 b171 O0 (⟨E_b169, (Ins.of_exa E_b163 (wd hw 204 rfl)), b232, k232, Or.inr (Or.inl ⟨rfl, F_elementData_b169, F_size_b169, V_b232, E_b232⟩)⟩ : ALS Z h232 b169 b163 (1 : Int32)) (⟨E_b171, (Ins.of_exa E_b167 (wd hw 112 rfl)), wD, kD, Or.inl ⟨rfl, F_elementData_b171, F_size_b171⟩⟩ : ALS Z h232 b171 b167 (0 : Int32))
    · skip
      rw [hz3]
      show Run p e below _ (T232.setTop (mkF m 98 #[.val (.int p0), .val (.int p1), .val (.int (1 : Int32)), .val (.int (1 : Int32)), .val (.ref b163), .val (.ref b167), .val (.ref b169), .val (.ref b171), .unset, .unset] []))
      refine go (fun _ => XS.iloadN X232.here hx rfl (hb hby at_98) rfl) ?_
      show Run p e below _ (T232.setTop (mkF m 99 #[.val (.int p0), .val (.int p1), .val (.int (1 : Int32)), .val (.int (1 : Int32)), .val (.ref b163), .val (.ref b167), .val (.ref b169), .val (.ref b171), .unset, .unset] [(.int (1 : Int32))]))
      refine go (fun _ => XS.ifNo X232.here hx rfl (hb hby at_99) rfl ((if0 _ _).trans (tlt (by decide : (0 : Int32) < 1)).2.2.2)) ?_
      show Run p e below _ (T232.setTop (mkF m 102 #[.val (.int p0), .val (.int p1), .val (.int (1 : Int32)), .val (.int (1 : Int32)), .val (.ref b163), .val (.ref b167), .val (.ref b169), .val (.ref b171), .unset, .unset] []))
      refine go (fun _ => XS.aload X232.here hx rfl (hb hby at_102) rfl rfl) ?_
      show Run p e below _ (T232.setTop (mkF m 104 #[.val (.int p0), .val (.int p1), .val (.int (1 : Int32)), .val (.int (1 : Int32)), .val (.ref b163), .val (.ref b167), .val (.ref b169), .val (.ref b171), .unset, .unset] [(.ref b171)]))
      refine go (fun _ => XS.aload X232.here hx rfl (hb hby at_104) rfl rfl) ?_
      show Run p e below _ (T232.setTop (mkF m 106 #[.val (.int p0), .val (.int p1), .val (.int (1 : Int32)), .val (.int (1 : Int32)), .val (.ref b163), .val (.ref b167), .val (.ref b169), .val (.ref b171), .unset, .unset] [(.ref b167), (.ref b171)]))
      refine callIf X232 hx hZ hown (wd hw 80 rfl) (wd hw 81 rfl) (wd hw 82 rfl) rfl (wd hw 83 rfl) (wd hw 84 rfl) (wd hw 85 rfl) (wd hw 86 rfl) (wd hw 87 rfl) (wd hw 88 rfl) (wd hw 5 rfl) (by decide) e232 E_b171 (argsL := [(.ref b167)]) (rest := []) (rm_add0_0 l Z a0 hw [] b171 b167 wD kD (0 : Int32) h232 n0 O0 S_DEFAULTCAPACITY_EMPTY_ELEMENTDATA VD E_b171 F_modCount_b171 F_elementData_b171 F_size_b171 g_b171 E_b167 ne_b167_b171) (W := 0) (by decide) (by decide) (by decide) (by decide) (by rw [hml]; rfl) (lenOf pd_18 rfl) rfl (Nat.le_of_eq rfl) (hb hby at_106) ?_
      intro v234 T234 L234 h234 X234 e234 q234
      have lt235_b163 := E_b163.lt
      have lt235_b167 := E_b167.lt
      have lt235_b169 := E_b169.lt
      have lt235_b171 := E_b171.lt
      have lt235_b232 := V_b232.lt
      obtain ⟨b234, k234, rfl, n234, K234, sb234, g_b234, E_b171, F_modCount_b171, F_elementData_b171, F_size_b171, O234, V_b234, E_b234⟩ := q234
      have ne_b163_b234 : b163 ≠ b234 := Nat.ne_of_lt (Nat.lt_of_lt_of_le lt235_b163 sb234)
      have ne_b167_b234 : b167 ≠ b234 := Nat.ne_of_lt (Nat.lt_of_lt_of_le lt235_b167 sb234)
      have ne_b169_b234 : b169 ≠ b234 := Nat.ne_of_lt (Nat.lt_of_lt_of_le lt235_b169 sb234)
      have ne_b171_b234 : b171 ≠ b234 := Nat.ne_of_lt (Nat.lt_of_lt_of_le lt235_b171 sb234)
      have ne_b232_b234 : b232 ≠ b234 := Nat.ne_of_lt (Nat.lt_of_lt_of_le lt235_b232 sb234)
      have O0 := O0.keep K234 (allS g_b171 all0)
      have E_b163 := E_b163.keep K234
      have E_b167 := E_b167.keep K234
      have E_b169 := E_b169.keep K234
      have V_b232 := V_b232.keep K234 (ninS (Ne.symm ne_b171_b232) nin0)
      have E_b232 := E_b232.keep K234
      have F_modCount_b169 := F_modCount_b169.keep K234 (ninS ne_b169_b171 nin0)
      have F_elementData_b169 := F_elementData_b169.keep K234 (ninS ne_b169_b171 nin0)
      have F_size_b169 := F_size_b169.keep K234 (ninS ne_b169_b171 nin0)
      have N234 := Fr.app N232 n234
      show Run p e below _ (T234.setTop (mkF m 111 #[.val (.int p0), .val (.int p1), .val (.int (1 : Int32)), .val (.int (1 : Int32)), .val (.ref b163), .val (.ref b167), .val (.ref b169), .val (.ref b171), .unset, .unset] [(.int (1 : Int32))]))
      refine go (fun _ => XS.pop X234.here hx rfl (hb hby at_111) rfl rfl) ?_
      show Run p e below _ (T234.setTop (mkF m 112 #[.val (.int p0), .val (.int p1), .val (.int (1 : Int32)), .val (.int (1 : Int32)), .val (.ref b163), .val (.ref b167), .val (.ref b169), .val (.ref b171), .unset, .unset] []))
      refine go (fun _ => XS.iloadN X234.here hx rfl (hb hby at_112) rfl) ?_
      show Run p e below _ (T234.setTop (mkF m 113 #[.val (.int p0), .val (.int p1), .val (.int (1 : Int32)), .val (.int (1 : Int32)), .val (.ref b163), .val (.ref b167), .val (.ref b169), .val (.ref b171), .unset, .unset] [(.int (1 : Int32))]))
      refine go (fun _ => XS.iconst X234.here hx rfl (hb hby at_113)) ?_
      show Run p e below _ (T234.setTop (mkF m 114 #[.val (.int p0), .val (.int p1), .val (.int (1 : Int32)), .val (.int (1 : Int32)), .val (.ref b163), .val (.ref b167), .val (.ref b169), .val (.ref b171), .unset, .unset] [(.int (1 : Int32)), (.int (1 : Int32))]))
      refine go (fun _ => XS.icmpYes X234.here hx rfl (pc0 := 114) (pc' := 127) rfl (hb hby at_114) rfl (flt (by decide : ¬ ((1 : Int32) < 1))).2.2.2 (by decide) (by decide)) ?_
      show Run p e below _ (T234.setTop (mkF m 127 #[.val (.int p0), .val (.int p1), .val (.int (1 : Int32)), .val (.int (1 : Int32)), .val (.ref b163), .val (.ref b167), .val (.ref b169), .val (.ref b171), .unset, .unset] []))
      refine go (fun _ => XS.iloadN X234.here hx rfl (hb hby at_127) rfl) ?_
      show Run p e below _ (T234.setTop (mkF m 128 #[.val (.int p0), .val (.int p1), .val (.int (1 : Int32)), .val (.int (1 : Int32)), .val (.ref b163), .val (.ref b167), .val (.ref b169), .val (.ref b171), .unset, .unset] [(.int (1 : Int32))]))
      refine go (fun _ => XS.iconst X234.here hx rfl (hb hby at_128)) ?_
      show Run p e below _ (T234.setTop (mkF m 129 #[.val (.int p0), .val (.int p1), .val (.int (1 : Int32)), .val (.int (1 : Int32)), .val (.ref b163), .val (.ref b167), .val (.ref b169), .val (.ref b171), .unset, .unset] [(.int (2 : Int32)), (.int (1 : Int32))]))
      refine go (fun _ => XS.icmpYes X234.here hx rfl (pc0 := 129) (pc' := 142) rfl (hb hby at_129) rfl (flt (by decide : ¬ ((2 : Int32) < 1))).2.2.2 (by decide) (by decide)) ?_
      show Run p e below _ (T234.setTop (mkF m 142 #[.val (.int p0), .val (.int p1), .val (.int (1 : Int32)), .val (.int (1 : Int32)), .val (.ref b163), .val (.ref b167), .val (.ref b169), .val (.ref b171), .unset, .unset] []))
      exact J142 _ _ _ (smono X234 (by decide) (by decide)) e234 N234 (1 : Int32) (1 : Int32) b163 b167 b169 b171 O0 (⟨E_b169, (Ins.of_exa E_b163 (wd hw 204 rfl)), b232, k232, Or.inr (Or.inl ⟨rfl, F_elementData_b169, F_size_b169, V_b232, E_b232⟩)⟩ : ALS Z h234 b169 b163 (1 : Int32)) (⟨E_b171, (Ins.of_exa E_b167 (wd hw 112 rfl)), b234, k234, Or.inr (Or.inl ⟨rfl, F_elementData_b171, F_size_b171, V_b234, E_b234⟩)⟩ : ALS Z h234 b171 b167 (1 : Int32))
    · skip
      rw [hz3]
      show Run p e below _ (T232.setTop (mkF m 98 #[.val (.int p0), .val (.int p1), .val (.int (1 : Int32)), .val (.int (2 : Int32)), .val (.ref b163), .val (.ref b167), .val (.ref b169), .val (.ref b171), .unset, .unset] []))
      refine go (fun _ => XS.iloadN X232.here hx rfl (hb hby at_98) rfl) ?_
      show Run p e below _ (T232.setTop (mkF m 99 #[.val (.int p0), .val (.int p1), .val (.int (1 : Int32)), .val (.int (2 : Int32)), .val (.ref b163), .val (.ref b167), .val (.ref b169), .val (.ref b171), .unset, .unset] [(.int (2 : Int32))]))
      refine go (fun _ => XS.ifNo X232.here hx rfl (hb hby at_99) rfl ((if0 _ _).trans (tlt (by decide : (0 : Int32) < 2)).2.2.2)) ?_
      show Run p e below _ (T232.setTop (mkF m 102 #[.val (.int p0), .val (.int p1), .val (.int (1 : Int32)), .val (.int (2 : Int32)), .val (.ref b163), .val (.ref b167), .val (.ref b169), .val (.ref b171), .unset, .unset] []))
      refine go (fun _ => XS.aload X232.here hx rfl (hb hby at_102) rfl rfl) ?_
      show Run p e below _ (T232.setTop (mkF m 104 #[.val (.int p0), .val (.int p1), .val (.int (1 : Int32)), .val (.int (2 : Int32)), .val (.ref b163), .val (.ref b167), .val (.ref b169), .val (.ref b171), .unset, .unset] [(.ref b171)]))
      refine go (fun _ => XS.aload X232.here hx rfl (hb hby at_104) rfl rfl) ?_
      show Run p e below _ (T232.setTop (mkF m 106 #[.val (.int p0), .val (.int p1), .val (.int (1 : Int32)), .val (.int (2 : Int32)), .val (.ref b163), .val (.ref b167), .val (.ref b169), .val (.ref b171), .unset, .unset] [(.ref b167), (.ref b171)]))
      refine callIf X232 hx hZ hown (wd hw 80 rfl) (wd hw 81 rfl) (wd hw 82 rfl) rfl (wd hw 83 rfl) (wd hw 84 rfl) (wd hw 85 rfl) (wd hw 86 rfl) (wd hw 87 rfl) (wd hw 88 rfl) (wd hw 5 rfl) (by decide) e232 E_b171 (argsL := [(.ref b167)]) (rest := []) (rm_add0_0 l Z a0 hw [] b171 b167 wD kD (0 : Int32) h232 n0 O0 S_DEFAULTCAPACITY_EMPTY_ELEMENTDATA VD E_b171 F_modCount_b171 F_elementData_b171 F_size_b171 g_b171 E_b167 ne_b167_b171) (W := 0) (by decide) (by decide) (by decide) (by decide) (by rw [hml]; rfl) (lenOf pd_18 rfl) rfl (Nat.le_of_eq rfl) (hb hby at_106) ?_
      intro v236 T236 L236 h236 X236 e236 q236
      have lt237_b163 := E_b163.lt
      have lt237_b167 := E_b167.lt
      have lt237_b169 := E_b169.lt
      have lt237_b171 := E_b171.lt
      have lt237_b232 := V_b232.lt
      obtain ⟨b236, k236, rfl, n236, K236, sb236, g_b236, E_b171, F_modCount_b171, F_elementData_b171, F_size_b171, O236, V_b236, E_b236⟩ := q236
      have ne_b163_b236 : b163 ≠ b236 := Nat.ne_of_lt (Nat.lt_of_lt_of_le lt237_b163 sb236)
      have ne_b167_b236 : b167 ≠ b236 := Nat.ne_of_lt (Nat.lt_of_lt_of_le lt237_b167 sb236)
      have ne_b169_b236 : b169 ≠ b236 := Nat.ne_of_lt (Nat.lt_of_lt_of_le lt237_b169 sb236)
      have ne_b171_b236 : b171 ≠ b236 := Nat.ne_of_lt (Nat.lt_of_lt_of_le lt237_b171 sb236)
      have ne_b232_b236 : b232 ≠ b236 := Nat.ne_of_lt (Nat.lt_of_lt_of_le lt237_b232 sb236)
      have O0 := O0.keep K236 (allS g_b171 all0)
      have E_b163 := E_b163.keep K236
      have E_b167 := E_b167.keep K236
      have E_b169 := E_b169.keep K236
      have V_b232 := V_b232.keep K236 (ninS (Ne.symm ne_b171_b232) nin0)
      have E_b232 := E_b232.keep K236
      have F_modCount_b169 := F_modCount_b169.keep K236 (ninS ne_b169_b171 nin0)
      have F_elementData_b169 := F_elementData_b169.keep K236 (ninS ne_b169_b171 nin0)
      have F_size_b169 := F_size_b169.keep K236 (ninS ne_b169_b171 nin0)
      have N236 := Fr.app N232 n236
      show Run p e below _ (T236.setTop (mkF m 111 #[.val (.int p0), .val (.int p1), .val (.int (1 : Int32)), .val (.int (2 : Int32)), .val (.ref b163), .val (.ref b167), .val (.ref b169), .val (.ref b171), .unset, .unset] [(.int (1 : Int32))]))
      refine go (fun _ => XS.pop X236.here hx rfl (hb hby at_111) rfl rfl) ?_
      show Run p e below _ (T236.setTop (mkF m 112 #[.val (.int p0), .val (.int p1), .val (.int (1 : Int32)), .val (.int (2 : Int32)), .val (.ref b163), .val (.ref b167), .val (.ref b169), .val (.ref b171), .unset, .unset] []))
      refine go (fun _ => XS.iloadN X236.here hx rfl (hb hby at_112) rfl) ?_
      show Run p e below _ (T236.setTop (mkF m 113 #[.val (.int p0), .val (.int p1), .val (.int (1 : Int32)), .val (.int (2 : Int32)), .val (.ref b163), .val (.ref b167), .val (.ref b169), .val (.ref b171), .unset, .unset] [(.int (2 : Int32))]))
      refine go (fun _ => XS.iconst X236.here hx rfl (hb hby at_113)) ?_
      show Run p e below _ (T236.setTop (mkF m 114 #[.val (.int p0), .val (.int p1), .val (.int (1 : Int32)), .val (.int (2 : Int32)), .val (.ref b163), .val (.ref b167), .val (.ref b169), .val (.ref b171), .unset, .unset] [(.int (1 : Int32)), (.int (2 : Int32))]))
      refine go (fun _ => XS.icmpNo X236.here hx rfl (hb hby at_114) rfl (tlt (by decide : (1 : Int32) < 2)).2.2.2) ?_
      show Run p e below _ (T236.setTop (mkF m 117 #[.val (.int p0), .val (.int p1), .val (.int (1 : Int32)), .val (.int (2 : Int32)), .val (.ref b163), .val (.ref b167), .val (.ref b169), .val (.ref b171), .unset, .unset] []))
      refine go (fun _ => XS.aload X236.here hx rfl (hb hby at_117) rfl rfl) ?_
      show Run p e below _ (T236.setTop (mkF m 119 #[.val (.int p0), .val (.int p1), .val (.int (1 : Int32)), .val (.int (2 : Int32)), .val (.ref b163), .val (.ref b167), .val (.ref b169), .val (.ref b171), .unset, .unset] [(.ref b171)]))
      refine go (fun _ => XS.aload X236.here hx rfl (hb hby at_119) rfl rfl) ?_
      show Run p e below _ (T236.setTop (mkF m 121 #[.val (.int p0), .val (.int p1), .val (.int (1 : Int32)), .val (.int (2 : Int32)), .val (.ref b163), .val (.ref b167), .val (.ref b169), .val (.ref b171), .unset, .unset] [(.ref b167), (.ref b171)]))
      refine callIf X236 hx hZ hown (wd hw 80 rfl) (wd hw 81 rfl) (wd hw 82 rfl) rfl (wd hw 83 rfl) (wd hw 84 rfl) (wd hw 85 rfl) (wd hw 86 rfl) (wd hw 87 rfl) (wd hw 88 rfl) (wd hw 5 rfl) (by decide) e236 E_b171 (argsL := [(.ref b167)]) (rest := []) (rm_add1_1 l Z a0 hw [] b171 b167 b236 k236 ((0 : Int32) + (1 : Int32)) (.ref b167) h236 n0 O0 E_b171 F_modCount_b171 F_elementData_b171 F_size_b171 V_b236 O236 g_b171 g_b236 (Ne.symm ne_b171_b236) E_b167 ne_b167_b171 ne_b167_b236) (W := 0) (by decide) (by decide) (by decide) (by decide) (by rw [hml]; rfl) (lenOf pd_18 rfl) rfl (Nat.le_of_eq rfl) (hb hby at_121) ?_
      intro v238 T238 L238 h238 X238 e238 q238
      obtain ⟨rfl, n238, K238, E_b171, F_modCount_b171, F_elementData_b171, F_size_b171, V_b236⟩ := q238
      have O0 := O0.keep K238 (allS g_b171 (allS g_b236 all0))
      have E_b163 := E_b163.keep K238
      have E_b167 := E_b167.keep K238
      have E_b169 := E_b169.keep K238
      have V_b232 := V_b232.keep K238 (ninS (Ne.symm ne_b171_b232) (ninS ne_b232_b236 nin0))
      have E_b232 := E_b232.keep K238
      have F_modCount_b169 := F_modCount_b169.keep K238 (ninS ne_b169_b171 (ninS ne_b169_b236 nin0))
      have F_elementData_b169 := F_elementData_b169.keep K238 (ninS ne_b169_b171 (ninS ne_b169_b236 nin0))
      have F_size_b169 := F_size_b169.keep K238 (ninS ne_b169_b171 (ninS ne_b169_b236 nin0))
      have E_b236 := E_b236.keep K238
      have N238 := Fr.app N236 n238
      show Run p e below _ (T238.setTop (mkF m 126 #[.val (.int p0), .val (.int p1), .val (.int (1 : Int32)), .val (.int (2 : Int32)), .val (.ref b163), .val (.ref b167), .val (.ref b169), .val (.ref b171), .unset, .unset] [(.int (1 : Int32))]))
      refine go (fun _ => XS.pop X238.here hx rfl (hb hby at_126) rfl rfl) ?_
      show Run p e below _ (T238.setTop (mkF m 127 #[.val (.int p0), .val (.int p1), .val (.int (1 : Int32)), .val (.int (2 : Int32)), .val (.ref b163), .val (.ref b167), .val (.ref b169), .val (.ref b171), .unset, .unset] []))
      refine go (fun _ => XS.iloadN X238.here hx rfl (hb hby at_127) rfl) ?_
      show Run p e below _ (T238.setTop (mkF m 128 #[.val (.int p0), .val (.int p1), .val (.int (1 : Int32)), .val (.int (2 : Int32)), .val (.ref b163), .val (.ref b167), .val (.ref b169), .val (.ref b171), .unset, .unset] [(.int (2 : Int32))]))
      refine go (fun _ => XS.iconst X238.here hx rfl (hb hby at_128)) ?_
      show Run p e below _ (T238.setTop (mkF m 129 #[.val (.int p0), .val (.int p1), .val (.int (1 : Int32)), .val (.int (2 : Int32)), .val (.ref b163), .val (.ref b167), .val (.ref b169), .val (.ref b171), .unset, .unset] [(.int (2 : Int32)), (.int (2 : Int32))]))
      refine go (fun _ => XS.icmpYes X238.here hx rfl (pc0 := 129) (pc' := 142) rfl (hb hby at_129) rfl (flt (by decide : ¬ ((2 : Int32) < 2))).2.2.2 (by decide) (by decide)) ?_
      show Run p e below _ (T238.setTop (mkF m 142 #[.val (.int p0), .val (.int p1), .val (.int (1 : Int32)), .val (.int (2 : Int32)), .val (.ref b163), .val (.ref b167), .val (.ref b169), .val (.ref b171), .unset, .unset] []))
      exact J142 _ _ _ (smono X238 (by decide) (by decide)) e238 N238 (1 : Int32) (2 : Int32) b163 b167 b169 b171 O0 (⟨E_b169, (Ins.of_exa E_b163 (wd hw 204 rfl)), b232, k232, Or.inr (Or.inl ⟨rfl, F_elementData_b169, F_size_b169, V_b232, E_b232⟩)⟩ : ALS Z h238 b169 b163 (1 : Int32)) (⟨E_b171, (Ins.of_exa E_b167 (wd hw 112 rfl)), b236, k236, Or.inr (Or.inr (Or.inl ⟨rfl, F_elementData_b171, F_size_b171, V_b236, E_b236⟩))⟩ : ALS Z h238 b171 b167 (2 : Int32))
    · skip
      rw [hz3]
      show Run p e below _ (T232.setTop (mkF m 98 #[.val (.int p0), .val (.int p1), .val (.int (1 : Int32)), .val (.int (3 : Int32)), .val (.ref b163), .val (.ref b167), .val (.ref b169), .val (.ref b171), .unset, .unset] []))
      refine go (fun _ => XS.iloadN X232.here hx rfl (hb hby at_98) rfl) ?_
      show Run p e below _ (T232.setTop (mkF m 99 #[.val (.int p0), .val (.int p1), .val (.int (1 : Int32)), .val (.int (3 : Int32)), .val (.ref b163), .val (.ref b167), .val (.ref b169), .val (.ref b171), .unset, .unset] [(.int (3 : Int32))]))
      refine go (fun _ => XS.ifNo X232.here hx rfl (hb hby at_99) rfl ((if0 _ _).trans (tlt (by decide : (0 : Int32) < 3)).2.2.2)) ?_
      show Run p e below _ (T232.setTop (mkF m 102 #[.val (.int p0), .val (.int p1), .val (.int (1 : Int32)), .val (.int (3 : Int32)), .val (.ref b163), .val (.ref b167), .val (.ref b169), .val (.ref b171), .unset, .unset] []))
      refine go (fun _ => XS.aload X232.here hx rfl (hb hby at_102) rfl rfl) ?_
      show Run p e below _ (T232.setTop (mkF m 104 #[.val (.int p0), .val (.int p1), .val (.int (1 : Int32)), .val (.int (3 : Int32)), .val (.ref b163), .val (.ref b167), .val (.ref b169), .val (.ref b171), .unset, .unset] [(.ref b171)]))
      refine go (fun _ => XS.aload X232.here hx rfl (hb hby at_104) rfl rfl) ?_
      show Run p e below _ (T232.setTop (mkF m 106 #[.val (.int p0), .val (.int p1), .val (.int (1 : Int32)), .val (.int (3 : Int32)), .val (.ref b163), .val (.ref b167), .val (.ref b169), .val (.ref b171), .unset, .unset] [(.ref b167), (.ref b171)]))
      refine callIf X232 hx hZ hown (wd hw 80 rfl) (wd hw 81 rfl) (wd hw 82 rfl) rfl (wd hw 83 rfl) (wd hw 84 rfl) (wd hw 85 rfl) (wd hw 86 rfl) (wd hw 87 rfl) (wd hw 88 rfl) (wd hw 5 rfl) (by decide) e232 E_b171 (argsL := [(.ref b167)]) (rest := []) (rm_add0_0 l Z a0 hw [] b171 b167 wD kD (0 : Int32) h232 n0 O0 S_DEFAULTCAPACITY_EMPTY_ELEMENTDATA VD E_b171 F_modCount_b171 F_elementData_b171 F_size_b171 g_b171 E_b167 ne_b167_b171) (W := 0) (by decide) (by decide) (by decide) (by decide) (by rw [hml]; rfl) (lenOf pd_18 rfl) rfl (Nat.le_of_eq rfl) (hb hby at_106) ?_
      intro v239 T239 L239 h239 X239 e239 q239
      have lt240_b163 := E_b163.lt
      have lt240_b167 := E_b167.lt
      have lt240_b169 := E_b169.lt
      have lt240_b171 := E_b171.lt
      have lt240_b232 := V_b232.lt
      obtain ⟨b239, k239, rfl, n239, K239, sb239, g_b239, E_b171, F_modCount_b171, F_elementData_b171, F_size_b171, O239, V_b239, E_b239⟩ := q239
      have ne_b163_b239 : b163 ≠ b239 := Nat.ne_of_lt (Nat.lt_of_lt_of_le lt240_b163 sb239)
      have ne_b167_b239 : b167 ≠ b239 := Nat.ne_of_lt (Nat.lt_of_lt_of_le lt240_b167 sb239)
      have ne_b169_b239 : b169 ≠ b239 := Nat.ne_of_lt (Nat.lt_of_lt_of_le lt240_b169 sb239)
      have ne_b171_b239 : b171 ≠ b239 := Nat.ne_of_lt (Nat.lt_of_lt_of_le lt240_b171 sb239)
      have ne_b232_b239 : b232 ≠ b239 := Nat.ne_of_lt (Nat.lt_of_lt_of_le lt240_b232 sb239)
      have O0 := O0.keep K239 (allS g_b171 all0)
      have E_b163 := E_b163.keep K239
      have E_b167 := E_b167.keep K239
      have E_b169 := E_b169.keep K239
      have V_b232 := V_b232.keep K239 (ninS (Ne.symm ne_b171_b232) nin0)
      have E_b232 := E_b232.keep K239
      have F_modCount_b169 := F_modCount_b169.keep K239 (ninS ne_b169_b171 nin0)
      have F_elementData_b169 := F_elementData_b169.keep K239 (ninS ne_b169_b171 nin0)
      have F_size_b169 := F_size_b169.keep K239 (ninS ne_b169_b171 nin0)
      have N239 := Fr.app N232 n239
      show Run p e below _ (T239.setTop (mkF m 111 #[.val (.int p0), .val (.int p1), .val (.int (1 : Int32)), .val (.int (3 : Int32)), .val (.ref b163), .val (.ref b167), .val (.ref b169), .val (.ref b171), .unset, .unset] [(.int (1 : Int32))]))
      refine go (fun _ => XS.pop X239.here hx rfl (hb hby at_111) rfl rfl) ?_
      show Run p e below _ (T239.setTop (mkF m 112 #[.val (.int p0), .val (.int p1), .val (.int (1 : Int32)), .val (.int (3 : Int32)), .val (.ref b163), .val (.ref b167), .val (.ref b169), .val (.ref b171), .unset, .unset] []))
      refine go (fun _ => XS.iloadN X239.here hx rfl (hb hby at_112) rfl) ?_
      show Run p e below _ (T239.setTop (mkF m 113 #[.val (.int p0), .val (.int p1), .val (.int (1 : Int32)), .val (.int (3 : Int32)), .val (.ref b163), .val (.ref b167), .val (.ref b169), .val (.ref b171), .unset, .unset] [(.int (3 : Int32))]))
      refine go (fun _ => XS.iconst X239.here hx rfl (hb hby at_113)) ?_
      show Run p e below _ (T239.setTop (mkF m 114 #[.val (.int p0), .val (.int p1), .val (.int (1 : Int32)), .val (.int (3 : Int32)), .val (.ref b163), .val (.ref b167), .val (.ref b169), .val (.ref b171), .unset, .unset] [(.int (1 : Int32)), (.int (3 : Int32))]))
      refine go (fun _ => XS.icmpNo X239.here hx rfl (hb hby at_114) rfl (tlt (by decide : (1 : Int32) < 3)).2.2.2) ?_
      show Run p e below _ (T239.setTop (mkF m 117 #[.val (.int p0), .val (.int p1), .val (.int (1 : Int32)), .val (.int (3 : Int32)), .val (.ref b163), .val (.ref b167), .val (.ref b169), .val (.ref b171), .unset, .unset] []))
      refine go (fun _ => XS.aload X239.here hx rfl (hb hby at_117) rfl rfl) ?_
      show Run p e below _ (T239.setTop (mkF m 119 #[.val (.int p0), .val (.int p1), .val (.int (1 : Int32)), .val (.int (3 : Int32)), .val (.ref b163), .val (.ref b167), .val (.ref b169), .val (.ref b171), .unset, .unset] [(.ref b171)]))
      refine go (fun _ => XS.aload X239.here hx rfl (hb hby at_119) rfl rfl) ?_
      show Run p e below _ (T239.setTop (mkF m 121 #[.val (.int p0), .val (.int p1), .val (.int (1 : Int32)), .val (.int (3 : Int32)), .val (.ref b163), .val (.ref b167), .val (.ref b169), .val (.ref b171), .unset, .unset] [(.ref b167), (.ref b171)]))
      refine callIf X239 hx hZ hown (wd hw 80 rfl) (wd hw 81 rfl) (wd hw 82 rfl) rfl (wd hw 83 rfl) (wd hw 84 rfl) (wd hw 85 rfl) (wd hw 86 rfl) (wd hw 87 rfl) (wd hw 88 rfl) (wd hw 5 rfl) (by decide) e239 E_b171 (argsL := [(.ref b167)]) (rest := []) (rm_add1_1 l Z a0 hw [] b171 b167 b239 k239 ((0 : Int32) + (1 : Int32)) (.ref b167) h239 n0 O0 E_b171 F_modCount_b171 F_elementData_b171 F_size_b171 V_b239 O239 g_b171 g_b239 (Ne.symm ne_b171_b239) E_b167 ne_b167_b171 ne_b167_b239) (W := 0) (by decide) (by decide) (by decide) (by decide) (by rw [hml]; rfl) (lenOf pd_18 rfl) rfl (Nat.le_of_eq rfl) (hb hby at_121) ?_
      intro v241 T241 L241 h241 X241 e241 q241
      obtain ⟨rfl, n241, K241, E_b171, F_modCount_b171, F_elementData_b171, F_size_b171, V_b239⟩ := q241
      have O0 := O0.keep K241 (allS g_b171 (allS g_b239 all0))
      have E_b163 := E_b163.keep K241
      have E_b167 := E_b167.keep K241
      have E_b169 := E_b169.keep K241
      have V_b232 := V_b232.keep K241 (ninS (Ne.symm ne_b171_b232) (ninS ne_b232_b239 nin0))
      have E_b232 := E_b232.keep K241
      have F_modCount_b169 := F_modCount_b169.keep K241 (ninS ne_b169_b171 (ninS ne_b169_b239 nin0))
      have F_elementData_b169 := F_elementData_b169.keep K241 (ninS ne_b169_b171 (ninS ne_b169_b239 nin0))
      have F_size_b169 := F_size_b169.keep K241 (ninS ne_b169_b171 (ninS ne_b169_b239 nin0))
      have E_b239 := E_b239.keep K241
      have N241 := Fr.app N239 n241
      show Run p e below _ (T241.setTop (mkF m 126 #[.val (.int p0), .val (.int p1), .val (.int (1 : Int32)), .val (.int (3 : Int32)), .val (.ref b163), .val (.ref b167), .val (.ref b169), .val (.ref b171), .unset, .unset] [(.int (1 : Int32))]))
      refine go (fun _ => XS.pop X241.here hx rfl (hb hby at_126) rfl rfl) ?_
      show Run p e below _ (T241.setTop (mkF m 127 #[.val (.int p0), .val (.int p1), .val (.int (1 : Int32)), .val (.int (3 : Int32)), .val (.ref b163), .val (.ref b167), .val (.ref b169), .val (.ref b171), .unset, .unset] []))
      refine go (fun _ => XS.iloadN X241.here hx rfl (hb hby at_127) rfl) ?_
      show Run p e below _ (T241.setTop (mkF m 128 #[.val (.int p0), .val (.int p1), .val (.int (1 : Int32)), .val (.int (3 : Int32)), .val (.ref b163), .val (.ref b167), .val (.ref b169), .val (.ref b171), .unset, .unset] [(.int (3 : Int32))]))
      refine go (fun _ => XS.iconst X241.here hx rfl (hb hby at_128)) ?_
      show Run p e below _ (T241.setTop (mkF m 129 #[.val (.int p0), .val (.int p1), .val (.int (1 : Int32)), .val (.int (3 : Int32)), .val (.ref b163), .val (.ref b167), .val (.ref b169), .val (.ref b171), .unset, .unset] [(.int (2 : Int32)), (.int (3 : Int32))]))
      refine go (fun _ => XS.icmpNo X241.here hx rfl (hb hby at_129) rfl (tlt (by decide : (2 : Int32) < 3)).2.2.2) ?_
      show Run p e below _ (T241.setTop (mkF m 132 #[.val (.int p0), .val (.int p1), .val (.int (1 : Int32)), .val (.int (3 : Int32)), .val (.ref b163), .val (.ref b167), .val (.ref b169), .val (.ref b171), .unset, .unset] []))
      refine go (fun _ => XS.aload X241.here hx rfl (hb hby at_132) rfl rfl) ?_
      show Run p e below _ (T241.setTop (mkF m 134 #[.val (.int p0), .val (.int p1), .val (.int (1 : Int32)), .val (.int (3 : Int32)), .val (.ref b163), .val (.ref b167), .val (.ref b169), .val (.ref b171), .unset, .unset] [(.ref b171)]))
      refine go (fun _ => XS.aload X241.here hx rfl (hb hby at_134) rfl rfl) ?_
      show Run p e below _ (T241.setTop (mkF m 136 #[.val (.int p0), .val (.int p1), .val (.int (1 : Int32)), .val (.int (3 : Int32)), .val (.ref b163), .val (.ref b167), .val (.ref b169), .val (.ref b171), .unset, .unset] [(.ref b167), (.ref b171)]))
      refine callIf X241 hx hZ hown (wd hw 80 rfl) (wd hw 81 rfl) (wd hw 82 rfl) rfl (wd hw 83 rfl) (wd hw 84 rfl) (wd hw 85 rfl) (wd hw 86 rfl) (wd hw 87 rfl) (wd hw 88 rfl) (wd hw 5 rfl) (by decide) e241 E_b171 (argsL := [(.ref b167)]) (rest := []) (rm_add2_2 l Z a0 hw [] b171 b167 b239 k239 (((0 : Int32) + (1 : Int32)) + (1 : Int32)) (.ref b167) (.ref b167) h241 n0 O0 E_b171 F_modCount_b171 F_elementData_b171 F_size_b171 V_b239 O239 g_b171 g_b239 (Ne.symm ne_b171_b239) E_b167 ne_b167_b171 ne_b167_b239) (W := 0) (by decide) (by decide) (by decide) (by decide) (by rw [hml]; rfl) (lenOf pd_18 rfl) rfl (Nat.le_of_eq rfl) (hb hby at_136) ?_
      intro v242 T242 L242 h242 X242 e242 q242
      obtain ⟨rfl, n242, K242, E_b171, F_modCount_b171, F_elementData_b171, F_size_b171, V_b239⟩ := q242
      have O0 := O0.keep K242 (allS g_b171 (allS g_b239 all0))
      have E_b163 := E_b163.keep K242
      have E_b167 := E_b167.keep K242
      have E_b169 := E_b169.keep K242
      have V_b232 := V_b232.keep K242 (ninS (Ne.symm ne_b171_b232) (ninS ne_b232_b239 nin0))
      have E_b232 := E_b232.keep K242
      have F_modCount_b169 := F_modCount_b169.keep K242 (ninS ne_b169_b171 (ninS ne_b169_b239 nin0))
      have F_elementData_b169 := F_elementData_b169.keep K242 (ninS ne_b169_b171 (ninS ne_b169_b239 nin0))
      have F_size_b169 := F_size_b169.keep K242 (ninS ne_b169_b171 (ninS ne_b169_b239 nin0))
      have E_b239 := E_b239.keep K242
      have N242 := Fr.app N241 n242
      show Run p e below _ (T242.setTop (mkF m 141 #[.val (.int p0), .val (.int p1), .val (.int (1 : Int32)), .val (.int (3 : Int32)), .val (.ref b163), .val (.ref b167), .val (.ref b169), .val (.ref b171), .unset, .unset] [(.int (1 : Int32))]))
      refine go (fun _ => XS.pop X242.here hx rfl (hb hby at_141) rfl rfl) ?_
      show Run p e below _ (T242.setTop (mkF m 142 #[.val (.int p0), .val (.int p1), .val (.int (1 : Int32)), .val (.int (3 : Int32)), .val (.ref b163), .val (.ref b167), .val (.ref b169), .val (.ref b171), .unset, .unset] []))
      exact J142 _ _ _ (smono X242 (by decide) (by decide)) e242 N242 (1 : Int32) (3 : Int32) b163 b167 b169 b171 O0 (⟨E_b169, (Ins.of_exa E_b163 (wd hw 204 rfl)), b232, k232, Or.inr (Or.inl ⟨rfl, F_elementData_b169, F_size_b169, V_b232, E_b232⟩)⟩ : ALS Z h242 b169 b163 (1 : Int32)) (⟨E_b171, (Ins.of_exa E_b167 (wd hw 112 rfl)), b239, k239, Or.inr (Or.inr (Or.inr ⟨rfl, F_elementData_b171, F_size_b171, V_b239, E_b239⟩))⟩ : ALS Z h242 b171 b167 (3 : Int32))
  · skip
    rw [hz2]
    show Run p e below _ (T172.setTop (mkF m 54 #[.val (.int p0), .val (.int p1), .val (.int (2 : Int32)), .val (.int (p1 &&& (3 : Int32))), .val (.ref b163), .val (.ref b167), .val (.ref b169), .val (.ref b171), .unset, .unset] []))
    refine go (fun _ => XS.iloadN X172.here hx rfl (hb hby at_54) rfl) ?_
    show Run p e below _ (T172.setTop (mkF m 55 #[.val (.int p0), .val (.int p1), .val (.int (2 : Int32)), .val (.int (p1 &&& (3 : Int32))), .val (.ref b163), .val (.ref b167), .val (.ref b169), .val (.ref b171), .unset, .unset] [(.int (2 : Int32))]))
    refine go (fun _ => XS.ifNo X172.here hx rfl (hb hby at_55) rfl ((if0 _ _).trans (tlt (by decide : (0 : Int32) < 2)).2.2.2)) ?_
    show Run p e below _ (T172.setTop (mkF m 58 #[.val (.int p0), .val (.int p1), .val (.int (2 : Int32)), .val (.int (p1 &&& (3 : Int32))), .val (.ref b163), .val (.ref b167), .val (.ref b169), .val (.ref b171), .unset, .unset] []))
    refine go (fun _ => XS.aload X172.here hx rfl (hb hby at_58) rfl rfl) ?_
    show Run p e below _ (T172.setTop (mkF m 60 #[.val (.int p0), .val (.int p1), .val (.int (2 : Int32)), .val (.int (p1 &&& (3 : Int32))), .val (.ref b163), .val (.ref b167), .val (.ref b169), .val (.ref b171), .unset, .unset] [(.ref b169)]))
    refine go (fun _ => XS.aload X172.here hx rfl (hb hby at_60) rfl rfl) ?_
    show Run p e below _ (T172.setTop (mkF m 62 #[.val (.int p0), .val (.int p1), .val (.int (2 : Int32)), .val (.int (p1 &&& (3 : Int32))), .val (.ref b163), .val (.ref b167), .val (.ref b169), .val (.ref b171), .unset, .unset] [(.ref b163), (.ref b169)]))
    refine callIf X172 hx hZ hown (wd hw 80 rfl) (wd hw 81 rfl) (wd hw 82 rfl) rfl (wd hw 83 rfl) (wd hw 84 rfl) (wd hw 85 rfl) (wd hw 86 rfl) (wd hw 87 rfl) (wd hw 88 rfl) (wd hw 5 rfl) (by decide) e172 E_b169 (argsL := [(.ref b163)]) (rest := []) (rm_add0_3 l Z a0 hw [] b169 b163 wD kD (0 : Int32) h172 n0 O0 S_DEFAULTCAPACITY_EMPTY_ELEMENTDATA VD E_b169 F_modCount_b169 F_elementData_b169 F_size_b169 g_b169 E_b163 ne_b163_b169) (W := 0) (by decide) (by decide) (by decide) (by decide) (by rw [hml]; rfl) (lenOf pd_18 rfl) rfl (Nat.le_of_eq rfl) (hb hby at_62) ?_
    intro v243 T243 L243 h243 X243 e243 q243
    have lt244_b163 := E_b163.lt
    have lt244_b167 := E_b167.lt
    have lt244_b169 := E_b169.lt
    have lt244_b171 := E_b171.lt
    obtain ⟨b243, k243, rfl, n243, K243, sb243, g_b243, E_b169, F_modCount_b169, F_elementData_b169, F_size_b169, O243, V_b243, E_b243⟩ := q243
    have ne_b163_b243 : b163 ≠ b243 := Nat.ne_of_lt (Nat.lt_of_lt_of_le lt244_b163 sb243)
    have ne_b167_b243 : b167 ≠ b243 := Nat.ne_of_lt (Nat.lt_of_lt_of_le lt244_b167 sb243)
    have ne_b169_b243 : b169 ≠ b243 := Nat.ne_of_lt (Nat.lt_of_lt_of_le lt244_b169 sb243)
    have ne_b171_b243 : b171 ≠ b243 := Nat.ne_of_lt (Nat.lt_of_lt_of_le lt244_b171 sb243)
    have O0 := O0.keep K243 (allS g_b169 all0)
    have E_b163 := E_b163.keep K243
    have E_b167 := E_b167.keep K243
    have E_b171 := E_b171.keep K243
    have F_modCount_b171 := F_modCount_b171.keep K243 (ninS (Ne.symm ne_b169_b171) nin0)
    have F_elementData_b171 := F_elementData_b171.keep K243 (ninS (Ne.symm ne_b169_b171) nin0)
    have F_size_b171 := F_size_b171.keep K243 (ninS (Ne.symm ne_b169_b171) nin0)
    have N243 := Fr.app N172 n243
    show Run p e below _ (T243.setTop (mkF m 67 #[.val (.int p0), .val (.int p1), .val (.int (2 : Int32)), .val (.int (p1 &&& (3 : Int32))), .val (.ref b163), .val (.ref b167), .val (.ref b169), .val (.ref b171), .unset, .unset] [(.int (1 : Int32))]))
    refine go (fun _ => XS.pop X243.here hx rfl (hb hby at_67) rfl rfl) ?_
    show Run p e below _ (T243.setTop (mkF m 68 #[.val (.int p0), .val (.int p1), .val (.int (2 : Int32)), .val (.int (p1 &&& (3 : Int32))), .val (.ref b163), .val (.ref b167), .val (.ref b169), .val (.ref b171), .unset, .unset] []))
    refine go (fun _ => XS.iloadN X243.here hx rfl (hb hby at_68) rfl) ?_
    show Run p e below _ (T243.setTop (mkF m 69 #[.val (.int p0), .val (.int p1), .val (.int (2 : Int32)), .val (.int (p1 &&& (3 : Int32))), .val (.ref b163), .val (.ref b167), .val (.ref b169), .val (.ref b171), .unset, .unset] [(.int (2 : Int32))]))
    refine go (fun _ => XS.iconst X243.here hx rfl (hb hby at_69)) ?_
    show Run p e below _ (T243.setTop (mkF m 70 #[.val (.int p0), .val (.int p1), .val (.int (2 : Int32)), .val (.int (p1 &&& (3 : Int32))), .val (.ref b163), .val (.ref b167), .val (.ref b169), .val (.ref b171), .unset, .unset] [(.int (1 : Int32)), (.int (2 : Int32))]))
    refine go (fun _ => XS.icmpNo X243.here hx rfl (hb hby at_70) rfl (tlt (by decide : (1 : Int32) < 2)).2.2.2) ?_
    show Run p e below _ (T243.setTop (mkF m 73 #[.val (.int p0), .val (.int p1), .val (.int (2 : Int32)), .val (.int (p1 &&& (3 : Int32))), .val (.ref b163), .val (.ref b167), .val (.ref b169), .val (.ref b171), .unset, .unset] []))
    refine go (fun _ => XS.aload X243.here hx rfl (hb hby at_73) rfl rfl) ?_
    show Run p e below _ (T243.setTop (mkF m 75 #[.val (.int p0), .val (.int p1), .val (.int (2 : Int32)), .val (.int (p1 &&& (3 : Int32))), .val (.ref b163), .val (.ref b167), .val (.ref b169), .val (.ref b171), .unset, .unset] [(.ref b169)]))
    refine go (fun _ => XS.aload X243.here hx rfl (hb hby at_75) rfl rfl) ?_
    show Run p e below _ (T243.setTop (mkF m 77 #[.val (.int p0), .val (.int p1), .val (.int (2 : Int32)), .val (.int (p1 &&& (3 : Int32))), .val (.ref b163), .val (.ref b167), .val (.ref b169), .val (.ref b171), .unset, .unset] [(.ref b163), (.ref b169)]))
    refine callIf X243 hx hZ hown (wd hw 80 rfl) (wd hw 81 rfl) (wd hw 82 rfl) rfl (wd hw 83 rfl) (wd hw 84 rfl) (wd hw 85 rfl) (wd hw 86 rfl) (wd hw 87 rfl) (wd hw 88 rfl) (wd hw 5 rfl) (by decide) e243 E_b169 (argsL := [(.ref b163)]) (rest := []) (rm_add1_4 l Z a0 hw [] b169 b163 b243 k243 ((0 : Int32) + (1 : Int32)) (.ref b163) h243 n0 O0 E_b169 F_modCount_b169 F_elementData_b169 F_size_b169 V_b243 O243 g_b169 g_b243 (Ne.symm ne_b169_b243) E_b163 ne_b163_b169 ne_b163_b243) (W := 0) (by decide) (by decide) (by decide) (by decide) (by rw [hml]; rfl) (lenOf pd_18 rfl) rfl (Nat.le_of_eq rfl) (hb hby at_77) ?_
    intro v253 T253 L253 h253 X253 e253 q253
    obtain ⟨rfl, n253, K253, E_b169, F_modCount_b169, F_elementData_b169, F_size_b169, V_b243⟩ := q253
    have O0 := O0.keep K253 (allS g_b169 (allS g_b243 all0))
    have E_b163 := E_b163.keep K253
    have E_b167 := E_b167.keep K253
    have E_b171 := E_b171.keep K253
    have F_modCount_b171 := F_modCount_b171.keep K253 (ninS (Ne.symm ne_b169_b171) (ninS ne_b171_b243 nin0))
    have F_elementData_b171 := F_elementData_b171.keep K253 (ninS (Ne.symm ne_b169_b171) (ninS ne_b171_b243 nin0))
    have F_size_b171 := F_size_b171.keep K253 (ninS (Ne.symm ne_b169_b171) (ninS ne_b171_b243 nin0))
    have E_b243 := E_b243.keep K253
    have N253 := Fr.app N243 n253
    show Run p e below _ (T253.setTop (mkF m 82 #[.val (.int p0), .val (.int p1), .val (.int (2 : Int32)), .val (.int (p1 &&& (3 : Int32))), .val (.ref b163), .val (.ref b167), .val (.ref b169), .val (.ref b171), .unset, .unset] [(.int (1 : Int32))]))
    refine go (fun _ => XS.pop X253.here hx rfl (hb hby at_82) rfl rfl) ?_
    show Run p e below _ (T253.setTop (mkF m 83 #[.val (.int p0), .val (.int p1), .val (.int (2 : Int32)), .val (.int (p1 &&& (3 : Int32))), .val (.ref b163), .val (.ref b167), .val (.ref b169), .val (.ref b171), .unset, .unset] []))
    refine go (fun _ => XS.iloadN X253.here hx rfl (hb hby at_83) rfl) ?_
    show Run p e below _ (T253.setTop (mkF m 84 #[.val (.int p0), .val (.int p1), .val (.int (2 : Int32)), .val (.int (p1 &&& (3 : Int32))), .val (.ref b163), .val (.ref b167), .val (.ref b169), .val (.ref b171), .unset, .unset] [(.int (2 : Int32))]))
    refine go (fun _ => XS.iconst X253.here hx rfl (hb hby at_84)) ?_
    show Run p e below _ (T253.setTop (mkF m 85 #[.val (.int p0), .val (.int p1), .val (.int (2 : Int32)), .val (.int (p1 &&& (3 : Int32))), .val (.ref b163), .val (.ref b167), .val (.ref b169), .val (.ref b171), .unset, .unset] [(.int (2 : Int32)), (.int (2 : Int32))]))
    refine go (fun _ => XS.icmpYes X253.here hx rfl (pc0 := 85) (pc' := 98) rfl (hb hby at_85) rfl (flt (by decide : ¬ ((2 : Int32) < 2))).2.2.2 (by decide) (by decide)) ?_
    show Run p e below _ (T253.setTop (mkF m 98 #[.val (.int p0), .val (.int p1), .val (.int (2 : Int32)), .val (.int (p1 &&& (3 : Int32))), .val (.ref b163), .val (.ref b167), .val (.ref b169), .val (.ref b171), .unset, .unset] []))
    rcases own_and3 p1 with hz3 | hz3 | hz3 | hz3
    · skip
      rw [hz3]
      show Run p e below _ (T253.setTop (mkF m 98 #[.val (.int p0), .val (.int p1), .val (.int (2 : Int32)), .val (.int (0 : Int32)), .val (.ref b163), .val (.ref b167), .val (.ref b169), .val (.ref b171), .unset, .unset] []))
      refine go (fun _ => XS.iloadN X253.here hx rfl (hb hby at_98) rfl) ?_
      show Run p e below _ (T253.setTop (mkF m 99 #[.val (.int p0), .val (.int p1), .val (.int (2 : Int32)), .val (.int (0 : Int32)), .val (.ref b163), .val (.ref b167), .val (.ref b169), .val (.ref b171), .unset, .unset] [(.int (0 : Int32))]))
      refine go (fun _ => XS.ifYes X253.here hx rfl (pc0 := 99) (pc' := 112) rfl (hb hby at_99) rfl ((if0 _ _).trans (flt (by decide : ¬ ((0 : Int32) < 0))).2.2.2) (by decide) (by decide)) ?_
      show Run p e below _ (T253.setTop (mkF m 112 #[.val (.int p0), .val (.int p1), .val (.int (2 : Int32)), .val (.int (0 : Int32)), .val (.ref b163), .val (.ref b167), .val (.ref b169), .val (.ref b171), .unset, .unset] []))
      refine go (fun _ => XS.iloadN X253.here hx rfl (hb hby at_112) rfl) ?_
      show Run p e below _ (T253.setTop (mkF m 113 #[.val (.int p0), .val (.int p1), .val (.int (2 : Int32)), .val (.int (0 : Int32)), .val (.ref b163), .val (.ref b167), .val (.ref b169), .val (.ref b171), .unset, .unset] [(.int (0 : Int32))]))
      refine go (fun _ => XS.iconst X253.here hx rfl (hb hby at_113)) ?_
      show Run p e below _ (T253.setTop (mkF m 114 #[.val (.int p0), .val (.int p1), .val (.int (2 : Int32)), .val (.int (0 : Int32)), .val (.ref b163), .val (.ref b167), .val (.ref b169), .val (.ref b171), .unset, .unset] [(.int (1 : Int32)), (.int (0 : Int32))]))
      refine go (fun _ => XS.icmpYes X253.here hx rfl (pc0 := 114) (pc' := 127) rfl (hb hby at_114) rfl (flt (by decide : ¬ ((1 : Int32) < 0))).2.2.2 (by decide) (by decide)) ?_
      show Run p e below _ (T253.setTop (mkF m 127 #[.val (.int p0), .val (.int p1), .val (.int (2 : Int32)), .val (.int (0 : Int32)), .val (.ref b163), .val (.ref b167), .val (.ref b169), .val (.ref b171), .unset, .unset] []))
      refine go (fun _ => XS.iloadN X253.here hx rfl (hb hby at_127) rfl) ?_
      show Run p e below _ (T253.setTop (mkF m 128 #[.val (.int p0), .val (.int p1), .val (.int (2 : Int32)), .val (.int (0 : Int32)), .val (.ref b163), .val (.ref b167), .val (.ref b169), .val (.ref b171), .unset, .unset] [(.int (0 : Int32))]))
      refine go (fun _ => XS.iconst X253.here hx rfl (hb hby at_128)) ?_
      show Run p e below _ (T253.setTop (mkF m 129 #[.val (.int p0), .val (.int p1), .val (.int (2 : Int32)), .val (.int (0 : Int32)), .val (.ref b163), .val (.ref b167), .val (.ref b169), .val (.ref b171), .unset, .unset] [(.int (2 : Int32)), (.int (0 : Int32))]))
      refine go (fun _ => XS.icmpYes X253.here hx rfl (pc0 := 129) (pc' := 142) rfl (hb hby at_129) rfl (flt (by decide : ¬ ((2 : Int32) < 0))).2.2.2 (by decide) (by decide)) ?_
      show Run p e below _ (T253.setTop (mkF m 142 #[.val (.int p0), .val (.int p1), .val (.int (2 : Int32)), .val (.int (0 : Int32)), .val (.ref b163), .val (.ref b167), .val (.ref b169), .val (.ref b171), .unset, .unset] []))
      exact J142 _ _ _ (smono X253 (by decide) (by decide)) e253 N253 (2 : Int32) (0 : Int32) b163 b167 b169 b171 O0 (⟨E_b169, (Ins.of_exa E_b163 (wd hw 204 rfl)), b243, k243, Or.inr (Or.inr (Or.inl ⟨rfl, F_elementData_b169, F_size_b169, V_b243, E_b243⟩))⟩ : ALS Z h253 b169 b163 (2 : Int32)) (⟨E_b171, (Ins.of_exa E_b167 (wd hw 112 rfl)), wD, kD, Or.inl ⟨rfl, F_elementData_b171, F_size_b171⟩⟩ : ALS Z h253 b171 b167 (0 : Int32))
    · skip
      rw [hz3]
      show Run p e below _ (T253.setTop (mkF m 98 #[.val (.int p0), .val (.int p1), .val (.int (2 : Int32)), .val (.int (1 : Int32)), .val (.ref b163), .val (.ref b167), .val (.ref b169), .val (.ref b171), .unset, .unset] []))
      refine go (fun _ => XS.iloadN X253.here hx rfl (hb hby at_98) rfl) ?_
      show Run p e below _ (T253.setTop (mkF m 99 #[.val (.int p0), .val (.int p1), .val (.int (2 : Int32)), .val (.int (1 : Int32)), .val (.ref b163), .val (.ref b167), .val (.ref b169), .val (.ref b171), .unset, .unset] [(.int (1 : Int32))]))
      refine go (fun _ => XS.ifNo X253.here hx rfl (hb hby at_99) rfl ((if0 _ _).trans (tlt (by decide : (0 : Int32) < 1)).2.2.2)) ?_
      show Run p e below _ (T253.setTop (mkF m 102 #[.val (.int p0), .val (.int p1), .val (.int (2 : Int32)), .val (.int (1 : Int32)), .val (.ref b163), .val (.ref b167), .val (.ref b169), .val (.ref b171), .unset, .unset] []))
      refine go (fun _ => XS.aload X253.here hx rfl (hb hby at_102) rfl rfl) ?_
      show Run p e below _ (T253.setTop (mkF m 104 #[.val (.int p0), .val (.int p1), .val (.int (2 : Int32)), .val (.int (1 : Int32)), .val (.ref b163), .val (.ref b167), .val (.ref b169), .val (.ref b171), .unset, .unset] [(.ref b171)]))
      refine go (fun _ => XS.aload X253.here hx rfl (hb hby at_104) rfl rfl) ?_
      show Run p e below _ (T253.setTop (mkF m 106 #[.val (.int p0), .val (.int p1), .val (.int (2 : Int32)), .val (.int (1 : Int32)), .val (.ref b163), .val (.ref b167), .val (.ref b169), .val (.ref b171), .unset, .unset] [(.ref b167), (.ref b171)]))
      refine callIf X253 hx hZ hown (wd hw 80 rfl) (wd hw 81 rfl) (wd hw 82 rfl) rfl (wd hw 83 rfl) (wd hw 84 rfl) (wd hw 85 rfl) (wd hw 86 rfl) (wd hw 87 rfl) (wd hw 88 rfl) (wd hw 5 rfl) (by decide) e253 E_b171 (argsL := [(.ref b167)]) (rest := []) (rm_add0_0 l Z a0 hw [] b171 b167 wD kD (0 : Int32) h253 n0 O0 S_DEFAULTCAPACITY_EMPTY_ELEMENTDATA VD E_b171 F_modCount_b171 F_elementData_b171 F_size_b171 g_b171 E_b167 ne_b167_b171) (W := 0) (by decide) (by decide) (by decide) (by decide) (by rw [hml]; rfl) (lenOf pd_18 rfl) rfl (Nat.le_of_eq rfl) (hb hby at_106) ?_
      intro v254 T254 L254 h254 X254 e254 q254
      have lt255_b163 := E_b163.lt
      have lt255_b167 := E_b167.lt
      have lt255_b169 := E_b169.lt
      have lt255_b171 := E_b171.lt
      have lt255_b243 := E_b243.lt
      obtain ⟨b254, k254, rfl, n254, K254, sb254, g_b254, E_b171, F_modCount_b171, F_elementData_b171, F_size_b171, O254, V_b254, E_b254⟩ := q254
      have ne_b163_b254 : b163 ≠ b254 := Nat.ne_of_lt (Nat.lt_of_lt_of_le lt255_b163 sb254)
      have ne_b167_b254 : b167 ≠ b254 := Nat.ne_of_lt (Nat.lt_of_lt_of_le lt255_b167 sb254)
      have ne_b169_b254 : b169 ≠ b254 := Nat.ne_of_lt (Nat.lt_of_lt_of_le lt255_b169 sb254)
      have ne_b171_b254 : b171 ≠ b254 := Nat.ne_of_lt (Nat.lt_of_lt_of_le lt255_b171 sb254)
      have ne_b243_b254 : b243 ≠ b254 := Nat.ne_of_lt (Nat.lt_of_lt_of_le lt255_b243 sb254)
      have O0 := O0.keep K254 (allS g_b171 all0)
      have E_b163 := E_b163.keep K254
      have E_b167 := E_b167.keep K254
      have E_b169 := E_b169.keep K254
      have E_b243 := E_b243.keep K254
      have V_b243 := V_b243.keep K254 (ninS (Ne.symm ne_b171_b243) nin0)
      have F_modCount_b169 := F_modCount_b169.keep K254 (ninS ne_b169_b171 nin0)
      have F_elementData_b169 := F_elementData_b169.keep K254 (ninS ne_b169_b171 nin0)
      have F_size_b169 := F_size_b169.keep K254 (ninS ne_b169_b171 nin0)
      have N254 := Fr.app N253 n254
      show Run p e below _ (T254.setTop (mkF m 111 #[.val (.int p0), .val (.int p1), .val (.int (2 : Int32)), .val (.int (1 : Int32)), .val (.ref b163), .val (.ref b167), .val (.ref b169), .val (.ref b171), .unset, .unset] [(.int (1 : Int32))]))
      refine go (fun _ => XS.pop X254.here hx rfl (hb hby at_111) rfl rfl) ?_
      show Run p e below _ (T254.setTop (mkF m 112 #[.val (.int p0), .val (.int p1), .val (.int (2 : Int32)), .val (.int (1 : Int32)), .val (.ref b163), .val (.ref b167), .val (.ref b169), .val (.ref b171), .unset, .unset] []))
      refine go (fun _ => XS.iloadN X254.here hx rfl (hb hby at_112) rfl) ?_
      show Run p e below _ (T254.setTop (mkF m 113 #[.val (.int p0), .val (.int p1), .val (.int (2 : Int32)), .val (.int (1 : Int32)), .val (.ref b163), .val (.ref b167), .val (.ref b169), .val (.ref b171), .unset, .unset] [(.int (1 : Int32))]))
      refine go (fun _ => XS.iconst X254.here hx rfl (hb hby at_113)) ?_
      show Run p e below _ (T254.setTop (mkF m 114 #[.val (.int p0), .val (.int p1), .val (.int (2 : Int32)), .val (.int (1 : Int32)), .val (.ref b163), .val (.ref b167), .val (.ref b169), .val (.ref b171), .unset, .unset] [(.int (1 : Int32)), (.int (1 : Int32))]))
      refine go (fun _ => XS.icmpYes X254.here hx rfl (pc0 := 114) (pc' := 127) rfl (hb hby at_114) rfl (flt (by decide : ¬ ((1 : Int32) < 1))).2.2.2 (by decide) (by decide)) ?_
      show Run p e below _ (T254.setTop (mkF m 127 #[.val (.int p0), .val (.int p1), .val (.int (2 : Int32)), .val (.int (1 : Int32)), .val (.ref b163), .val (.ref b167), .val (.ref b169), .val (.ref b171), .unset, .unset] []))
      refine go (fun _ => XS.iloadN X254.here hx rfl (hb hby at_127) rfl) ?_
      show Run p e below _ (T254.setTop (mkF m 128 #[.val (.int p0), .val (.int p1), .val (.int (2 : Int32)), .val (.int (1 : Int32)), .val (.ref b163), .val (.ref b167), .val (.ref b169), .val (.ref b171), .unset, .unset] [(.int (1 : Int32))]))
      refine go (fun _ => XS.iconst X254.here hx rfl (hb hby at_128)) ?_
      show Run p e below _ (T254.setTop (mkF m 129 #[.val (.int p0), .val (.int p1), .val (.int (2 : Int32)), .val (.int (1 : Int32)), .val (.ref b163), .val (.ref b167), .val (.ref b169), .val (.ref b171), .unset, .unset] [(.int (2 : Int32)), (.int (1 : Int32))]))
      refine go (fun _ => XS.icmpYes X254.here hx rfl (pc0 := 129) (pc' := 142) rfl (hb hby at_129) rfl (flt (by decide : ¬ ((2 : Int32) < 1))).2.2.2 (by decide) (by decide)) ?_
      show Run p e below _ (T254.setTop (mkF m 142 #[.val (.int p0), .val (.int p1), .val (.int (2 : Int32)), .val (.int (1 : Int32)), .val (.ref b163), .val (.ref b167), .val (.ref b169), .val (.ref b171), .unset, .unset] []))
      exact J142 _ _ _ (smono X254 (by decide) (by decide)) e254 N254 (2 : Int32) (1 : Int32) b163 b167 b169 b171 O0 (⟨E_b169, (Ins.of_exa E_b163 (wd hw 204 rfl)), b243, k243, Or.inr (Or.inr (Or.inl ⟨rfl, F_elementData_b169, F_size_b169, V_b243, E_b243⟩))⟩ : ALS Z h254 b169 b163 (2 : Int32)) (⟨E_b171, (Ins.of_exa E_b167 (wd hw 112 rfl)), b254, k254, Or.inr (Or.inl ⟨rfl, F_elementData_b171, F_size_b171, V_b254, E_b254⟩)⟩ : ALS Z h254 b171 b167 (1 : Int32))
    · skip
      rw [hz3]
      show Run p e below _ (T253.setTop (mkF m 98 #[.val (.int p0), .val (.int p1), .val (.int (2 : Int32)), .val (.int (2 : Int32)), .val (.ref b163), .val (.ref b167), .val (.ref b169), .val (.ref b171), .unset, .unset] []))
      refine go (fun _ => XS.iloadN X253.here hx rfl (hb hby at_98) rfl) ?_
      show Run p e below _ (T253.setTop (mkF m 99 #[.val (.int p0), .val (.int p1), .val (.int (2 : Int32)), .val (.int (2 : Int32)), .val (.ref b163), .val (.ref b167), .val (.ref b169), .val (.ref b171), .unset, .unset] [(.int (2 : Int32))]))
      refine go (fun _ => XS.ifNo X253.here hx rfl (hb hby at_99) rfl ((if0 _ _).trans (tlt (by decide : (0 : Int32) < 2)).2.2.2)) ?_
      show Run p e below _ (T253.setTop (mkF m 102 #[.val (.int p0), .val (.int p1), .val (.int (2 : Int32)), .val (.int (2 : Int32)), .val (.ref b163), .val (.ref b167), .val (.ref b169), .val (.ref b171), .unset, .unset] []))
      refine go (fun _ => XS.aload X253.here hx rfl (hb hby at_102) rfl rfl) ?_
      show Run p e below _ (T253.setTop (mkF m 104 #[.val (.int p0), .val (.int p1), .val (.int (2 : Int32)), .val (.int (2 : Int32)), .val (.ref b163), .val (.ref b167), .val (.ref b169), .val (.ref b171), .unset, .unset] [(.ref b171)]))
      refine go (fun _ => XS.aload X253.here hx rfl (hb hby at_104) rfl rfl) ?_
      show Run p e below _ (T253.setTop (mkF m 106 #[.val (.int p0), .val (.int p1), .val (.int (2 : Int32)), .val (.int (2 : Int32)), .val (.ref b163), .val (.ref b167), .val (.ref b169), .val (.ref b171), .unset, .unset] [(.ref b167), (.ref b171)]))
      refine callIf X253 hx hZ hown (wd hw 80 rfl) (wd hw 81 rfl) (wd hw 82 rfl) rfl (wd hw 83 rfl) (wd hw 84 rfl) (wd hw 85 rfl) (wd hw 86 rfl) (wd hw 87 rfl) (wd hw 88 rfl) (wd hw 5 rfl) (by decide) e253 E_b171 (argsL := [(.ref b167)]) (rest := []) (rm_add0_0 l Z a0 hw [] b171 b167 wD kD (0 : Int32) h253 n0 O0 S_DEFAULTCAPACITY_EMPTY_ELEMENTDATA VD E_b171 F_modCount_b171 F_elementData_b171 F_size_b171 g_b171 E_b167 ne_b167_b171) (W := 0) (by decide) (by decide) (by decide) (by decide) (by rw [hml]; rfl) (lenOf pd_18 rfl) rfl (Nat.le_of_eq rfl) (hb hby at_106) ?_
      intro v256 T256 L256 h256 X256 e256 q256
      have lt257_b163 := E_b163.lt
      have lt257_b167 := E_b167.lt
      have lt257_b169 := E_b169.lt
      have lt257_b171 := E_b171.lt
      have lt257_b243 := E_b243.lt
      obtain ⟨b256, k256, rfl, n256, K256, sb256, g_b256, E_b171, F_modCount_b171, F_elementData_b171, F_size_b171, O256, V_b256, E_b256⟩ := q256
      have ne_b163_b256 : b163 ≠ b256 := Nat.ne_of_lt (Nat.lt_of_lt_of_le lt257_b163 sb256)
      have ne_b167_b256 : b167 ≠ b256 := Nat.ne_of_lt (Nat.lt_of_lt_of_le lt257_b167 sb256)
      have ne_b169_b256 : b169 ≠ b256 := Nat.ne_of_lt (Nat.lt_of_lt_of_le lt257_b169 sb256)
      have ne_b171_b256 : b171 ≠ b256 := Nat.ne_of_lt (Nat.lt_of_lt_of_le lt257_b171 sb256)
      have ne_b243_b256 : b243 ≠ b256 := Nat.ne_of_lt (Nat.lt_of_lt_of_le lt257_b243 sb256)
      have O0 := O0.keep K256 (allS g_b171 all0)
      have E_b163 := E_b163.keep K256
      have E_b167 := E_b167.keep K256
      have E_b169 := E_b169.keep K256
      have E_b243 := E_b243.keep K256
      have V_b243 := V_b243.keep K256 (ninS (Ne.symm ne_b171_b243) nin0)
      have F_modCount_b169 := F_modCount_b169.keep K256 (ninS ne_b169_b171 nin0)
      have F_elementData_b169 := F_elementData_b169.keep K256 (ninS ne_b169_b171 nin0)
      have F_size_b169 := F_size_b169.keep K256 (ninS ne_b169_b171 nin0)
      have N256 := Fr.app N253 n256
      show Run p e below _ (T256.setTop (mkF m 111 #[.val (.int p0), .val (.int p1), .val (.int (2 : Int32)), .val (.int (2 : Int32)), .val (.ref b163), .val (.ref b167), .val (.ref b169), .val (.ref b171), .unset, .unset] [(.int (1 : Int32))]))
      refine go (fun _ => XS.pop X256.here hx rfl (hb hby at_111) rfl rfl) ?_
      show Run p e below _ (T256.setTop (mkF m 112 #[.val (.int p0), .val (.int p1), .val (.int (2 : Int32)), .val (.int (2 : Int32)), .val (.ref b163), .val (.ref b167), .val (.ref b169), .val (.ref b171), .unset, .unset] []))
      refine go (fun _ => XS.iloadN X256.here hx rfl (hb hby at_112) rfl) ?_
      show Run p e below _ (T256.setTop (mkF m 113 #[.val (.int p0), .val (.int p1), .val (.int (2 : Int32)), .val (.int (2 : Int32)), .val (.ref b163), .val (.ref b167), .val (.ref b169), .val (.ref b171), .unset, .unset] [(.int (2 : Int32))]))
      refine go (fun _ => XS.iconst X256.here hx rfl (hb hby at_113)) ?_
      show Run p e below _ (T256.setTop (mkF m 114 #[.val (.int p0), .val (.int p1), .val (.int (2 : Int32)), .val (.int (2 : Int32)), .val (.ref b163), .val (.ref b167), .val (.ref b169), .val (.ref b171), .unset, .unset] [(.int (1 : Int32)), (.int (2 : Int32))]))
      refine go (fun _ => XS.icmpNo X256.here hx rfl (hb hby at_114) rfl (tlt (by decide : (1 : Int32) < 2)).2.2.2) ?_
      show Run p e below _ (T256.setTop (mkF m 117 #[.val (.int p0), .val (.int p1), .val (.int (2 : Int32)), .val (.int (2 : Int32)), .val (.ref b163), .val (.ref b167), .val (.ref b169), .val (.ref b171), .unset, .unset] []))
      refine go (fun _ => XS.aload X256.here hx rfl (hb hby at_117) rfl rfl) ?_
      show Run p e below _ (T256.setTop (mkF m 119 #[.val (.int p0), .val (.int p1), .val (.int (2 : Int32)), .val (.int (2 : Int32)), .val (.ref b163), .val (.ref b167), .val (.ref b169), .val (.ref b171), .unset, .unset] [(.ref b171)]))
      refine go (fun _ => XS.aload X256.here hx rfl (hb hby at_119) rfl rfl) ?_
      show Run p e below _ (T256.setTop (mkF m 121 #[.val (.int p0), .val (.int p1), .val (.int (2 : Int32)), .val (.int (2 : Int32)), .val (.ref b163), .val (.ref b167), .val (.ref b169), .val (.ref b171), .unset, .unset] [(.ref b167), (.ref b171)]))
      refine callIf X256 hx hZ hown (wd hw 80 rfl) (wd hw 81 rfl) (wd hw 82 rfl) rfl (wd hw 83 rfl) (wd hw 84 rfl) (wd hw 85 rfl) (wd hw 86 rfl) (wd hw 87 rfl) (wd hw 88 rfl) (wd hw 5 rfl) (by decide) e256 E_b171 (argsL := [(.ref b167)]) (rest := []) (rm_add1_1 l Z a0 hw [] b171 b167 b256 k256 ((0 : Int32) + (1 : Int32)) (.ref b167) h256 n0 O0 E_b171 F_modCount_b171 F_elementData_b171 F_size_b171 V_b256 O256 g_b171 g_b256 (Ne.symm ne_b171_b256) E_b167 ne_b167_b171 ne_b167_b256) (W := 0) (by decide) (by decide) (by decide) (by decide) (by rw [hml]; rfl) (lenOf pd_18 rfl) rfl (Nat.le_of_eq rfl) (hb hby at_121) ?_
      intro v258 T258 L258 h258 X258 e258 q258
      obtain ⟨rfl, n258, K258, E_b171, F_modCount_b171, F_elementData_b171, F_size_b171, V_b256⟩ := q258
      have O0 := O0.keep K258 (allS g_b171 (allS g_b256 all0))
      have E_b163 := E_b163.keep K258
      have E_b167 := E_b167.keep K258
      have E_b169 := E_b169.keep K258
      have E_b243 := E_b243.keep K258
      have V_b243 := V_b243.keep K258 (ninS (Ne.symm ne_b171_b243) (ninS ne_b243_b256 nin0))
      have F_modCount_b169 := F_modCount_b169.keep K258 (ninS ne_b169_b171 (ninS ne_b169_b256 nin0))
      have F_elementData_b169 := F_elementData_b169.keep K258 (ninS ne_b169_b171 (ninS ne_b169_b256 nin0))
      have F_size_b169 := F_size_b169.keep K258 (ninS ne_b169_b171 (ninS ne_b169_b256 nin0))
      have E_b256 := E_b256.keep K258
      have N258 := Fr.app N256 n258
      show Run p e below _ (T258.setTop (mkF m 126 #[.val (.int p0), .val (.int p1), .val (.int (2 : Int32)), .val (.int (2 : Int32)), .val (.ref b163), .val (.ref b167), .val (.ref b169), .val (.ref b171), .unset, .unset] [(.int (1 : Int32))]))
      refine go (fun _ => XS.pop X258.here hx rfl (hb hby at_126) rfl rfl) ?_
      show Run p e below _ (T258.setTop (mkF m 127 #[.val (.int p0), .val (.int p1), .val (.int (2 : Int32)), .val (.int (2 : Int32)), .val (.ref b163), .val (.ref b167), .val (.ref b169), .val (.ref b171), .unset, .unset] []))
      refine go (fun _ => XS.iloadN X258.here hx rfl (hb hby at_127) rfl) ?_
      show Run p e below _ (T258.setTop (mkF m 128 #[.val (.int p0), .val (.int p1), .val (.int (2 : Int32)), .val (.int (2 : Int32)), .val (.ref b163), .val (.ref b167), .val (.ref b169), .val (.ref b171), .unset, .unset] [(.int (2 : Int32))]))
      refine go (fun _ => XS.iconst X258.here hx rfl (hb hby at_128)) ?_
      show Run p e below _ (T258.setTop (mkF m 129 #[.val (.int p0), .val (.int p1), .val (.int (2 : Int32)), .val (.int (2 : Int32)), .val (.ref b163), .val (.ref b167), .val (.ref b169), .val (.ref b171), .unset, .unset] [(.int (2 : Int32)), (.int (2 : Int32))]))
      refine go (fun _ => XS.icmpYes X258.here hx rfl (pc0 := 129) (pc' := 142) rfl (hb hby at_129) rfl (flt (by decide : ¬ ((2 : Int32) < 2))).2.2.2 (by decide) (by decide)) ?_
      show Run p e below _ (T258.setTop (mkF m 142 #[.val (.int p0), .val (.int p1), .val (.int (2 : Int32)), .val (.int (2 : Int32)), .val (.ref b163), .val (.ref b167), .val (.ref b169), .val (.ref b171), .unset, .unset] []))
      exact J142 _ _ _ (smono X258 (by decide) (by decide)) e258 N258 (2 : Int32) (2 : Int32) b163 b167 b169 b171 O0 (⟨E_b169, (Ins.of_exa E_b163 (wd hw 204 rfl)), b243, k243, Or.inr (Or.inr (Or.inl ⟨rfl, F_elementData_b169, F_size_b169, V_b243, E_b243⟩))⟩ : ALS Z h258 b169 b163 (2 : Int32)) (⟨E_b171, (Ins.of_exa E_b167 (wd hw 112 rfl)), b256, k256, Or.inr (Or.inr (Or.inl ⟨rfl, F_elementData_b171, F_size_b171, V_b256, E_b256⟩))⟩ : ALS Z h258 b171 b167 (2 : Int32))
    · skip
      rw [hz3]
      show Run p e below _ (T253.setTop (mkF m 98 #[.val (.int p0), .val (.int p1), .val (.int (2 : Int32)), .val (.int (3 : Int32)), .val (.ref b163), .val (.ref b167), .val (.ref b169), .val (.ref b171), .unset, .unset] []))
      refine go (fun _ => XS.iloadN X253.here hx rfl (hb hby at_98) rfl) ?_
      show Run p e below _ (T253.setTop (mkF m 99 #[.val (.int p0), .val (.int p1), .val (.int (2 : Int32)), .val (.int (3 : Int32)), .val (.ref b163), .val (.ref b167), .val (.ref b169), .val (.ref b171), .unset, .unset] [(.int (3 : Int32))]))
      refine go (fun _ => XS.ifNo X253.here hx rfl (hb hby at_99) rfl ((if0 _ _).trans (tlt (by decide : (0 : Int32) < 3)).2.2.2)) ?_
      show Run p e below _ (T253.setTop (mkF m 102 #[.val (.int p0), .val (.int p1), .val (.int (2 : Int32)), .val (.int (3 : Int32)), .val (.ref b163), .val (.ref b167), .val (.ref b169), .val (.ref b171), .unset, .unset] []))
      refine go (fun _ => XS.aload X253.here hx rfl (hb hby at_102) rfl rfl) ?_
      show Run p e below _ (T253.setTop (mkF m 104 #[.val (.int p0), .val (.int p1), .val (.int (2 : Int32)), .val (.int (3 : Int32)), .val (.ref b163), .val (.ref b167), .val (.ref b169), .val (.ref b171), .unset, .unset] [(.ref b171)]))
      refine go (fun _ => XS.aload X253.here hx rfl (hb hby at_104) rfl rfl) ?_
      show Run p e below _ (T253.setTop (mkF m 106 #[.val (.int p0), .val (.int p1), .val (.int (2 : Int32)), .val (.int (3 : Int32)), .val (.ref b163), .val (.ref b167), .val (.ref b169), .val (.ref b171), .unset, .unset] [(.ref b167), (.ref b171)]))
      refine callIf X253 hx hZ hown (wd hw 80 rfl) (wd hw 81 rfl) (wd hw 82 rfl) rfl (wd hw 83 rfl) (wd hw 84 rfl) (wd hw 85 rfl) (wd hw 86 rfl) (wd hw 87 rfl) (wd hw 88 rfl) (wd hw 5 rfl) (by decide) e253 E_b171 (argsL := [(.ref b167)]) (rest := []) (rm_add0_0 l Z a0 hw [] b171 b167 wD kD (0 : Int32) h253 n0 O0 S_DEFAULTCAPACITY_EMPTY_ELEMENTDATA VD E_b171 F_modCount_b171 F_elementData_b171 F_size_b171 g_b171 E_b167 ne_b167_b171) (W := 0) (by decide) (by decide) (by decide) (by decide) (by rw [hml]; rfl) (lenOf pd_18 rfl) rfl (Nat.le_of_eq rfl) (hb hby at_106) ?_
      intro v259 T259 L259 h259 X259 e259 q259
      have lt260_b163 := E_b163.lt
      have lt260_b167 := E_b167.lt
      have lt260_b169 := E_b169.lt
      have lt260_b171 := E_b171.lt
      have lt260_b243 := E_b243.lt
      obtain ⟨b259, k259, rfl, n259, K259, sb259, g_b259, E_b171, F_modCount_b171, F_elementData_b171, F_size_b171, O259, V_b259, E_b259⟩ := q259
      have ne_b163_b259 : b163 ≠ b259 := Nat.ne_of_lt (Nat.lt_of_lt_of_le lt260_b163 sb259)
      have ne_b167_b259 : b167 ≠ b259 := Nat.ne_of_lt (Nat.lt_of_lt_of_le lt260_b167 sb259)
      have ne_b169_b259 : b169 ≠ b259 := Nat.ne_of_lt (Nat.lt_of_lt_of_le lt260_b169 sb259)
      have ne_b171_b259 : b171 ≠ b259 := Nat.ne_of_lt (Nat.lt_of_lt_of_le lt260_b171 sb259)
      have ne_b243_b259 : b243 ≠ b259 := Nat.ne_of_lt (Nat.lt_of_lt_of_le lt260_b243 sb259)
      have O0 := O0.keep K259 (allS g_b171 all0)
      have E_b163 := E_b163.keep K259
      have E_b167 := E_b167.keep K259
      have E_b169 := E_b169.keep K259
      have E_b243 := E_b243.keep K259
      have V_b243 := V_b243.keep K259 (ninS (Ne.symm ne_b171_b243) nin0)
      have F_modCount_b169 := F_modCount_b169.keep K259 (ninS ne_b169_b171 nin0)
      have F_elementData_b169 := F_elementData_b169.keep K259 (ninS ne_b169_b171 nin0)
      have F_size_b169 := F_size_b169.keep K259 (ninS ne_b169_b171 nin0)
      have N259 := Fr.app N253 n259
      show Run p e below _ (T259.setTop (mkF m 111 #[.val (.int p0), .val (.int p1), .val (.int (2 : Int32)), .val (.int (3 : Int32)), .val (.ref b163), .val (.ref b167), .val (.ref b169), .val (.ref b171), .unset, .unset] [(.int (1 : Int32))]))
      refine go (fun _ => XS.pop X259.here hx rfl (hb hby at_111) rfl rfl) ?_
      show Run p e below _ (T259.setTop (mkF m 112 #[.val (.int p0), .val (.int p1), .val (.int (2 : Int32)), .val (.int (3 : Int32)), .val (.ref b163), .val (.ref b167), .val (.ref b169), .val (.ref b171), .unset, .unset] []))
      refine go (fun _ => XS.iloadN X259.here hx rfl (hb hby at_112) rfl) ?_
      show Run p e below _ (T259.setTop (mkF m 113 #[.val (.int p0), .val (.int p1), .val (.int (2 : Int32)), .val (.int (3 : Int32)), .val (.ref b163), .val (.ref b167), .val (.ref b169), .val (.ref b171), .unset, .unset] [(.int (3 : Int32))]))
      refine go (fun _ => XS.iconst X259.here hx rfl (hb hby at_113)) ?_
      show Run p e below _ (T259.setTop (mkF m 114 #[.val (.int p0), .val (.int p1), .val (.int (2 : Int32)), .val (.int (3 : Int32)), .val (.ref b163), .val (.ref b167), .val (.ref b169), .val (.ref b171), .unset, .unset] [(.int (1 : Int32)), (.int (3 : Int32))]))
      refine go (fun _ => XS.icmpNo X259.here hx rfl (hb hby at_114) rfl (tlt (by decide : (1 : Int32) < 3)).2.2.2) ?_
      show Run p e below _ (T259.setTop (mkF m 117 #[.val (.int p0), .val (.int p1), .val (.int (2 : Int32)), .val (.int (3 : Int32)), .val (.ref b163), .val (.ref b167), .val (.ref b169), .val (.ref b171), .unset, .unset] []))
      refine go (fun _ => XS.aload X259.here hx rfl (hb hby at_117) rfl rfl) ?_
      show Run p e below _ (T259.setTop (mkF m 119 #[.val (.int p0), .val (.int p1), .val (.int (2 : Int32)), .val (.int (3 : Int32)), .val (.ref b163), .val (.ref b167), .val (.ref b169), .val (.ref b171), .unset, .unset] [(.ref b171)]))
      refine go (fun _ => XS.aload X259.here hx rfl (hb hby at_119) rfl rfl) ?_
      show Run p e below _ (T259.setTop (mkF m 121 #[.val (.int p0), .val (.int p1), .val (.int (2 : Int32)), .val (.int (3 : Int32)), .val (.ref b163), .val (.ref b167), .val (.ref b169), .val (.ref b171), .unset, .unset] [(.ref b167), (.ref b171)]))
      refine callIf X259 hx hZ hown (wd hw 80 rfl) (wd hw 81 rfl) (wd hw 82 rfl) rfl (wd hw 83 rfl) (wd hw 84 rfl) (wd hw 85 rfl) (wd hw 86 rfl) (wd hw 87 rfl) (wd hw 88 rfl) (wd hw 5 rfl) (by decide) e259 E_b171 (argsL := [(.ref b167)]) (rest := []) (rm_add1_1 l Z a0 hw [] b171 b167 b259 k259 ((0 : Int32) + (1 : Int32)) (.ref b167) h259 n0 O0 E_b171 F_modCount_b171 F_elementData_b171 F_size_b171 V_b259 O259 g_b171 g_b259 (Ne.symm ne_b171_b259) E_b167 ne_b167_b171 ne_b167_b259) (W := 0) (by decide) (by decide) (by decide) (by decide) (by rw [hml]; rfl) (lenOf pd_18 rfl) rfl (Nat.le_of_eq rfl) (hb hby at_121) ?_
      intro v261 T261 L261 h261 X261 e261 q261
      obtain ⟨rfl, n261, K261, E_b171, F_modCount_b171, F_elementData_b171, F_size_b171, V_b259⟩ := q261
      have O0 := O0.keep K261 (allS g_b171 (allS g_b259 all0))
      have E_b163 := E_b163.keep K261
      have E_b167 := E_b167.keep K261
      have E_b169 := E_b169.keep K261
      have E_b243 := E_b243.keep K261
      have V_b243 := V_b243.keep K261 (ninS (Ne.symm ne_b171_b243) (ninS ne_b243_b259 nin0))
      have F_modCount_b169 := F_modCount_b169.keep K261 (ninS ne_b169_b171 (ninS ne_b169_b259 nin0))
      have F_elementData_b169 := F_elementData_b169.keep K261 (ninS ne_b169_b171 (ninS ne_b169_b259 nin0))
      have F_size_b169 := F_size_b169.keep K261 (ninS ne_b169_b171 (ninS ne_b169_b259 nin0))
      have E_b259 := E_b259.keep K261
      have N261 := Fr.app N259 n261
      show Run p e below _ (T261.setTop (mkF m 126 #[.val (.int p0), .val (.int p1), .val (.int (2 : Int32)), .val (.int (3 : Int32)), .val (.ref b163), .val (.ref b167), .val (.ref b169), .val (.ref b171), .unset, .unset] [(.int (1 : Int32))]))
      refine go (fun _ => XS.pop X261.here hx rfl (hb hby at_126) rfl rfl) ?_
      show Run p e below _ (T261.setTop (mkF m 127 #[.val (.int p0), .val (.int p1), .val (.int (2 : Int32)), .val (.int (3 : Int32)), .val (.ref b163), .val (.ref b167), .val (.ref b169), .val (.ref b171), .unset, .unset] []))
      refine go (fun _ => XS.iloadN X261.here hx rfl (hb hby at_127) rfl) ?_
      show Run p e below _ (T261.setTop (mkF m 128 #[.val (.int p0), .val (.int p1), .val (.int (2 : Int32)), .val (.int (3 : Int32)), .val (.ref b163), .val (.ref b167), .val (.ref b169), .val (.ref b171), .unset, .unset] [(.int (3 : Int32))]))
      refine go (fun _ => XS.iconst X261.here hx rfl (hb hby at_128)) ?_
      show Run p e below _ (T261.setTop (mkF m 129 #[.val (.int p0), .val (.int p1), .val (.int (2 : Int32)), .val (.int (3 : Int32)), .val (.ref b163), .val (.ref b167), .val (.ref b169), .val (.ref b171), .unset, .unset] [(.int (2 : Int32)), (.int (3 : Int32))]))
      refine go (fun _ => XS.icmpNo X261.here hx rfl (hb hby at_129) rfl (tlt (by decide : (2 : Int32) < 3)).2.2.2) ?_
      show Run p e below _ (T261.setTop (mkF m 132 #[.val (.int p0), .val (.int p1), .val (.int (2 : Int32)), .val (.int (3 : Int32)), .val (.ref b163), .val (.ref b167), .val (.ref b169), .val (.ref b171), .unset, .unset] []))
      refine go (fun _ => XS.aload X261.here hx rfl (hb hby at_132) rfl rfl) ?_
      show Run p e below _ (T261.setTop (mkF m 134 #[.val (.int p0), .val (.int p1), .val (.int (2 : Int32)), .val (.int (3 : Int32)), .val (.ref b163), .val (.ref b167), .val (.ref b169), .val (.ref b171), .unset, .unset] [(.ref b171)]))
      refine go (fun _ => XS.aload X261.here hx rfl (hb hby at_134) rfl rfl) ?_
      show Run p e below _ (T261.setTop (mkF m 136 #[.val (.int p0), .val (.int p1), .val (.int (2 : Int32)), .val (.int (3 : Int32)), .val (.ref b163), .val (.ref b167), .val (.ref b169), .val (.ref b171), .unset, .unset] [(.ref b167), (.ref b171)]))
      refine callIf X261 hx hZ hown (wd hw 80 rfl) (wd hw 81 rfl) (wd hw 82 rfl) rfl (wd hw 83 rfl) (wd hw 84 rfl) (wd hw 85 rfl) (wd hw 86 rfl) (wd hw 87 rfl) (wd hw 88 rfl) (wd hw 5 rfl) (by decide) e261 E_b171 (argsL := [(.ref b167)]) (rest := []) (rm_add2_2 l Z a0 hw [] b171 b167 b259 k259 (((0 : Int32) + (1 : Int32)) + (1 : Int32)) (.ref b167) (.ref b167) h261 n0 O0 E_b171 F_modCount_b171 F_elementData_b171 F_size_b171 V_b259 O259 g_b171 g_b259 (Ne.symm ne_b171_b259) E_b167 ne_b167_b171 ne_b167_b259) (W := 0) (by decide) (by decide) (by decide) (by decide) (by rw [hml]; rfl) (lenOf pd_18 rfl) rfl (Nat.le_of_eq rfl) (hb hby at_136) ?_
      intro v262 T262 L262 h262 X262 e262 q262
      obtain ⟨rfl, n262, K262, E_b171, F_modCount_b171, F_elementData_b171, F_size_b171, V_b259⟩ := q262
      have O0 := O0.keep K262 (allS g_b171 (allS g_b259 all0))
      have E_b163 := E_b163.keep K262
      have E_b167 := E_b167.keep K262
      have E_b169 := E_b169.keep K262
      have E_b243 := E_b243.keep K262
      have V_b243 := V_b243.keep K262 (ninS (Ne.symm ne_b171_b243) (ninS ne_b243_b259 nin0))
      have F_modCount_b169 := F_modCount_b169.keep K262 (ninS ne_b169_b171 (ninS ne_b169_b259 nin0))
      have F_elementData_b169 := F_elementData_b169.keep K262 (ninS ne_b169_b171 (ninS ne_b169_b259 nin0))
      have F_size_b169 := F_size_b169.keep K262 (ninS ne_b169_b171 (ninS ne_b169_b259 nin0))
      have E_b259 := E_b259.keep K262
      have N262 := Fr.app N261 n262
      show Run p e below _ (T262.setTop (mkF m 141 #[.val (.int p0), .val (.int p1), .val (.int (2 : Int32)), .val (.int (3 : Int32)), .val (.ref b163), .val (.ref b167), .val (.ref b169), .val (.ref b171), .unset, .unset] [(.int (1 : Int32))]))
      refine go (fun _ => XS.pop X262.here hx rfl (hb hby at_141) rfl rfl) ?_
      show Run p e below _ (T262.setTop (mkF m 142 #[.val (.int p0), .val (.int p1), .val (.int (2 : Int32)), .val (.int (3 : Int32)), .val (.ref b163), .val (.ref b167), .val (.ref b169), .val (.ref b171), .unset, .unset] []))
      exact J142 _ _ _ (smono X262 (by decide) (by decide)) e262 N262 (2 : Int32) (3 : Int32) b163 b167 b169 b171 O0 (⟨E_b169, (Ins.of_exa E_b163 (wd hw 204 rfl)), b243, k243, Or.inr (Or.inr (Or.inl ⟨rfl, F_elementData_b169, F_size_b169, V_b243, E_b243⟩))⟩ : ALS Z h262 b169 b163 (2 : Int32)) (⟨E_b171, (Ins.of_exa E_b167 (wd hw 112 rfl)), b259, k259, Or.inr (Or.inr (Or.inr ⟨rfl, F_elementData_b171, F_size_b171, V_b259, E_b259⟩))⟩ : ALS Z h262 b171 b167 (3 : Int32))
  · skip
    rw [hz2]
    show Run p e below _ (T172.setTop (mkF m 54 #[.val (.int p0), .val (.int p1), .val (.int (3 : Int32)), .val (.int (p1 &&& (3 : Int32))), .val (.ref b163), .val (.ref b167), .val (.ref b169), .val (.ref b171), .unset, .unset] []))
    refine go (fun _ => XS.iloadN X172.here hx rfl (hb hby at_54) rfl) ?_
    show Run p e below _ (T172.setTop (mkF m 55 #[.val (.int p0), .val (.int p1), .val (.int (3 : Int32)), .val (.int (p1 &&& (3 : Int32))), .val (.ref b163), .val (.ref b167), .val (.ref b169), .val (.ref b171), .unset, .unset] [(.int (3 : Int32))]))
    refine go (fun _ => XS.ifNo X172.here hx rfl (hb hby at_55) rfl ((if0 _ _).trans (tlt (by decide : (0 : Int32) < 3)).2.2.2)) ?_
    show Run p e below _ (T172.setTop (mkF m 58 #[.val (.int p0), .val (.int p1), .val (.int (3 : Int32)), .val (.int (p1 &&& (3 : Int32))), .val (.ref b163), .val (.ref b167), .val (.ref b169), .val (.ref b171), .unset, .unset] []))
    refine go (fun _ => XS.aload X172.here hx rfl (hb hby at_58) rfl rfl) ?_
    show Run p e below _ (T172.setTop (mkF m 60 #[.val (.int p0), .val (.int p1), .val (.int (3 : Int32)), .val (.int (p1 &&& (3 : Int32))), .val (.ref b163), .val (.ref b167), .val (.ref b169), .val (.ref b171), .unset, .unset] [(.ref b169)]))
    refine go (fun _ => XS.aload X172.here hx rfl (hb hby at_60) rfl rfl) ?_
    show Run p e below _ (T172.setTop (mkF m 62 #[.val (.int p0), .val (.int p1), .val (.int (3 : Int32)), .val (.int (p1 &&& (3 : Int32))), .val (.ref b163), .val (.ref b167), .val (.ref b169), .val (.ref b171), .unset, .unset] [(.ref b163), (.ref b169)]))
    refine callIf X172 hx hZ hown (wd hw 80 rfl) (wd hw 81 rfl) (wd hw 82 rfl) rfl (wd hw 83 rfl) (wd hw 84 rfl) (wd hw 85 rfl) (wd hw 86 rfl) (wd hw 87 rfl) (wd hw 88 rfl) (wd hw 5 rfl) (by decide) e172 E_b169 (argsL := [(.ref b163)]) (rest := []) (rm_add0_3 l Z a0 hw [] b169 b163 wD kD (0 : Int32) h172 n0 O0 S_DEFAULTCAPACITY_EMPTY_ELEMENTDATA VD E_b169 F_modCount_b169 F_elementData_b169 F_size_b169 g_b169 E_b163 ne_b163_b169) (W := 0) (by decide) (by decide) (by decide) (by decide) (by rw [hml]; rfl) (lenOf pd_18 rfl) rfl (Nat.le_of_eq rfl) (hb hby at_62) ?_
    intro v263 T263 L263 h263 X263 e263 q263
    have lt264_b163 := E_b163.lt
    have lt264_b167 := E_b167.lt
    have lt264_b169 := E_b169.lt
    have lt264_b171 := E_b171.lt
    obtain ⟨b263, k263, rfl, n263, K263, sb263, g_b263, E_b169, F_modCount_b169, F_elementData_b169, F_size_b169, O263, V_b263, E_b263⟩ := q263
    have ne_b163_b263 : b163 ≠ b263 := Nat.ne_of_lt (Nat.lt_of_lt_of_le lt264_b163 sb263)
    have ne_b167_b263 : b167 ≠ b263 := Nat.ne_of_lt (Nat.lt_of_lt_of_le lt264_b167 sb263)
    have ne_b169_b263 : b169 ≠ b263 := Nat.ne_of_lt (Nat.lt_of_lt_of_le lt264_b169 sb263)
    have ne_b171_b263 : b171 ≠ b263 := Nat.ne_of_lt (Nat.lt_of_lt_of_le lt264_b171 sb263)
    have O0 := O0.keep K263 (allS g_b169 all0)
    have E_b163 := E_b163.keep K263
    have E_b167 := E_b167.keep K263
    have E_b171 := E_b171.keep K263
    have F_modCount_b171 := F_modCount_b171.keep K263 (ninS (Ne.symm ne_b169_b171) nin0)
    have F_elementData_b171 := F_elementData_b171.keep K263 (ninS (Ne.symm ne_b169_b171) nin0)
    have F_size_b171 := F_size_b171.keep K263 (ninS (Ne.symm ne_b169_b171) nin0)
    have N263 := Fr.app N172 n263
    show Run p e below _ (T263.setTop (mkF m 67 #[.val (.int p0), .val (.int p1), .val (.int (3 : Int32)), .val (.int (p1 &&& (3 : Int32))), .val (.ref b163), .val (.ref b167), .val (.ref b169), .val (.ref b171), .unset, .unset] [(.int (1 : Int32))]))
    refine go (fun _ => XS.pop X263.here hx rfl (hb hby at_67) rfl rfl) ?_
    show Run p e below _ (T263.setTop (mkF m 68 #[.val (.int p0), .val (.int p1), .val (.int (3 : Int32)), .val (.int (p1 &&& (3 : Int32))), .val (.ref b163), .val (.ref b167), .val (.ref b169), .val (.ref b171), .unset, .unset] []))
    refine go (fun _ => XS.iloadN X263.here hx rfl (hb hby at_68) rfl) ?_
    show Run p e below _ (T263.setTop (mkF m 69 #[.val (.int p0), .val (.int p1), .val (.int (3 : Int32)), .val (.int (p1 &&& (3 : Int32))), .val (.ref b163), .val (.ref b167), .val (.ref b169), .val (.ref b171), .unset, .unset] [(.int (3 : Int32))]))
    refine go (fun _ => XS.iconst X263.here hx rfl (hb hby at_69)) ?_
    show Run p e below _ (T263.setTop (mkF m 70 #[.val (.int p0), .val (.int p1), .val (.int (3 : Int32)), .val (.int (p1 &&& (3 : Int32))), .val (.ref b163), .val (.ref b167), .val (.ref b169), .val (.ref b171), .unset, .unset] [(.int (1 : Int32)), (.int (3 : Int32))]))
    refine go (fun _ => XS.icmpNo X263.here hx rfl (hb hby at_70) rfl (tlt (by decide : (1 : Int32) < 3)).2.2.2) ?_
    show Run p e below _ (T263.setTop (mkF m 73 #[.val (.int p0), .val (.int p1), .val (.int (3 : Int32)), .val (.int (p1 &&& (3 : Int32))), .val (.ref b163), .val (.ref b167), .val (.ref b169), .val (.ref b171), .unset, .unset] []))
    refine go (fun _ => XS.aload X263.here hx rfl (hb hby at_73) rfl rfl) ?_
    show Run p e below _ (T263.setTop (mkF m 75 #[.val (.int p0), .val (.int p1), .val (.int (3 : Int32)), .val (.int (p1 &&& (3 : Int32))), .val (.ref b163), .val (.ref b167), .val (.ref b169), .val (.ref b171), .unset, .unset] [(.ref b169)]))
    refine go (fun _ => XS.aload X263.here hx rfl (hb hby at_75) rfl rfl) ?_
    show Run p e below _ (T263.setTop (mkF m 77 #[.val (.int p0), .val (.int p1), .val (.int (3 : Int32)), .val (.int (p1 &&& (3 : Int32))), .val (.ref b163), .val (.ref b167), .val (.ref b169), .val (.ref b171), .unset, .unset] [(.ref b163), (.ref b169)]))
    refine callIf X263 hx hZ hown (wd hw 80 rfl) (wd hw 81 rfl) (wd hw 82 rfl) rfl (wd hw 83 rfl) (wd hw 84 rfl) (wd hw 85 rfl) (wd hw 86 rfl) (wd hw 87 rfl) (wd hw 88 rfl) (wd hw 5 rfl) (by decide) e263 E_b169 (argsL := [(.ref b163)]) (rest := []) (rm_add1_4 l Z a0 hw [] b169 b163 b263 k263 ((0 : Int32) + (1 : Int32)) (.ref b163) h263 n0 O0 E_b169 F_modCount_b169 F_elementData_b169 F_size_b169 V_b263 O263 g_b169 g_b263 (Ne.symm ne_b169_b263) E_b163 ne_b163_b169 ne_b163_b263) (W := 0) (by decide) (by decide) (by decide) (by decide) (by rw [hml]; rfl) (lenOf pd_18 rfl) rfl (Nat.le_of_eq rfl) (hb hby at_77) ?_
    intro v265 T265 L265 h265 X265 e265 q265
    obtain ⟨rfl, n265, K265, E_b169, F_modCount_b169, F_elementData_b169, F_size_b169, V_b263⟩ := q265
    have O0 := O0.keep K265 (allS g_b169 (allS g_b263 all0))
    have E_b163 := E_b163.keep K265
    have E_b167 := E_b167.keep K265
    have E_b171 := E_b171.keep K265
    have F_modCount_b171 := F_modCount_b171.keep K265 (ninS (Ne.symm ne_b169_b171) (ninS ne_b171_b263 nin0))
    have F_elementData_b171 := F_elementData_b171.keep K265 (ninS (Ne.symm ne_b169_b171) (ninS ne_b171_b263 nin0))
    have F_size_b171 := F_size_b171.keep K265 (ninS (Ne.symm ne_b169_b171) (ninS ne_b171_b263 nin0))
    have E_b263 := E_b263.keep K265
    have N265 := Fr.app N263 n265
    show Run p e below _ (T265.setTop (mkF m 82 #[.val (.int p0), .val (.int p1), .val (.int (3 : Int32)), .val (.int (p1 &&& (3 : Int32))), .val (.ref b163), .val (.ref b167), .val (.ref b169), .val (.ref b171), .unset, .unset] [(.int (1 : Int32))]))
    refine go (fun _ => XS.pop X265.here hx rfl (hb hby at_82) rfl rfl) ?_
    show Run p e below _ (T265.setTop (mkF m 83 #[.val (.int p0), .val (.int p1), .val (.int (3 : Int32)), .val (.int (p1 &&& (3 : Int32))), .val (.ref b163), .val (.ref b167), .val (.ref b169), .val (.ref b171), .unset, .unset] []))
    refine go (fun _ => XS.iloadN X265.here hx rfl (hb hby at_83) rfl) ?_
    show Run p e below _ (T265.setTop (mkF m 84 #[.val (.int p0), .val (.int p1), .val (.int (3 : Int32)), .val (.int (p1 &&& (3 : Int32))), .val (.ref b163), .val (.ref b167), .val (.ref b169), .val (.ref b171), .unset, .unset] [(.int (3 : Int32))]))
    refine go (fun _ => XS.iconst X265.here hx rfl (hb hby at_84)) ?_
    show Run p e below _ (T265.setTop (mkF m 85 #[.val (.int p0), .val (.int p1), .val (.int (3 : Int32)), .val (.int (p1 &&& (3 : Int32))), .val (.ref b163), .val (.ref b167), .val (.ref b169), .val (.ref b171), .unset, .unset] [(.int (2 : Int32)), (.int (3 : Int32))]))
    refine go (fun _ => XS.icmpNo X265.here hx rfl (hb hby at_85) rfl (tlt (by decide : (2 : Int32) < 3)).2.2.2) ?_
    show Run p e below _ (T265.setTop (mkF m 88 #[.val (.int p0), .val (.int p1), .val (.int (3 : Int32)), .val (.int (p1 &&& (3 : Int32))), .val (.ref b163), .val (.ref b167), .val (.ref b169), .val (.ref b171), .unset, .unset] []))
    refine go (fun _ => XS.aload X265.here hx rfl (hb hby at_88) rfl rfl) ?_
    show Run p e below _ (T265.setTop (mkF m 90 #[.val (.int p0), .val (.int p1), .val (.int (3 : Int32)), .val (.int (p1 &&& (3 : Int32))), .val (.ref b163), .val (.ref b167), .val (.ref b169), .val (.ref b171), .unset, .unset] [(.ref b169)]))
    refine go (fun _ => XS.aload X265.here hx rfl (hb hby at_90) rfl rfl) ?_
    show Run p e below _ (T265.setTop (mkF m 92 #[.val (.int p0), .val (.int p1), .val (.int (3 : Int32)), .val (.int (p1 &&& (3 : Int32))), .val (.ref b163), .val (.ref b167), .val (.ref b169), .val (.ref b171), .unset, .unset] [(.ref b163), (.ref b169)]))
    refine callIf X265 hx hZ hown (wd hw 80 rfl) (wd hw 81 rfl) (wd hw 82 rfl) rfl (wd hw 83 rfl) (wd hw 84 rfl) (wd hw 85 rfl) (wd hw 86 rfl) (wd hw 87 rfl) (wd hw 88 rfl) (wd hw 5 rfl) (by decide) e265 E_b169 (argsL := [(.ref b163)]) (rest := []) (rm_add2_5 l Z a0 hw [] b169 b163 b263 k263 (((0 : Int32) + (1 : Int32)) + (1 : Int32)) (.ref b163) (.ref b163) h265 n0 O0 E_b169 F_modCount_b169 F_elementData_b169 F_size_b169 V_b263 O263 g_b169 g_b263 (Ne.symm ne_b169_b263) E_b163 ne_b163_b169 ne_b163_b263) (W := 0) (by decide) (by decide) (by decide) (by decide) (by rw [hml]; rfl) (lenOf pd_18 rfl) rfl (Nat.le_of_eq rfl) (hb hby at_92) ?_
    intro v274 T274 L274 h274 X274 e274 q274
    obtain ⟨rfl, n274, K274, E_b169, F_modCount_b169, F_elementData_b169, F_size_b169, V_b263⟩ := q274
    have O0 := O0.keep K274 (allS g_b169 (allS g_b263 all0))
    have E_b163 := E_b163.keep K274
    have E_b167 := E_b167.keep K274
    have E_b171 := E_b171.keep K274
    have F_modCount_b171 := F_modCount_b171.keep K274 (ninS (Ne.symm ne_b169_b171) (ninS ne_b171_b263 nin0))
    have F_elementData_b171 := F_elementData_b171.keep K274 (ninS (Ne.symm ne_b169_b171) (ninS ne_b171_b263 nin0))
    have F_size_b171 := F_size_b171.keep K274 (ninS (Ne.symm ne_b169_b171) (ninS ne_b171_b263 nin0))
    have E_b263 := E_b263.keep K274
    have N274 := Fr.app N265 n274
    show Run p e below _ (T274.setTop (mkF m 97 #[.val (.int p0), .val (.int p1), .val (.int (3 : Int32)), .val (.int (p1 &&& (3 : Int32))), .val (.ref b163), .val (.ref b167), .val (.ref b169), .val (.ref b171), .unset, .unset] [(.int (1 : Int32))]))
    refine go (fun _ => XS.pop X274.here hx rfl (hb hby at_97) rfl rfl) ?_
    show Run p e below _ (T274.setTop (mkF m 98 #[.val (.int p0), .val (.int p1), .val (.int (3 : Int32)), .val (.int (p1 &&& (3 : Int32))), .val (.ref b163), .val (.ref b167), .val (.ref b169), .val (.ref b171), .unset, .unset] []))
    rcases own_and3 p1 with hz3 | hz3 | hz3 | hz3
    · skip
      rw [hz3]
      show Run p e below _ (T274.setTop (mkF m 98 #[.val (.int p0), .val (.int p1), .val (.int (3 : Int32)), .val (.int (0 : Int32)), .val (.ref b163), .val (.ref b167), .val (.ref b169), .val (.ref b171), .unset, .unset] []))
      refine go (fun _ => XS.iloadN X274.here hx rfl (hb hby at_98) rfl) ?_
      show Run p e below _ (T274.setTop (mkF m 99 #[.val (.int p0), .val (.int p1), .val (.int (3 : Int32)), .val (.int (0 : Int32)), .val (.ref b163), .val (.ref b167), .val (.ref b169), .val (.ref b171), .unset, .unset] [(.int (0 : Int32))]))
      refine go (fun _ => XS.ifYes X274.here hx rfl (pc0 := 99) (pc' := 112) rfl (hb hby at_99) rfl ((if0 _ _).trans (flt (by decide : ¬ ((0 : Int32) < 0))).2.2.2) (by decide) (by decide)) ?_
      show Run p e below _ (T274.setTop (mkF m 112 #[.val (.int p0), .val (.int p1), .val (.int (3 : Int32)), .val (.int (0 : Int32)), .val (.ref b163), .val (.ref b167), .val (.ref b169), .val (.ref b171), .unset, .unset] []))
      refine go (fun _ => XS.iloadN X274.here hx rfl (hb hby at_112) rfl) ?_
      show Run p e below _ (T274.setTop (mkF m 113 #[.val (.int p0), .val (.int p1), .val (.int (3 : Int32)), .val (.int (0 : Int32)), .val (.ref b163), .val (.ref b167), .val (.ref b169), .val (.ref b171), .unset, .unset] [(.int (0 : Int32))]))
      refine go (fun _ => XS.iconst X274.here hx rfl (hb hby at_113)) ?_
      show Run p e below _ (T274.setTop (mkF m 114 #[.val (.int p0), .val (.int p1), .val (.int (3 : Int32)), .val (.int (0 : Int32)), .val (.ref b163), .val (.ref b167), .val (.ref b169), .val (.ref b171), .unset, .unset] [(.int (1 : Int32)), (.int (0 : Int32))]))
      refine go (fun _ => XS.icmpYes X274.here hx rfl (pc0 := 114) (pc' := 127) rfl (hb hby at_114) rfl (flt (by decide : ¬ ((1 : Int32) < 0))).2.2.2 (by decide) (by decide)) ?_
      show Run p e below _ (T274.setTop (mkF m 127 #[.val (.int p0), .val (.int p1), .val (.int (3 : Int32)), .val (.int (0 : Int32)), .val (.ref b163), .val (.ref b167), .val (.ref b169), .val (.ref b171), .unset, .unset] []))
      refine go (fun _ => XS.iloadN X274.here hx rfl (hb hby at_127) rfl) ?_
      show Run p e below _ (T274.setTop (mkF m 128 #[.val (.int p0), .val (.int p1), .val (.int (3 : Int32)), .val (.int (0 : Int32)), .val (.ref b163), .val (.ref b167), .val (.ref b169), .val (.ref b171), .unset, .unset] [(.int (0 : Int32))]))
      refine go (fun _ => XS.iconst X274.here hx rfl (hb hby at_128)) ?_
      show Run p e below _ (T274.setTop (mkF m 129 #[.val (.int p0), .val (.int p1), .val (.int (3 : Int32)), .val (.int (0 : Int32)), .val (.ref b163), .val (.ref b167), .val (.ref b169), .val (.ref b171), .unset, .unset] [(.int (2 : Int32)), (.int (0 : Int32))]))
      refine go (fun _ => XS.icmpYes X274.here hx rfl (pc0 := 129) (pc' := 142) rfl (hb hby at_129) rfl (flt (by decide : ¬ ((2 : Int32) < 0))).2.2.2 (by decide) (by decide)) ?_
      show Run p e below _ (T274.setTop (mkF m 142 #[.val (.int p0), .val (.int p1), .val (.int (3 : Int32)), .val (.int (0 : Int32)), .val (.ref b163), .val (.ref b167), .val (.ref b169), .val (.ref b171), .unset, .unset] []))
      exact J142 _ _ _ (smono X274 (by decide) (by decide)) e274 N274 (3 : Int32) (0 : Int32) b163 b167 b169 b171 O0 (⟨E_b169, (Ins.of_exa E_b163 (wd hw 204 rfl)), b263, k263, Or.inr (Or.inr (Or.inr ⟨rfl, F_elementData_b169, F_size_b169, V_b263, E_b263⟩))⟩ : ALS Z h274 b169 b163 (3 : Int32)) (⟨E_b171, (Ins.of_exa E_b167 (wd hw 112 rfl)), wD, kD, Or.inl ⟨rfl, F_elementData_b171, F_size_b171⟩⟩ : ALS Z h274 b171 b167 (0 : Int32))
    · skip
      rw [hz3]
      show Run p e below _ (T274.setTop (mkF m 98 #[.val (.int p0), .val (.int p1), .val (.int (3 : Int32)), .val (.int (1 : Int32)), .val (.ref b163), .val (.ref b167), .val (.ref b169), .val (.ref b171), .unset, .unset] []))
      refine go (fun _ => XS.iloadN X274.here hx rfl (hb hby at_98) rfl) ?_
      show Run p e below _ (T274.setTop (mkF m 99 #[.val (.int p0), .val (.int p1), .val (.int (3 : Int32)), .val (.int (1 : Int32)), .val (.ref b163), .val (.ref b167), .val (.ref b169), .val (.ref b171), .unset, .unset] [(.int (1 : Int32))]))
      refine go (fun _ => XS.ifNo X274.here hx rfl (hb hby at_99) rfl ((if0 _ _).trans (tlt (by decide : (0 : Int32) < 1)).2.2.2)) ?_
      show Run p e below _ (T274.setTop (mkF m 102 #[.val (.int p0), .val (.int p1), .val (.int (3 : Int32)), .val (.int (1 : Int32)), .val (.ref b163), .val (.ref b167), .val (.ref b169), .val (.ref b171), .unset, .unset] []))
      refine go (fun _ => XS.aload X274.here hx rfl (hb hby at_102) rfl rfl) ?_
      show Run p e below _ (T274.setTop (mkF m 104 #[.val (.int p0), .val (.int p1), .val (.int (3 : Int32)), .val (.int (1 : Int32)), .val (.ref b163), .val (.ref b167), .val (.ref b169), .val (.ref b171), .unset, .unset] [(.ref b171)]))
      refine go (fun _ => XS.aload X274.here hx rfl (hb hby at_104) rfl rfl) ?_
      show Run p e below _ (T274.setTop (mkF m 106 #[.val (.int p0), .val (.int p1), .val (.int (3 : Int32)), .val (.int (1 : Int32)), .val (.ref b163), .val (.ref b167), .val (.ref b169), .val (.ref b171), .unset, .unset] [(.ref b167), (.ref b171)]))
      refine callIf X274 hx hZ hown (wd hw 80 rfl) (wd hw 81 rfl) (wd hw 82 rfl) rfl (wd hw 83 rfl) (wd hw 84 rfl) (wd hw 85 rfl) (wd hw 86 rfl) (wd hw 87 rfl) (wd hw 88 rfl) (wd hw 5 rfl) (by decide) e274 E_b171 (argsL := [(.ref b167)]) (rest := []) (rm_add0_0 l Z a0 hw [] b171 b167 wD kD (0 : Int32) h274 n0 O0 S_DEFAULTCAPACITY_EMPTY_ELEMENTDATA VD E_b171 F_modCount_b171 F_elementData_b171 F_size_b171 g_b171 E_b167 ne_b167_b171) (W := 0) (by decide) (by decide) (by decide) (by decide) (by rw [hml]; rfl) (lenOf pd_18 rfl) rfl (Nat.le_of_eq rfl) (hb hby at_106) ?_
      intro v275 T275 L275 h275 X275 e275 q275
      have lt276_b163 := E_b163.lt
      have lt276_b167 := E_b167.lt
      have lt276_b169 := E_b169.lt
      have lt276_b171 := E_b171.lt
      have lt276_b263 := E_b263.lt
      obtain ⟨b275, k275, rfl, n275, K275, sb275, g_b275, E_b171, F_modCount_b171, F_elementData_b171, F_size_b171, O275, V_b275, E_b275⟩ := q275
      have ne_b163_b275 : b163 ≠ b275 := Nat.ne_of_lt (Nat.lt_of_lt_of_le lt276_b163 sb275)
      have ne_b167_b275 : b167 ≠ b275 := Nat.ne_of_lt (Nat.lt_of_lt_of_le lt276_b167 sb275)
      have ne_b169_b275 : b169 ≠ b275 := Nat.ne_of_lt (Nat.lt_of_lt_of_le lt276_b169 sb275)
      have ne_b171_b275 : b171 ≠ b275 := Nat.ne_of_lt (Nat.lt_of_lt_of_le lt276_b171 sb275)
      have ne_b263_b275 : b263 ≠ b275 := Nat.ne_of_lt (Nat.lt_of_lt_of_le lt276_b263 sb275)
      have O0 := O0.keep K275 (allS g_b171 all0)
      have E_b163 := E_b163.keep K275
      have E_b167 := E_b167.keep K275
      have E_b169 := E_b169.keep K275
      have E_b263 := E_b263.keep K275
      have V_b263 := V_b263.keep K275 (ninS (Ne.symm ne_b171_b263) nin0)
      have F_modCount_b169 := F_modCount_b169.keep K275 (ninS ne_b169_b171 nin0)
      have F_elementData_b169 := F_elementData_b169.keep K275 (ninS ne_b169_b171 nin0)
      have F_size_b169 := F_size_b169.keep K275 (ninS ne_b169_b171 nin0)
      have N275 := Fr.app N274 n275
      show Run p e below _ (T275.setTop (mkF m 111 #[.val (.int p0), .val (.int p1), .val (.int (3 : Int32)), .val (.int (1 : Int32)), .val (.ref b163), .val (.ref b167), .val (.ref b169), .val (.ref b171), .unset, .unset] [(.int (1 : Int32))]))
      refine go (fun _ => XS.pop X275.here hx rfl (hb hby at_111) rfl rfl) ?_
      show Run p e below _ (T275.setTop (mkF m 112 #[.val (.int p0), .val (.int p1), .val (.int (3 : Int32)), .val (.int (1 : Int32)), .val (.ref b163), .val (.ref b167), .val (.ref b169), .val (.ref b171), .unset, .unset] []))
      refine go (fun _ => XS.iloadN X275.here hx rfl (hb hby at_112) rfl) ?_
      show Run p e below _ (T275.setTop (mkF m 113 #[.val (.int p0), .val (.int p1), .val (.int (3 : Int32)), .val (.int (1 : Int32)), .val (.ref b163), .val (.ref b167), .val (.ref b169), .val (.ref b171), .unset, .unset] [(.int (1 : Int32))]))
      refine go (fun _ => XS.iconst X275.here hx rfl (hb hby at_113)) ?_
      show Run p e below _ (T275.setTop (mkF m 114 #[.val (.int p0), .val (.int p1), .val (.int (3 : Int32)), .val (.int (1 : Int32)), .val (.ref b163), .val (.ref b167), .val (.ref b169), .val (.ref b171), .unset, .unset] [(.int (1 : Int32)), (.int (1 : Int32))]))
      refine go (fun _ => XS.icmpYes X275.here hx rfl (pc0 := 114) (pc' := 127) rfl (hb hby at_114) rfl (flt (by decide : ¬ ((1 : Int32) < 1))).2.2.2 (by decide) (by decide)) ?_
      show Run p e below _ (T275.setTop (mkF m 127 #[.val (.int p0), .val (.int p1), .val (.int (3 : Int32)), .val (.int (1 : Int32)), .val (.ref b163), .val (.ref b167), .val (.ref b169), .val (.ref b171), .unset, .unset] []))
      refine go (fun _ => XS.iloadN X275.here hx rfl (hb hby at_127) rfl) ?_
      show Run p e below _ (T275.setTop (mkF m 128 #[.val (.int p0), .val (.int p1), .val (.int (3 : Int32)), .val (.int (1 : Int32)), .val (.ref b163), .val (.ref b167), .val (.ref b169), .val (.ref b171), .unset, .unset] [(.int (1 : Int32))]))
      refine go (fun _ => XS.iconst X275.here hx rfl (hb hby at_128)) ?_
      show Run p e below _ (T275.setTop (mkF m 129 #[.val (.int p0), .val (.int p1), .val (.int (3 : Int32)), .val (.int (1 : Int32)), .val (.ref b163), .val (.ref b167), .val (.ref b169), .val (.ref b171), .unset, .unset] [(.int (2 : Int32)), (.int (1 : Int32))]))
      refine go (fun _ => XS.icmpYes X275.here hx rfl (pc0 := 129) (pc' := 142) rfl (hb hby at_129) rfl (flt (by decide : ¬ ((2 : Int32) < 1))).2.2.2 (by decide) (by decide)) ?_
      show Run p e below _ (T275.setTop (mkF m 142 #[.val (.int p0), .val (.int p1), .val (.int (3 : Int32)), .val (.int (1 : Int32)), .val (.ref b163), .val (.ref b167), .val (.ref b169), .val (.ref b171), .unset, .unset] []))
      exact J142 _ _ _ (smono X275 (by decide) (by decide)) e275 N275 (3 : Int32) (1 : Int32) b163 b167 b169 b171 O0 (⟨E_b169, (Ins.of_exa E_b163 (wd hw 204 rfl)), b263, k263, Or.inr (Or.inr (Or.inr ⟨rfl, F_elementData_b169, F_size_b169, V_b263, E_b263⟩))⟩ : ALS Z h275 b169 b163 (3 : Int32)) (⟨E_b171, (Ins.of_exa E_b167 (wd hw 112 rfl)), b275, k275, Or.inr (Or.inl ⟨rfl, F_elementData_b171, F_size_b171, V_b275, E_b275⟩)⟩ : ALS Z h275 b171 b167 (1 : Int32))
    · skip
      rw [hz3]
      show Run p e below _ (T274.setTop (mkF m 98 #[.val (.int p0), .val (.int p1), .val (.int (3 : Int32)), .val (.int (2 : Int32)), .val (.ref b163), .val (.ref b167), .val (.ref b169), .val (.ref b171), .unset, .unset] []))
      refine go (fun _ => XS.iloadN X274.here hx rfl (hb hby at_98) rfl) ?_
      show Run p e below _ (T274.setTop (mkF m 99 #[.val (.int p0), .val (.int p1), .val (.int (3 : Int32)), .val (.int (2 : Int32)), .val (.ref b163), .val (.ref b167), .val (.ref b169), .val (.ref b171), .unset, .unset] [(.int (2 : Int32))]))
      refine go (fun _ => XS.ifNo X274.here hx rfl (hb hby at_99) rfl ((if0 _ _).trans (tlt (by decide : (0 : Int32) < 2)).2.2.2)) ?_
      show Run p e below _ (T274.setTop (mkF m 102 #[.val (.int p0), .val (.int p1), .val (.int (3 : Int32)), .val (.int (2 : Int32)), .val (.ref b163), .val (.ref b167), .val (.ref b169), .val (.ref b171), .unset, .unset] []))
      refine go (fun _ => XS.aload X274.here hx rfl (hb hby at_102) rfl rfl) ?_
      show Run p e below _ (T274.setTop (mkF m 104 #[.val (.int p0), .val (.int p1), .val (.int (3 : Int32)), .val (.int (2 : Int32)), .val (.ref b163), .val (.ref b167), .val (.ref b169), .val (.ref b171), .unset, .unset] [(.ref b171)]))
      refine go (fun _ => XS.aload X274.here hx rfl (hb hby at_104) rfl rfl) ?_
      show Run p e below _ (T274.setTop (mkF m 106 #[.val (.int p0), .val (.int p1), .val (.int (3 : Int32)), .val (.int (2 : Int32)), .val (.ref b163), .val (.ref b167), .val (.ref b169), .val (.ref b171), .unset, .unset] [(.ref b167), (.ref b171)]))
      refine callIf X274 hx hZ hown (wd hw 80 rfl) (wd hw 81 rfl) (wd hw 82 rfl) rfl (wd hw 83 rfl) (wd hw 84 rfl) (wd hw 85 rfl) (wd hw 86 rfl) (wd hw 87 rfl) (wd hw 88 rfl) (wd hw 5 rfl) (by decide) e274 E_b171 (argsL := [(.ref b167)]) (rest := []) (rm_add0_0 l Z a0 hw [] b171 b167 wD kD (0 : Int32) h274 n0 O0 S_DEFAULTCAPACITY_EMPTY_ELEMENTDATA VD E_b171 F_modCount_b171 F_elementData_b171 F_size_b171 g_b171 E_b167 ne_b167_b171) (W := 0) (by decide) (by decide) (by decide) (by decide) (by rw [hml]; rfl) (lenOf pd_18 rfl) rfl (Nat.le_of_eq rfl) (hb hby at_106) ?_
      intro v277 T277 L277 h277 X277 e277 q277
      have lt278_b163 := E_b163.lt
      have lt278_b167 := E_b167.lt
      have lt278_b169 := E_b169.lt
      have lt278_b171 := E_b171.lt
      have lt278_b263 := E_b263.lt
      obtain ⟨b277, k277, rfl, n277, K277, sb277, g_b277, E_b171, F_modCount_b171, F_elementData_b171, F_size_b171, O277, V_b277, E_b277⟩ := q277
      have ne_b163_b277 : b163 ≠ b277 := Nat.ne_of_lt (Nat.lt_of_lt_of_le lt278_b163 sb277)
      have ne_b167_b277 : b167 ≠ b277 := Nat.ne_of_lt (Nat.lt_of_lt_of_le lt278_b167 sb277)
      have ne_b169_b277 : b169 ≠ b277 := Nat.ne_of_lt (Nat.lt_of_lt_of_le lt278_b169 sb277)
      have ne_b171_b277 : b171 ≠ b277 := Nat.ne_of_lt (Nat.lt_of_lt_of_le lt278_b171 sb277)
      have ne_b263_b277 : b263 ≠ b277 := Nat.ne_of_lt (Nat.lt_of_lt_of_le lt278_b263 sb277)
      have O0 := O0.keep K277 (allS g_b171 all0)
      have E_b163 := E_b163.keep K277
      have E_b167 := E_b167.keep K277
      have E_b169 := E_b169.keep K277
      have E_b263 := E_b263.keep K277
      have V_b263 := V_b263.keep K277 (ninS (Ne.symm ne_b171_b263) nin0)
      have F_modCount_b169 := F_modCount_b169.keep K277 (ninS ne_b169_b171 nin0)
      have F_elementData_b169 := F_elementData_b169.keep K277 (ninS ne_b169_b171 nin0)
      have F_size_b169 := F_size_b169.keep K277 (ninS ne_b169_b171 nin0)
      have N277 := Fr.app N274 n277
      show Run p e below _ (T277.setTop (mkF m 111 #[.val (.int p0), .val (.int p1), .val (.int (3 : Int32)), .val (.int (2 : Int32)), .val (.ref b163), .val (.ref b167), .val (.ref b169), .val (.ref b171), .unset, .unset] [(.int (1 : Int32))]))
      refine go (fun _ => XS.pop X277.here hx rfl (hb hby at_111) rfl rfl) ?_
      show Run p e below _ (T277.setTop (mkF m 112 #[.val (.int p0), .val (.int p1), .val (.int (3 : Int32)), .val (.int (2 : Int32)), .val (.ref b163), .val (.ref b167), .val (.ref b169), .val (.ref b171), .unset, .unset] []))
      refine go (fun _ => XS.iloadN X277.here hx rfl (hb hby at_112) rfl) ?_
      show Run p e below _ (T277.setTop (mkF m 113 #[.val (.int p0), .val (.int p1), .val (.int (3 : Int32)), .val (.int (2 : Int32)), .val (.ref b163), .val (.ref b167), .val (.ref b169), .val (.ref b171), .unset, .unset] [(.int (2 : Int32))]))
      refine go (fun _ => XS.iconst X277.here hx rfl (hb hby at_113)) ?_
      show Run p e below _ (T277.setTop (mkF m 114 #[.val (.int p0), .val (.int p1), .val (.int (3 : Int32)), .val (.int (2 : Int32)), .val (.ref b163), .val (.ref b167), .val (.ref b169), .val (.ref b171), .unset, .unset] [(.int (1 : Int32)), (.int (2 : Int32))]))
      refine go (fun _ => XS.icmpNo X277.here hx rfl (hb hby at_114) rfl (tlt (by decide : (1 : Int32) < 2)).2.2.2) ?_
      show Run p e below _ (T277.setTop (mkF m 117 #[.val (.int p0), .val (.int p1), .val (.int (3 : Int32)), .val (.int (2 : Int32)), .val (.ref b163), .val (.ref b167), .val (.ref b169), .val (.ref b171), .unset, .unset] []))
      refine go (fun _ => XS.aload X277.here hx rfl (hb hby at_117) rfl rfl) ?_
      show Run p e below _ (T277.setTop (mkF m 119 #[.val (.int p0), .val (.int p1), .val (.int (3 : Int32)), .val (.int (2 : Int32)), .val (.ref b163), .val (.ref b167), .val (.ref b169), .val (.ref b171), .unset, .unset] [(.ref b171)]))
      refine go (fun _ => XS.aload X277.here hx rfl (hb hby at_119) rfl rfl) ?_
      show Run p e below _ (T277.setTop (mkF m 121 #[.val (.int p0), .val (.int p1), .val (.int (3 : Int32)), .val (.int (2 : Int32)), .val (.ref b163), .val (.ref b167), .val (.ref b169), .val (.ref b171), .unset, .unset] [(.ref b167), (.ref b171)]))
      refine callIf X277 hx hZ hown (wd hw 80 rfl) (wd hw 81 rfl) (wd hw 82 rfl) rfl (wd hw 83 rfl) (wd hw 84 rfl) (wd hw 85 rfl) (wd hw 86 rfl) (wd hw 87 rfl) (wd hw 88 rfl) (wd hw 5 rfl) (by decide) e277 E_b171 (argsL := [(.ref b167)]) (rest := []) (rm_add1_1 l Z a0 hw [] b171 b167 b277 k277 ((0 : Int32) + (1 : Int32)) (.ref b167) h277 n0 O0 E_b171 F_modCount_b171 F_elementData_b171 F_size_b171 V_b277 O277 g_b171 g_b277 (Ne.symm ne_b171_b277) E_b167 ne_b167_b171 ne_b167_b277) (W := 0) (by decide) (by decide) (by decide) (by decide) (by rw [hml]; rfl) (lenOf pd_18 rfl) rfl (Nat.le_of_eq rfl) (hb hby at_121) ?_
      intro v279 T279 L279 h279 X279 e279 q279
      obtain ⟨rfl, n279, K279, E_b171, F_modCount_b171, F_elementData_b171, F_size_b171, V_b277⟩ := q279
      have O0 := O0.keep K279 (allS g_b171 (allS g_b277 all0))
      have E_b163 := E_b163.keep K279
      have E_b167 := E_b167.keep K279
      have E_b169 := E_b169.keep K279
      have E_b263 := E_b263.keep K279
      have V_b263 := V_b263.keep K279 (ninS (Ne.symm ne_b171_b263) (ninS ne_b263_b277 nin0))
      have F_modCount_b169 := F_modCount_b169.keep K279 (ninS ne_b169_b171 (ninS ne_b169_b277 nin0))
      have F_elementData_b169 := F_elementData_b169.keep K279 (ninS ne_b169_b171 (ninS ne_b169_b277 nin0))
      have F_size_b169 := F_size_b169.keep K279 (ninS ne_b169_b171 (ninS ne_b169_b277 nin0))
      have E_b277 := E_b277.keep K279
      have N279 := Fr.app N277 n279
      show Run p e below _ (T279.setTop (mkF m 126 #[.val (.int p0), .val (.int p1), .val (.int (3 : Int32)), .val (.int (2 : Int32)), .val (.ref b163), .val (.ref b167), .val (.ref b169), .val (.ref b171), .unset, .unset] [(.int (1 : Int32))]))
      refine go (fun _ => XS.pop X279.here hx rfl (hb hby at_126) rfl rfl) ?_
      show Run p e below _ (T279.setTop (mkF m 127 #[.val (.int p0), .val (.int p1), .val (.int (3 : Int32)), .val (.int (2 : Int32)), .val (.ref b163), .val (.ref b167), .val (.ref b169), .val (.ref b171), .unset, .unset] []))
      refine go (fun _ => XS.iloadN X279.here hx rfl (hb hby at_127) rfl) ?_
      show Run p e below _ (T279.setTop (mkF m 128 #[.val (.int p0), .val (.int p1), .val (.int (3 : Int32)), .val (.int (2 : Int32)), .val (.ref b163), .val (.ref b167), .val (.ref b169), .val (.ref b171), .unset, .unset] [(.int (2 : Int32))]))
      refine go (fun _ => XS.iconst X279.here hx rfl (hb hby at_128)) ?_
      show Run p e below _ (T279.setTop (mkF m 129 #[.val (.int p0), .val (.int p1), .val (.int (3 : Int32)), .val (.int (2 : Int32)), .val (.ref b163), .val (.ref b167), .val (.ref b169), .val (.ref b171), .unset, .unset] [(.int (2 : Int32)), (.int (2 : Int32))]))
      refine go (fun _ => XS.icmpYes X279.here hx rfl (pc0 := 129) (pc' := 142) rfl (hb hby at_129) rfl (flt (by decide : ¬ ((2 : Int32) < 2))).2.2.2 (by decide) (by decide)) ?_
      show Run p e below _ (T279.setTop (mkF m 142 #[.val (.int p0), .val (.int p1), .val (.int (3 : Int32)), .val (.int (2 : Int32)), .val (.ref b163), .val (.ref b167), .val (.ref b169), .val (.ref b171), .unset, .unset] []))
      exact J142 _ _ _ (smono X279 (by decide) (by decide)) e279 N279 (3 : Int32) (2 : Int32) b163 b167 b169 b171 O0 (⟨E_b169, (Ins.of_exa E_b163 (wd hw 204 rfl)), b263, k263, Or.inr (Or.inr (Or.inr ⟨rfl, F_elementData_b169, F_size_b169, V_b263, E_b263⟩))⟩ : ALS Z h279 b169 b163 (3 : Int32)) (⟨E_b171, (Ins.of_exa E_b167 (wd hw 112 rfl)), b277, k277, Or.inr (Or.inr (Or.inl ⟨rfl, F_elementData_b171, F_size_b171, V_b277, E_b277⟩))⟩ : ALS Z h279 b171 b167 (2 : Int32))
    · skip
      rw [hz3]
      show Run p e below _ (T274.setTop (mkF m 98 #[.val (.int p0), .val (.int p1), .val (.int (3 : Int32)), .val (.int (3 : Int32)), .val (.ref b163), .val (.ref b167), .val (.ref b169), .val (.ref b171), .unset, .unset] []))
      refine go (fun _ => XS.iloadN X274.here hx rfl (hb hby at_98) rfl) ?_
      show Run p e below _ (T274.setTop (mkF m 99 #[.val (.int p0), .val (.int p1), .val (.int (3 : Int32)), .val (.int (3 : Int32)), .val (.ref b163), .val (.ref b167), .val (.ref b169), .val (.ref b171), .unset, .unset] [(.int (3 : Int32))]))
      refine go (fun _ => XS.ifNo X274.here hx rfl (hb hby at_99) rfl ((if0 _ _).trans (tlt (by decide : (0 : Int32) < 3)).2.2.2)) ?_
      show Run p e below _ (T274.setTop (mkF m 102 #[.val (.int p0), .val (.int p1), .val (.int (3 : Int32)), .val (.int (3 : Int32)), .val (.ref b163), .val (.ref b167), .val (.ref b169), .val (.ref b171), .unset, .unset] []))
      refine go (fun _ => XS.aload X274.here hx rfl (hb hby at_102) rfl rfl) ?_
      show Run p e below _ (T274.setTop (mkF m 104 #[.val (.int p0), .val (.int p1), .val (.int (3 : Int32)), .val (.int (3 : Int32)), .val (.ref b163), .val (.ref b167), .val (.ref b169), .val (.ref b171), .unset, .unset] [(.ref b171)]))
      refine go (fun _ => XS.aload X274.here hx rfl (hb hby at_104) rfl rfl) ?_
      show Run p e below _ (T274.setTop (mkF m 106 #[.val (.int p0), .val (.int p1), .val (.int (3 : Int32)), .val (.int (3 : Int32)), .val (.ref b163), .val (.ref b167), .val (.ref b169), .val (.ref b171), .unset, .unset] [(.ref b167), (.ref b171)]))
      refine callIf X274 hx hZ hown (wd hw 80 rfl) (wd hw 81 rfl) (wd hw 82 rfl) rfl (wd hw 83 rfl) (wd hw 84 rfl) (wd hw 85 rfl) (wd hw 86 rfl) (wd hw 87 rfl) (wd hw 88 rfl) (wd hw 5 rfl) (by decide) e274 E_b171 (argsL := [(.ref b167)]) (rest := []) (rm_add0_0 l Z a0 hw [] b171 b167 wD kD (0 : Int32) h274 n0 O0 S_DEFAULTCAPACITY_EMPTY_ELEMENTDATA VD E_b171 F_modCount_b171 F_elementData_b171 F_size_b171 g_b171 E_b167 ne_b167_b171) (W := 0) (by decide) (by decide) (by decide) (by decide) (by rw [hml]; rfl) (lenOf pd_18 rfl) rfl (Nat.le_of_eq rfl) (hb hby at_106) ?_
      intro v280 T280 L280 h280 X280 e280 q280
      have lt281_b163 := E_b163.lt
      have lt281_b167 := E_b167.lt
      have lt281_b169 := E_b169.lt
      have lt281_b171 := E_b171.lt
      have lt281_b263 := E_b263.lt
      obtain ⟨b280, k280, rfl, n280, K280, sb280, g_b280, E_b171, F_modCount_b171, F_elementData_b171, F_size_b171, O280, V_b280, E_b280⟩ := q280
      have ne_b163_b280 : b163 ≠ b280 := Nat.ne_of_lt (Nat.lt_of_lt_of_le lt281_b163 sb280)
      have ne_b167_b280 : b167 ≠ b280 := Nat.ne_of_lt (Nat.lt_of_lt_of_le lt281_b167 sb280)
      have ne_b169_b280 : b169 ≠ b280 := Nat.ne_of_lt (Nat.lt_of_lt_of_le lt281_b169 sb280)
      have ne_b171_b280 : b171 ≠ b280 := Nat.ne_of_lt (Nat.lt_of_lt_of_le lt281_b171 sb280)
      have ne_b263_b280 : b263 ≠ b280 := Nat.ne_of_lt (Nat.lt_of_lt_of_le lt281_b263 sb280)
      have O0 := O0.keep K280 (allS g_b171 all0)
      have E_b163 := E_b163.keep K280
      have E_b167 := E_b167.keep K280
      have E_b169 := E_b169.keep K280
      have E_b263 := E_b263.keep K280
      have V_b263 := V_b263.keep K280 (ninS (Ne.symm ne_b171_b263) nin0)
      have F_modCount_b169 := F_modCount_b169.keep K280 (ninS ne_b169_b171 nin0)
      have F_elementData_b169 := F_elementData_b169.keep K280 (ninS ne_b169_b171 nin0)
      have F_size_b169 := F_size_b169.keep K280 (ninS ne_b169_b171 nin0)
      have N280 := Fr.app N274 n280
      show Run p e below _ (T280.setTop (mkF m 111 #[.val (.int p0), .val (.int p1), .val (.int (3 : Int32)), .val (.int (3 : Int32)), .val (.ref b163), .val (.ref b167), .val (.ref b169), .val (.ref b171), .unset, .unset] [(.int (1 : Int32))]))
      refine go (fun _ => XS.pop X280.here hx rfl (hb hby at_111) rfl rfl) ?_
      show Run p e below _ (T280.setTop (mkF m 112 #[.val (.int p0), .val (.int p1), .val (.int (3 : Int32)), .val (.int (3 : Int32)), .val (.ref b163), .val (.ref b167), .val (.ref b169), .val (.ref b171), .unset, .unset] []))
      refine go (fun _ => XS.iloadN X280.here hx rfl (hb hby at_112) rfl) ?_
      show Run p e below _ (T280.setTop (mkF m 113 #[.val (.int p0), .val (.int p1), .val (.int (3 : Int32)), .val (.int (3 : Int32)), .val (.ref b163), .val (.ref b167), .val (.ref b169), .val (.ref b171), .unset, .unset] [(.int (3 : Int32))]))
      refine go (fun _ => XS.iconst X280.here hx rfl (hb hby at_113)) ?_
      show Run p e below _ (T280.setTop (mkF m 114 #[.val (.int p0), .val (.int p1), .val (.int (3 : Int32)), .val (.int (3 : Int32)), .val (.ref b163), .val (.ref b167), .val (.ref b169), .val (.ref b171), .unset, .unset] [(.int (1 : Int32)), (.int (3 : Int32))]))
      refine go (fun _ => XS.icmpNo X280.here hx rfl (hb hby at_114) rfl (tlt (by decide : (1 : Int32) < 3)).2.2.2) ?_
      show Run p e below _ (T280.setTop (mkF m 117 #[.val (.int p0), .val (.int p1), .val (.int (3 : Int32)), .val (.int (3 : Int32)), .val (.ref b163), .val (.ref b167), .val (.ref b169), .val (.ref b171), .unset, .unset] []))
      refine go (fun _ => XS.aload X280.here hx rfl (hb hby at_117) rfl rfl) ?_
      show Run p e below _ (T280.setTop (mkF m 119 #[.val (.int p0), .val (.int p1), .val (.int (3 : Int32)), .val (.int (3 : Int32)), .val (.ref b163), .val (.ref b167), .val (.ref b169), .val (.ref b171), .unset, .unset] [(.ref b171)]))
      refine go (fun _ => XS.aload X280.here hx rfl (hb hby at_119) rfl rfl) ?_
      show Run p e below _ (T280.setTop (mkF m 121 #[.val (.int p0), .val (.int p1), .val (.int (3 : Int32)), .val (.int (3 : Int32)), .val (.ref b163), .val (.ref b167), .val (.ref b169), .val (.ref b171), .unset, .unset] [(.ref b167), (.ref b171)]))
      refine callIf X280 hx hZ hown (wd hw 80 rfl) (wd hw 81 rfl) (wd hw 82 rfl) rfl (wd hw 83 rfl) (wd hw 84 rfl) (wd hw 85 rfl) (wd hw 86 rfl) (wd hw 87 rfl) (wd hw 88 rfl) (wd hw 5 rfl) (by decide) e280 E_b171 (argsL := [(.ref b167)]) (rest := []) (rm_add1_1 l Z a0 hw [] b171 b167 b280 k280 ((0 : Int32) + (1 : Int32)) (.ref b167) h280 n0 O0 E_b171 F_modCount_b171 F_elementData_b171 F_size_b171 V_b280 O280 g_b171 g_b280 (Ne.symm ne_b171_b280) E_b167 ne_b167_b171 ne_b167_b280) (W := 0) (by decide) (by decide) (by decide) (by decide) (by rw [hml]; rfl) (lenOf pd_18 rfl) rfl (Nat.le_of_eq rfl) (hb hby at_121) ?_
      intro v282 T282 L282 h282 X282 e282 q282
      obtain ⟨rfl, n282, K282, E_b171, F_modCount_b171, F_elementData_b171, F_size_b171, V_b280⟩ := q282
      have O0 := O0.keep K282 (allS g_b171 (allS g_b280 all0))
      have E_b163 := E_b163.keep K282
      have E_b167 := E_b167.keep K282
      have E_b169 := E_b169.keep K282
      have E_b263 := E_b263.keep K282
      have V_b263 := V_b263.keep K282 (ninS (Ne.symm ne_b171_b263) (ninS ne_b263_b280 nin0))
      have F_modCount_b169 := F_modCount_b169.keep K282 (ninS ne_b169_b171 (ninS ne_b169_b280 nin0))
      have F_elementData_b169 := F_elementData_b169.keep K282 (ninS ne_b169_b171 (ninS ne_b169_b280 nin0))
      have F_size_b169 := F_size_b169.keep K282 (ninS ne_b169_b171 (ninS ne_b169_b280 nin0))
      have E_b280 := E_b280.keep K282
      have N282 := Fr.app N280 n282
      show Run p e below _ (T282.setTop (mkF m 126 #[.val (.int p0), .val (.int p1), .val (.int (3 : Int32)), .val (.int (3 : Int32)), .val (.ref b163), .val (.ref b167), .val (.ref b169), .val (.ref b171), .unset, .unset] [(.int (1 : Int32))]))
      refine go (fun _ => XS.pop X282.here hx rfl (hb hby at_126) rfl rfl) ?_
      show Run p e below _ (T282.setTop (mkF m 127 #[.val (.int p0), .val (.int p1), .val (.int (3 : Int32)), .val (.int (3 : Int32)), .val (.ref b163), .val (.ref b167), .val (.ref b169), .val (.ref b171), .unset, .unset] []))
      refine go (fun _ => XS.iloadN X282.here hx rfl (hb hby at_127) rfl) ?_
      show Run p e below _ (T282.setTop (mkF m 128 #[.val (.int p0), .val (.int p1), .val (.int (3 : Int32)), .val (.int (3 : Int32)), .val (.ref b163), .val (.ref b167), .val (.ref b169), .val (.ref b171), .unset, .unset] [(.int (3 : Int32))]))
      refine go (fun _ => XS.iconst X282.here hx rfl (hb hby at_128)) ?_
      show Run p e below _ (T282.setTop (mkF m 129 #[.val (.int p0), .val (.int p1), .val (.int (3 : Int32)), .val (.int (3 : Int32)), .val (.ref b163), .val (.ref b167), .val (.ref b169), .val (.ref b171), .unset, .unset] [(.int (2 : Int32)), (.int (3 : Int32))]))
      refine go (fun _ => XS.icmpNo X282.here hx rfl (hb hby at_129) rfl (tlt (by decide : (2 : Int32) < 3)).2.2.2) ?_
      show Run p e below _ (T282.setTop (mkF m 132 #[.val (.int p0), .val (.int p1), .val (.int (3 : Int32)), .val (.int (3 : Int32)), .val (.ref b163), .val (.ref b167), .val (.ref b169), .val (.ref b171), .unset, .unset] []))
      refine go (fun _ => XS.aload X282.here hx rfl (hb hby at_132) rfl rfl) ?_
      show Run p e below _ (T282.setTop (mkF m 134 #[.val (.int p0), .val (.int p1), .val (.int (3 : Int32)), .val (.int (3 : Int32)), .val (.ref b163), .val (.ref b167), .val (.ref b169), .val (.ref b171), .unset, .unset] [(.ref b171)]))
      refine go (fun _ => XS.aload X282.here hx rfl (hb hby at_134) rfl rfl) ?_
      show Run p e below _ (T282.setTop (mkF m 136 #[.val (.int p0), .val (.int p1), .val (.int (3 : Int32)), .val (.int (3 : Int32)), .val (.ref b163), .val (.ref b167), .val (.ref b169), .val (.ref b171), .unset, .unset] [(.ref b167), (.ref b171)]))
      refine callIf X282 hx hZ hown (wd hw 80 rfl) (wd hw 81 rfl) (wd hw 82 rfl) rfl (wd hw 83 rfl) (wd hw 84 rfl) (wd hw 85 rfl) (wd hw 86 rfl) (wd hw 87 rfl) (wd hw 88 rfl) (wd hw 5 rfl) (by decide) e282 E_b171 (argsL := [(.ref b167)]) (rest := []) (rm_add2_2 l Z a0 hw [] b171 b167 b280 k280 (((0 : Int32) + (1 : Int32)) + (1 : Int32)) (.ref b167) (.ref b167) h282 n0 O0 E_b171 F_modCount_b171 F_elementData_b171 F_size_b171 V_b280 O280 g_b171 g_b280 (Ne.symm ne_b171_b280) E_b167 ne_b167_b171 ne_b167_b280) (W := 0) (by decide) (by decide) (by decide) (by decide) (by rw [hml]; rfl) (lenOf pd_18 rfl) rfl (Nat.le_of_eq rfl) (hb hby at_136) ?_
      intro v283 T283 L283 h283 X283 e283 q283
      obtain ⟨rfl, n283, K283, E_b171, F_modCount_b171, F_elementData_b171, F_size_b171, V_b280⟩ := q283
      have O0 := O0.keep K283 (allS g_b171 (allS g_b280 all0))
      have E_b163 := E_b163.keep K283
      have E_b167 := E_b167.keep K283
      have E_b169 := E_b169.keep K283
      have E_b263 := E_b263.keep K283
      have V_b263 := V_b263.keep K283 (ninS (Ne.symm ne_b171_b263) (ninS ne_b263_b280 nin0))
      have F_modCount_b169 := F_modCount_b169.keep K283 (ninS ne_b169_b171 (ninS ne_b169_b280 nin0))
      have F_elementData_b169 := F_elementData_b169.keep K283 (ninS ne_b169_b171 (ninS ne_b169_b280 nin0))
      have F_size_b169 := F_size_b169.keep K283 (ninS ne_b169_b171 (ninS ne_b169_b280 nin0))
      have E_b280 := E_b280.keep K283
      have N283 := Fr.app N282 n283
      show Run p e below _ (T283.setTop (mkF m 141 #[.val (.int p0), .val (.int p1), .val (.int (3 : Int32)), .val (.int (3 : Int32)), .val (.ref b163), .val (.ref b167), .val (.ref b169), .val (.ref b171), .unset, .unset] [(.int (1 : Int32))]))
      refine go (fun _ => XS.pop X283.here hx rfl (hb hby at_141) rfl rfl) ?_
      show Run p e below _ (T283.setTop (mkF m 142 #[.val (.int p0), .val (.int p1), .val (.int (3 : Int32)), .val (.int (3 : Int32)), .val (.ref b163), .val (.ref b167), .val (.ref b169), .val (.ref b171), .unset, .unset] []))
      exact J142 _ _ _ (smono X283 (by decide) (by decide)) e283 N283 (3 : Int32) (3 : Int32) b163 b167 b169 b171 O0 (⟨E_b169, (Ins.of_exa E_b163 (wd hw 204 rfl)), b263, k263, Or.inr (Or.inr (Or.inr ⟨rfl, F_elementData_b169, F_size_b169, V_b263, E_b263⟩))⟩ : ALS Z h283 b169 b163 (3 : Int32)) (⟨E_b171, (Ins.of_exa E_b167 (wd hw 112 rfl)), b280, k280, Or.inr (Or.inr (Or.inr ⟨rfl, F_elementData_b171, F_size_b171, V_b280, E_b280⟩))⟩ : ALS Z h283 b171 b167 (3 : Int32))
set_option maxRecDepth 65536 in
set_option maxHeartbeats 40000000 in
theorem comes_1 {Post : Tables → Env → Array Value → State → Outcome → State → Prop} (hpost : ∀ tb e args s v u, (limb_1_1.after args s (.returned v) u = true ∧ limb_1_2.after args s (.returned v) u = true ∧ True) → FrameEnd s (.returned v) u (Jvm.fieldLocs frame_1_writes args s ++ Jvm.arrayLocs frame_1_arrays args s ++ Jvm.staticLocs frame_1_statics s) 40 192 → Post tb e args s (.returned v) u) :
    ArmFor flags0 classFile x code maxLocals ret World_1 tables_1 room_1 Calls_1 rest_1 Pre_1 Post := by
  intro l hfl _ _ p e ha hc hk s m args below hf hA hF happ hP
  obtain ⟨hcalls, hrest, hpre⟩ := hP
  obtain ⟨-, -, -, hnamed, -, -, -, hat⟩ := (Spec.applies_iff hf).mp happ
  obtain ⟨hg, hn⟩ := and_e (Cond.before_iff.mp (show (Jvm.Cond.and given_1 narrow_1).before args s = true from hpre))
  obtain ⟨h1, hg⟩ := and_e hg
  obtain ⟨g0, hg⟩ := and_e hg
  have g1 := hg
  obtain ⟨w0, w1, rfl⟩ : ∃ w0 w1 : Value, args = #[w0, w1] := by
    have hs : args.size = 2 := by simpa [Cond.value, given_1] using h1
    obtain ⟨L⟩ := args
    match L, hs with
    | [w0, w1], _ => exact ⟨w0, w1, rfl⟩
  have hw := fun d (hd : d ∈ tables_1) => atoms_spec (ws := Jvm.Cond.code x code maxLocals ret :: tables_1) hat d (List.mem_cons_of_mem _ hd)
  obtain ⟨hsets, hown0⟩ := atoms_of _ (rest_1_c_eq ▸ (show rest_1_c.before _ s = true from hrest))
  have hr0 := Cond.before_iff.mp hown0
  have hfit : Fit s := fun {y c} hc i hi => by
    obtain ⟨ha, rfl⟩ := Array.getElem?_eq_some_iff.mp hc
    have q := List.all_eq_true.mp ((Array.all_eq_true_iff_forall_mem.mp hF) _ (Array.getElem_mem ha)) i (List.mem_range.mpr hi)
    simpa [Array.getElem?_eq_getElem hi] using q
  obtain ⟨i0, ev0⟩ := is_v g0
  obtain rfl : w0 = (.int i0) := Option.some.inj ev0
  obtain ⟨i1, ev1⟩ := is_v g1
  obtain rfl : w1 = (.int i1) := Option.some.inj ev1
  obtain ⟨wD, ed⟩ := arr_v (Cond.before_iff.mp (hsets _ (List.mem_of_getElem? (i := 6) rfl)))
  have S_DEFAULTCAPACITY_EMPTY_ELEMENTDATA := Sta.start ed (Or.inr ⟨(wd hw 5 rfl), (hsets _ (List.mem_of_getElem? (i := 2) rfl))⟩)
  obtain ⟨clD, AD⟩ := Arr.start ed (Cond.before_iff.mp (hsets _ (List.mem_of_getElem? (i := 6) rfl)))
  have elD := eqv_i (Term.int_eval (0)) (Cond.before_iff.mp (hsets _ (List.mem_of_getElem? (i := 8) rfl)))
  obtain ⟨lqD, leD⟩ := own_len ed AD elD
  have VD : Arv s s.heap wD clD.cls (.object "java/lang/Object") (0 : Int32) [] .null := Arv.start hfit AD lqD leD (by decide) rfl trivial
  obtain ⟨mc_, mk_, mr, m1_, m2_, m3_, m4_⟩ := hcalls.1
  have Mr : Mir s "[Ljava/lang/Object;" mr := ⟨mc_, mk_, m1_, m2_, m3_, m4_⟩
  obtain ⟨wEL, eEL⟩ := exa_v (Cond.before_iff.mp (hsets _ (List.mem_of_getElem? (i := 11) rfl)))
  have S_EMPTY_LIST := Sta.start eEL (Or.inl (hsets _ (List.mem_of_getElem? (i := 10) rfl)))
  have E_EL := Exa.start eEL (Cond.before_iff.mp (hsets _ (List.mem_of_getElem? (i := 11) rfl)))
  obtain ⟨eaE, eEA⟩ := arr_v (Cond.before_iff.mp (hsets _ (List.mem_of_getElem? (i := 12) rfl)))
  obtain ⟨clE, AE⟩ := Arr.start eEA (Cond.before_iff.mp (hsets _ (List.mem_of_getElem? (i := 12) rfl)))
  have elE := eqv_i (Term.int_eval (0)) (Cond.before_iff.mp (hsets _ (List.mem_of_getElem? (i := 14) rfl)))
  obtain ⟨lqE, leE⟩ := own_len eEA AE elE
  have VE : Arv s s.heap eaE clE.cls (.object "java/lang/Object") (0 : Int32) [] .null := Arv.start hfit AE lqE leE (by decide) rfl trivial
  have FE := Fld.start ((fld_at eEL).symm.trans eEA)
  have HE : IL s s.heap wEL true := Or.inr ⟨E_EL, eaE, _, _, _, FE, VE, rfl⟩
  obtain ⟨wE, eE⟩ := exa_v (Cond.before_iff.mp (hsets _ (List.mem_of_getElem? (i := 18) rfl)))
  have S_EMPTY := Sta.start eE (Or.inl (hsets _ (List.mem_of_getElem? (i := 17) rfl)))
  obtain ⟨n, o, h1, h2, h3, _, L, rfl, ⟨rfl, N⟩, hq⟩ := rmlaw l s _ hw tables_1 i0 i1 wD clD.cls mr wEL wE s.heap s.heap.size (Old.start s) S_DEFAULTCAPACITY_EMPTY_ELEMENTDATA VD S_EMPTY_LIST S_EMPTY Mr HE p e ha hc hk s m _ below hf ((Spec.applies_iff_loose hf).mp happ).1 ⟨rfl, State.Warmed39.refl s, rfl⟩ trivial
  refine ⟨n, _, h1, h2, h3, hpost _ _ _ _ _ _ ⟨Cond.after_iff.mpr rfl, Cond.after_iff.mpr (eq_i res_at (Term.int_eval (1)) rfl), trivial⟩ ⟨hq.1, hq.2.1, (hq.2.2.sift fun y hy => Or.inr (N y hy)).mono (by decide) (by decide)⟩⟩
theorem main_1_1 : Claimed_1_1 := comes_1 fun _ _ _ _ _ _ h hF => ⟨h.1, hF⟩
theorem main_1_2 : Claimed_1_2 := comes_1 fun _ _ _ _ _ _ h hF => ⟨h.2.1, hF⟩
end Jvm.Pilot.@@N@@
namespace Jvm.Pilot.@@N@@
open Jvm Jvm.ClassFile Sem Op Lib Jvm.Free Jvm.Stand Jvm.Pilot.@@N@@.Jvm.D
/-! MADE BY PROGRAM (witnessworld.py) out of the Statement's table words and the real class files: 31 classes; the members and pool entries that the words name. The judged class is class 1, her method 1. -/
namespace start1
open Jvm.ClassFile
def u (s : String) : CpInfo := .utf8 (stringToUtf16 s)
/-- a pool by its gaps: so many unusable entries, then the entry; so many at the end -/
def gap : Nat → List CpInfo → List CpInfo
  | 0, r => r
  | n + 1, r => .unusable :: gap n r
def poolList (es : List (Nat × CpInfo)) (last : Nat) : List CpInfo := es.foldr (fun e r => gap e.1 (e.2 :: r)) (gap last [])
def pool (es : List (Nat × CpInfo)) (last : Nat) : Array CpInfo := ⟨poolList es last⟩
def fileOf (pool : Array CpInfo) (this : Nat) (attrs : Array Attribute := #[]) (ms : Array MethodInfo := #[]) (fl : Nat := 33) (sup : Nat := 0) (ifs : Array Nat := #[]) (fds : Array FieldInfo := #[]) : ClassFile where
  minorVersion := 0
  majorVersion := 65
  constantPool := pool
  accessFlags := fl
  thisClass := this
  superClass := sup
  interfaces := ifs
  fields := fds
  methods := ms
  attributes := attrs
def plain (name : String) (sup : Option ClassId) : Class where
  name := name
  kind := .ordinary
  loader := none
  accessFlags := 33
  super := sup
  interfaces := #[]
  cf := none
  fields := #[]
  methods := #[]
  instanceTypes := #[]
  staticTypes := #[]
  resolved := #[]
  callSites := []
  init := .initialized
  statics := none
  mirror := none

def pool0 : Array CpInfo := pool [(5, u "<init>"), (0, u "()V"), (1, .class_ 10), (1, u "java/lang/Object"), (0, u "getClass"), (0, u "()Ljava/lang/Class;")] 111

def k0c0 : Code := { maxStack := 0, maxLocals := 1, code := object_method_1_code, exceptionTable := #[], attributes := #[] }
def k0m0 : Method := { name := "<init>", desc := "()V", sig := { parameters := [], returnType := none }, accessFlags := 1, code := some k0c0 }
def k0m1 : Method := { name := "getClass", desc := "()Ljava/lang/Class;", sig := { parameters := [], returnType := some (.object "java/lang/Class") }, accessFlags := 273, code := none }
/-- java/lang/Object -/
def k0 : Class := { plain "java/lang/Object" none with
  accessFlags := 33
  interfaces := #[]
  cf := some (fileOf pool0 8 #[] #[{ accessFlags := 1, nameIndex := 5, descriptorIndex := 6, attributes := #[] }, { accessFlags := 273, nameIndex := 11, descriptorIndex := 12, attributes := #[] }] 33 0 #[] #[])
  fields := #[]
  methods := #[k0m0, k0m1]
  instanceTypes := #[]
  staticTypes := #[]
  resolved := Array.replicate 124 none
  statics := none }

def pool1 : Array CpInfo := pool [(2, .class_ 4), (0, .nameAndType 5 6), (0, u "java/lang/Object"), (0, u "<init>"), (0, u "()V"), (0, .class_ 8), (0, u "com/example/pipewright/pipewright/core/Word"), (0, .class_ 10), (0, u "java/util/ArrayList"), (0, .methodref 9 3), (0, .methodref 7 13), (0, .nameAndType 5 14), (0, u "(Ljava/util/List;)V"), (0, .class_ 16), (0, u "com/example/pipewright/pipewright/core/Call$Redirection"), (0, .methodref 15 18), (0, .nameAndType 5 19), (0, u "(Lcom/example/pipewright/pipewright/core/Call$Direction;Lcom/example/pipewright/pipewright/core/Word;)V"), (0, .interfaceMethodref 21 22), (0, .class_ 23), (0, .nameAndType 24 25), (0, u "java/util/List"), (0, u "add"), (0, u "(Ljava/lang/Object;)Z"), (0, .class_ 27), (0, u "com/example/pipewright/pipewright/core/Call"), (0, .methodref 26 29), (0, .nameAndType 5 30), (0, u "(Ljava/util/List;Ljava/util/List;)V"), (0, .methodref 26 32), (0, .nameAndType 33 34), (0, u "isEmpty"), (0, u "()Z"), (0, .class_ 36), (0, u "com/example/pipewright/pipewright/core/CallIsEmptyPinLaw"), (2, u "law"), (0, u "(II)Z")] 8

def k1m0 : Method := { name := "<init>", desc := "()V", sig := { parameters := [], returnType := none }, accessFlags := 1, code := none }
def k1c1 : Code := { maxStack := 4, maxLocals := 10, code := code, exceptionTable := #[], attributes := #[] }
def k1m1 : Method := { name := "law", desc := "(II)Z", sig := { parameters := [.int, .int], returnType := some .boolean }, accessFlags := 9, code := some k1c1 }
/-- com/example/pipewright/pipewright/core/CallIsEmptyPinLaw -/
def k1 : Class := { plain "com/example/pipewright/pipewright/core/CallIsEmptyPinLaw" (some 0) with
  accessFlags := 49
  interfaces := #[]
  cf := some (fileOf pool1 35 #[] #[{ accessFlags := 1, nameIndex := 5, descriptorIndex := 6, attributes := #[] }, { accessFlags := 9, nameIndex := 39, descriptorIndex := 40, attributes := #[] }] 49 2 #[] #[])
  fields := #[]
  methods := #[k1m0, k1m1]
  instanceTypes := #[]
  staticTypes := #[]
  resolved := Array.replicate 49 none
  statics := none }

def pool2 : Array CpInfo := pool [(1, .methodref 2 3), (0, .class_ 4), (0, .nameAndType 5 6), (0, u "java/lang/Object"), (0, u "<init>"), (0, u "()V"), (0, .interfaceMethodref 8 9), (0, .class_ 10), (0, .nameAndType 11 12), (0, u "java/util/List"), (0, u "copyOf"), (0, u "(Ljava/util/Collection;)Ljava/util/List;"), (0, .fieldref 14 15), (0, .class_ 16), (0, .nameAndType 17 18), (0, u "com/example/pipewright/pipewright/core/Word"), (0, u "parts"), (0, u "Ljava/util/List;"), (17, .class_ 37), (0, u "com/example/pipewright/pipewright/core/Word$Part"), (0, .class_ 39), (0, u "com/example/pipewright/pipewright/core/Word$Literal"), (8, .class_ 49), (0, u "com/example/pipewright/pipewright/core/Word$Substitution"), (9, .class_ 60), (0, u "com/example/pipewright/pipewright/core/Word$Fields"), (12, .class_ 75), (1, u "com/example/pipewright/pipewright/core/Word$Substitutions"), (32, u "BLANKS"), (0, u "Ljava/lang/String;"), (3, u "STAR"), (0, u "C"), (3, u "(Ljava/util/List;)V")] 22

def k2c0 : Code := { maxStack := 2, maxLocals := 2, code := prog_78_method_1_code, exceptionTable := #[], attributes := #[] }
def k2m0 : Method := { name := "<init>", desc := "(Ljava/util/List;)V", sig := { parameters := [(.object "java/util/List")], returnType := none }, accessFlags := 0, code := some k2c0 }
/-- com/example/pipewright/pipewright/core/Word -/
def k2 : Class := { plain "com/example/pipewright/pipewright/core/Word" (some 0) with
  accessFlags := 49
  interfaces := #[]
  cf := some (fileOf pool2 14 #[.nestMembers #[59, 48, 38, 36, 73]] #[{ accessFlags := 0, nameIndex := 5, descriptorIndex := 118, attributes := #[] }] 49 2 #[] #[{ accessFlags := 24, nameIndex := 108, descriptorIndex := 109, attributes := #[] }, { accessFlags := 26, nameIndex := 113, descriptorIndex := 114, attributes := #[] }, { accessFlags := 18, nameIndex := 17, descriptorIndex := 18, attributes := #[] }])
  fields := #[{ name := "BLANKS", type := (.object "java/lang/String"), accessFlags := 24, slot := 0, constantValue := 0 }, { name := "STAR", type := .char, accessFlags := 26, slot := 1, constantValue := 0 }, { name := "parts", type := (.object "java/util/List"), accessFlags := 18, slot := 0, constantValue := 0 }]
  methods := #[k2m0]
  instanceTypes := #[(.object "java/util/List")]
  staticTypes := #[(.object "java/lang/String"), .char]
  resolved := Array.replicate 141 none
  statics := none }

def pool3 : Array CpInfo := pool [(8, .class_ 10), (1, u "java/lang/Iterable"), (24, .class_ 36), (0, u "java/lang/Object")] 25

/-- java/lang/Iterable -/
def k3 : Class := { plain "java/lang/Iterable" (some 0) with
  accessFlags := 1537
  interfaces := #[]
  cf := some (fileOf pool3 8 #[] #[] 1537 35 #[] #[])
  fields := #[]
  methods := #[]
  instanceTypes := #[]
  staticTypes := #[]
  resolved := Array.replicate 62 none
  statics := none }

def pool4 : Array CpInfo := pool [(10, .class_ 12), (1, u "java/util/Collection"), (0, u "toArray"), (16, u "()Z"), (29, .class_ 61), (0, u "java/lang/Object"), (0, .class_ 63), (0, u "java/lang/Iterable"), (2, u "isEmpty"), (3, u "()[Ljava/lang/Object;")] 44

def k4m0 : Method := { name := "isEmpty", desc := "()Z", sig := { parameters := [], returnType := some .boolean }, accessFlags := 1025, code := none }
def k4m1 : Method := { name := "toArray", desc := "()[Ljava/lang/Object;", sig := { parameters := [], returnType := some (.array (.object "java/lang/Object")) }, accessFlags := 1025, code := none }
/-- java/util/Collection -/
def k4 : Class := { plain "java/util/Collection" (some 0) with
  accessFlags := 1537
  interfaces := #[3]
  cf := some (fileOf pool4 10 #[] #[{ accessFlags := 1025, nameIndex := 66, descriptorIndex := 30, attributes := #[] }, { accessFlags := 1025, nameIndex := 13, descriptorIndex := 70, attributes := #[] }] 1537 60 #[62] #[])
  fields := #[]
  methods := #[k4m0, k4m1]
  instanceTypes := #[]
  staticTypes := #[]
  resolved := Array.replicate 115 none
  statics := none }

def pool5 : Array CpInfo := pool [(1, .methodref 2 3), (0, .class_ 4), (0, .nameAndType 5 6), (0, u "java/lang/Object"), (0, u "<init>"), (0, u "()V"), (1, .class_ 10), (1, u "java/util/AbstractCollection"), (66, .class_ 78), (0, u "java/util/Collection")] 81

def k5c0 : Code := { maxStack := 1, maxLocals := 1, code := jdk_22_method_1_code, exceptionTable := #[], attributes := #[] }
def k5m0 : Method := { name := "<init>", desc := "()V", sig := { parameters := [], returnType := none }, accessFlags := 4, code := some k5c0 }
/-- java/util/AbstractCollection -/
def k5 : Class := { plain "java/util/AbstractCollection" (some 0) with
  accessFlags := 1057
  interfaces := #[4]
  cf := some (fileOf pool5 8 #[] #[{ accessFlags := 4, nameIndex := 5, descriptorIndex := 6, attributes := #[] }] 1057 2 #[77] #[])
  fields := #[]
  methods := #[k5m0]
  instanceTypes := #[]
  staticTypes := #[]
  resolved := Array.replicate 160 none
  statics := none }

def pool6 : Array CpInfo := pool [(8, .class_ 10), (1, u "java/util/SequencedCollection"), (15, .class_ 27), (0, u "java/lang/Object"), (0, .class_ 29), (0, u "java/util/Collection")] 27

/-- java/util/SequencedCollection -/
def k6 : Class := { plain "java/util/SequencedCollection" (some 0) with
  accessFlags := 1537
  interfaces := #[4]
  cf := some (fileOf pool6 8 #[] #[] 1537 26 #[28] #[])
  fields := #[]
  methods := #[]
  instanceTypes := #[]
  staticTypes := #[]
  resolved := Array.replicate 57 none
  statics := none }

def pool7 : Array CpInfo := pool [(8, .class_ 10), (1, u "java/util/List"), (7, u "()Z"), (12, u "(Ljava/lang/Object;)V"), (16, u "<init>"), (11, u "add"), (3, u "(Ljava/lang/Object;)Z"), (2, u "isEmpty"), (20, u "of"), (1, .fieldref 91 92), (0, .class_ 93), (0, .nameAndType 94 95), (0, u "java/util/ImmutableCollections"), (0, u "EMPTY_LIST"), (0, u "Ljava/util/ImmutableCollections$ListN;"), (0, .class_ 97), (0, u "java/util/ImmutableCollections$List12"), (0, .methodref 96 99), (0, .nameAndType 48 31), (0, .methodref 96 101), (0, .nameAndType 48 102), (0, u "(Ljava/lang/Object;Ljava/lang/Object;)V"), (0, .class_ 104), (0, u "java/lang/Object"), (3, u "([Ljava/lang/Object;)Ljava/util/List;"), (0, .methodref 91 110), (0, .nameAndType 111 108), (0, u "listFromArray"), (0, .methodref 91 113), (0, .nameAndType 114 115), (0, u "listCopy"), (0, u "(Ljava/util/Collection;)Ljava/util/List;"), (3, u "()Ljava/util/List;"), (0, .class_ 121), (0, u "java/util/SequencedCollection"), (112, u "copyOf")] 16

def k7m0 : Method := { name := "isEmpty", desc := "()Z", sig := { parameters := [], returnType := some .boolean }, accessFlags := 1025, code := none }
def k7m1 : Method := { name := "add", desc := "(Ljava/lang/Object;)Z", sig := { parameters := [(.object "java/lang/Object")], returnType := some .boolean }, accessFlags := 1025, code := none }
def k7c2 : Code := { maxStack := 1, maxLocals := 0, code := jdk_40_method_36_code, exceptionTable := #[], attributes := #[] }
def k7m2 : Method := { name := "of", desc := "()Ljava/util/List;", sig := { parameters := [], returnType := some (.object "java/util/List") }, accessFlags := 9, code := some k7c2 }
def k7c3 : Code := { maxStack := 5, maxLocals := 2, code := jdk_40_method_47_code, exceptionTable := #[], attributes := #[] }
def k7m3 : Method := { name := "of", desc := "([Ljava/lang/Object;)Ljava/util/List;", sig := { parameters := [(.array (.object "java/lang/Object"))], returnType := some (.object "java/util/List") }, accessFlags := 137, code := some k7c3 }
def k7c4 : Code := { maxStack := 1, maxLocals := 1, code := jdk_40_method_48_code, exceptionTable := #[], attributes := #[] }
def k7m4 : Method := { name := "copyOf", desc := "(Ljava/util/Collection;)Ljava/util/List;", sig := { parameters := [(.object "java/util/Collection")], returnType := some (.object "java/util/List") }, accessFlags := 9, code := some k7c4 }
/-- java/util/List -/
def k7 : Class := { plain "java/util/List" (some 0) with
  accessFlags := 1537
  interfaces := #[6]
  cf := some (fileOf pool7 8 #[] #[{ accessFlags := 1025, nameIndex := 67, descriptorIndex := 18, attributes := #[] }, { accessFlags := 1025, nameIndex := 60, descriptorIndex := 64, attributes := #[] }, { accessFlags := 9, nameIndex := 88, descriptorIndex := 119, attributes := #[] }, { accessFlags := 137, nameIndex := 88, descriptorIndex := 108, attributes := #[] }, { accessFlags := 9, nameIndex := 234, descriptorIndex := 115, attributes := #[] }] 1537 103 #[120] #[])
  fields := #[]
  methods := #[k7m0, k7m1, k7m2, k7m3, k7m4]
  instanceTypes := #[]
  staticTypes := #[]
  resolved := Array.replicate 251 none
  statics := none }

def pool8 : Array CpInfo := pool [(1, .methodref 2 3), (0, .class_ 4), (0, .nameAndType 5 6), (0, u "java/util/AbstractCollection"), (0, u "<init>"), (0, u "()V"), (0, .fieldref 8 9), (0, .class_ 10), (0, .nameAndType 11 12), (0, u "java/util/AbstractList"), (0, u "modCount"), (0, u "I"), (64, .class_ 78), (0, u "java/util/AbstractList$Itr"), (3, .class_ 83), (0, u "java/util/AbstractList$ListItr"), (9, .class_ 94), (0, u "java/util/AbstractList$RandomAccessSubList"), (3, .class_ 99), (0, u "java/util/AbstractList$SubList"), (33, .class_ 134), (0, u "java/util/List"), (73, .class_ 209), (0, u "java/util/AbstractList$SubList$1"), (0, .class_ 211), (0, u "java/util/AbstractList$RandomAccessSpliterator")] 6

def k8c0 : Code := { maxStack := 2, maxLocals := 1, code := jdk_39_method_1_code, exceptionTable := #[], attributes := #[] }
def k8m0 : Method := { name := "<init>", desc := "()V", sig := { parameters := [], returnType := none }, accessFlags := 4, code := some k8c0 }
/-- java/util/AbstractList -/
def k8 : Class := { plain "java/util/AbstractList" (some 5) with
  accessFlags := 1057
  interfaces := #[7]
  cf := some (fileOf pool8 8 #[.nestMembers #[93, 98, 208, 210, 82, 77]] #[{ accessFlags := 4, nameIndex := 5, descriptorIndex := 6, attributes := #[] }] 1057 2 #[133] #[{ accessFlags := 132, nameIndex := 11, descriptorIndex := 12, attributes := #[] }])
  fields := #[{ name := "modCount", type := .int, accessFlags := 132, slot := 0, constantValue := 0 }]
  methods := #[k8m0]
  instanceTypes := #[.int]
  staticTypes := #[]
  resolved := Array.replicate 218 none
  statics := none }

def pool9 : Array CpInfo := pool [(1, .class_ 2), (0, u "java/util/RandomAccess"), (0, .class_ 4), (0, u "java/lang/Object")] 2

/-- java/util/RandomAccess -/
def k9 : Class := { plain "java/util/RandomAccess" (some 0) with
  accessFlags := 1537
  interfaces := #[]
  cf := some (fileOf pool9 1 #[] #[] 1537 3 #[] #[])
  fields := #[]
  methods := #[]
  instanceTypes := #[]
  staticTypes := #[]
  resolved := Array.replicate 7 none
  statics := none }

def pool10 : Array CpInfo := pool [(1, .class_ 2), (0, u "java/lang/Cloneable"), (0, .class_ 4), (0, u "java/lang/Object")] 2

/-- java/lang/Cloneable -/
def k10 : Class := { plain "java/lang/Cloneable" (some 0) with
  accessFlags := 1537
  interfaces := #[]
  cf := some (fileOf pool10 1 #[] #[] 1537 3 #[] #[])
  fields := #[]
  methods := #[]
  instanceTypes := #[]
  staticTypes := #[]
  resolved := Array.replicate 7 none
  statics := none }

def pool11 : Array CpInfo := pool [(1, .class_ 2), (0, u "java/io/Serializable"), (0, .class_ 4), (0, u "java/lang/Object")] 2

/-- java/io/Serializable -/
def k11 : Class := { plain "java/io/Serializable" (some 0) with
  accessFlags := 1537
  interfaces := #[]
  cf := some (fileOf pool11 1 #[] #[] 1537 3 #[] #[])
  fields := #[]
  methods := #[]
  instanceTypes := #[]
  staticTypes := #[]
  resolved := Array.replicate 7 none
  statics := none }

def pool12 : Array CpInfo := pool [(1, .methodref 2 3), (0, .class_ 4), (0, .nameAndType 5 6), (0, u "java/util/AbstractList"), (0, u "<init>"), (0, u "()V"), (0, .class_ 8), (0, u "java/lang/Object"), (0, .fieldref 10 11), (0, .class_ 12), (0, .nameAndType 13 14), (0, u "java/util/ArrayList"), (0, u "elementData"), (0, u "[Ljava/lang/Object;"), (2, u "EMPTY_ELEMENTDATA"), (21, .fieldref 10 40), (0, .nameAndType 41 14), (0, u "DEFAULTCAPACITY_EMPTY_ELEMENTDATA"), (4, u "toArray"), (0, u "()[Ljava/lang/Object;"), (0, .fieldref 10 49), (0, .nameAndType 50 51), (0, u "size"), (0, u "I"), (6, .class_ 60), (1, u "java/util/Arrays"), (0, u "copyOf"), (1, .fieldref 10 64), (0, .nameAndType 65 51), (0, u "modCount"), (0, .methodref 58 67), (0, .nameAndType 61 68), (0, u "([Ljava/lang/Object;I)[Ljava/lang/Object;"), (0, .methodref 10 70), (0, .nameAndType 71 72), (0, u "grow"), (0, u "(I)[Ljava/lang/Object;"), (6, .methodref 80 81), (0, .class_ 82), (0, .nameAndType 83 84), (0, u "java/lang/Math"), (0, u "max"), (0, u "(II)I"), (11, u "(Ljava/lang/Object;)Z"), (32, .methodref 10 130), (0, .nameAndType 71 47), (0, .methodref 10 132), (0, .nameAndType 133 134), (0, u "add"), (0, u "(Ljava/lang/Object;[Ljava/lang/Object;I)V"), (13, .class_ 149), (0, u "java/util/List"), (23, u "()Z"), (88, .class_ 263), (0, u "java/util/ArrayList$ListItr"), (3, .class_ 268), (0, u "java/util/ArrayList$Itr"), (7, .class_ 277), (0, u "java/util/ArrayList$SubList"), (12, .class_ 291), (0, u "java/util/ArrayList$ArrayListSpliterator"), (37, .class_ 330), (0, u "java/util/RandomAccess"), (0, .class_ 332), (0, u "java/lang/Cloneable"), (0, .class_ 334), (0, u "java/io/Serializable"), (0, u "serialVersionUID"), (0, u "J"), (3, u "DEFAULT_CAPACITY"), (22, u "isEmpty"), (136, .class_ 501), (0, u "java/util/ArrayList$SubList$2"), (0, .class_ 503), (0, u "java/util/ArrayList$SubList$1")] 5

def k12c0 : Code := { maxStack := 2, maxLocals := 1, code := jdk_38_method_2_code, exceptionTable := #[], attributes := #[] }
def k12m0 : Method := { name := "<init>", desc := "()V", sig := { parameters := [], returnType := none }, accessFlags := 1, code := some k12c0 }
def k12c1 : Code := { maxStack := 4, maxLocals := 4, code := jdk_38_method_6_code, exceptionTable := #[], attributes := #[] }
def k12m1 : Method := { name := "grow", desc := "(I)[Ljava/lang/Object;", sig := { parameters := [.int], returnType := some (.array (.object "java/lang/Object")) }, accessFlags := 2, code := some k12c1 }
def k12c2 : Code := { maxStack := 3, maxLocals := 1, code := jdk_38_method_7_code, exceptionTable := #[], attributes := #[] }
def k12m2 : Method := { name := "grow", desc := "()[Ljava/lang/Object;", sig := { parameters := [], returnType := some (.array (.object "java/lang/Object")) }, accessFlags := 2, code := some k12c2 }
def k12c3 : Code := { maxStack := 1, maxLocals := 1, code := jdk_38_method_9_code, exceptionTable := #[], attributes := #[] }
def k12m3 : Method := { name := "isEmpty", desc := "()Z", sig := { parameters := [], returnType := some .boolean }, accessFlags := 1, code := some k12c3 }
def k12c4 : Code := { maxStack := 2, maxLocals := 1, code := jdk_38_method_16_code, exceptionTable := #[], attributes := #[] }
def k12m4 : Method := { name := "toArray", desc := "()[Ljava/lang/Object;", sig := { parameters := [], returnType := some (.array (.object "java/lang/Object")) }, accessFlags := 1, code := some k12c4 }
def k12c5 : Code := { maxStack := 3, maxLocals := 4, code := jdk_38_method_24_code, exceptionTable := #[], attributes := #[] }
def k12m5 : Method := { name := "add", desc := "(Ljava/lang/Object;[Ljava/lang/Object;I)V", sig := { parameters := [(.object "java/lang/Object"), (.array (.object "java/lang/Object")), .int], returnType := none }, accessFlags := 2, code := some k12c5 }
def k12c6 : Code := { maxStack := 4, maxLocals := 2, code := jdk_38_method_25_code, exceptionTable := #[], attributes := #[] }
def k12m6 : Method := { name := "add", desc := "(Ljava/lang/Object;)Z", sig := { parameters := [(.object "java/lang/Object")], returnType := some .boolean }, accessFlags := 1, code := some k12c6 }
/-- java/util/ArrayList -/
def k12 : Class := { plain "java/util/ArrayList" (some 8) with
  accessFlags := 33
  interfaces := #[7, 9, 10, 11]
  cf := some (fileOf pool12 10 #[.nestMembers #[290, 276, 500, 502, 262, 267]] #[{ accessFlags := 1, nameIndex := 5, descriptorIndex := 6, attributes := #[] }, { accessFlags := 2, nameIndex := 71, descriptorIndex := 72, attributes := #[] }, { accessFlags := 2, nameIndex := 71, descriptorIndex := 47, attributes := #[] }, { accessFlags := 1, nameIndex := 363, descriptorIndex := 173, attributes := #[] }, { accessFlags := 1, nameIndex := 46, descriptorIndex := 47, attributes := #[] }, { accessFlags := 2, nameIndex := 133, descriptorIndex := 134, attributes := #[] }, { accessFlags := 1, nameIndex := 133, descriptorIndex := 96, attributes := #[] }] 33 2 #[148, 329, 331, 333] #[{ accessFlags := 26, nameIndex := 335, descriptorIndex := 336, attributes := #[] }, { accessFlags := 26, nameIndex := 340, descriptorIndex := 51, attributes := #[] }, { accessFlags := 26, nameIndex := 17, descriptorIndex := 14, attributes := #[] }, { accessFlags := 26, nameIndex := 41, descriptorIndex := 14, attributes := #[] }, { accessFlags := 128, nameIndex := 13, descriptorIndex := 14, attributes := #[] }, { accessFlags := 2, nameIndex := 50, descriptorIndex := 51, attributes := #[] }])
  fields := #[{ name := "serialVersionUID", type := .long, accessFlags := 26, slot := 0, constantValue := 0 }, { name := "DEFAULT_CAPACITY", type := .int, accessFlags := 26, slot := 1, constantValue := 0 }, { name := "EMPTY_ELEMENTDATA", type := (.array (.object "java/lang/Object")), accessFlags := 26, slot := 2, constantValue := 0 }, { name := "DEFAULTCAPACITY_EMPTY_ELEMENTDATA", type := (.array (.object "java/lang/Object")), accessFlags := 26, slot := 3, constantValue := 0 }, { name := "elementData", type := (.array (.object "java/lang/Object")), accessFlags := 128, slot := 1, constantValue := 0 }, { name := "size", type := .int, accessFlags := 2, slot := 2, constantValue := 0 }]
  methods := #[k12m0, k12m1, k12m2, k12m3, k12m4, k12m5, k12m6]
  instanceTypes := #[.int, (.array (.object "java/lang/Object")), .int]
  staticTypes := #[.long, .int, (.array (.object "java/lang/Object")), (.array (.object "java/lang/Object"))]
  resolved := Array.replicate 509 none
  statics := some 0 }

def pool13 : Array CpInfo := pool [(2, .class_ 4), (1, u "java/lang/Object"), (0, u "<init>"), (0, u "()V"), (3, .class_ 11), (0, u "java/util/ImmutableCollections$List12"), (0, .class_ 13), (0, u "java/util/ImmutableCollections$ListN"), (3, u "Z"), (0, .class_ 19), (0, u "java/util/List"), (0, .interfaceMethodref 21 22), (0, .class_ 23), (0, .nameAndType 24 25), (0, u "java/util/Collection"), (0, u "isEmpty"), (0, u "()Z"), (0, .interfaceMethodref 18 27), (0, .nameAndType 28 29), (0, u "of"), (0, u "()Ljava/util/List;"), (0, .interfaceMethodref 21 31), (0, .nameAndType 32 33), (0, u "toArray"), (0, u "()[Ljava/lang/Object;"), (0, .interfaceMethodref 18 35), (0, .nameAndType 28 36), (0, u "([Ljava/lang/Object;)Ljava/util/List;"), (0, .methodref 38 39), (0, .class_ 40), (0, .nameAndType 41 42), (0, u "java/util/Objects"), (0, u "requireNonNull"), (0, u "(Ljava/lang/Object;)Ljava/lang/Object;"), (0, .methodref 12 44), (0, .nameAndType 5 45), (0, u "([Ljava/lang/Object;Z)V"), (1, .class_ 49), (1, u "java/util/ImmutableCollections"), (0, u "$assertionsDisabled"), (5, u "[Ljava/lang/Object;"), (5, u "EMPTY_LIST"), (0, u "Ljava/util/ImmutableCollections$ListN;"), (8, u "EMPTY_LIST_NULLS"), (22, u "SALT32L"), (0, u "J"), (2, u "REVERSE"), (6, u "archivedObjects"), (2, u "EMPTY"), (0, u "Ljava/lang/Object;"), (0, .class_ 112), (0, u "java/util/ImmutableCollections$SetN"), (5, u "EMPTY_SET"), (0, u "Ljava/util/ImmutableCollections$SetN;"), (0, .class_ 121), (0, u "java/util/ImmutableCollections$MapN"), (3, u "EMPTY_MAP"), (0, u "Ljava/util/ImmutableCollections$MapN;"), (4, u "EXPAND_FACTOR"), (0, u "I"), (9, u "listCopy"), (0, u "(Ljava/util/Collection;)Ljava/util/List;"), (7, u "listFromArray"), (17, .class_ 170), (0, u "java/util/ImmutableCollections$MapN$MapNIterator"), (0, .class_ 172), (0, u "java/util/ImmutableCollections$MapN$1"), (0, .class_ 174), (0, u "java/util/ImmutableCollections$Map1"), (0, .class_ 176), (0, u "java/util/ImmutableCollections$AbstractImmutableMap"), (0, .class_ 178), (0, u "java/util/ImmutableCollections$SetN$SetNIterator"), (0, .class_ 180), (0, u "java/util/ImmutableCollections$Set12"), (0, .class_ 182), (0, u "java/util/ImmutableCollections$Set12$1"), (0, .class_ 184), (0, u "java/util/ImmutableCollections$AbstractImmutableSet"), (0, .class_ 186), (0, u "java/util/ImmutableCollections$SubList"), (0, .class_ 188), (0, u "java/util/ImmutableCollections$ListItr"), (0, .class_ 190), (0, u "java/util/ImmutableCollections$AbstractImmutableList"), (0, .class_ 192), (0, u "java/util/ImmutableCollections$AbstractImmutableCollection"), (0, .class_ 194), (0, u "java/util/ImmutableCollections$Access"), (0, .class_ 196), (0, u "java/util/ImmutableCollections$Access$1")] 16

def k13m0 : Method := { name := "<init>", desc := "()V", sig := { parameters := [], returnType := none }, accessFlags := 2, code := none }
def k13c1 : Code := { maxStack := 1, maxLocals := 2, code := jdk_56_method_3_code, exceptionTable := #[], attributes := #[] }
def k13m1 : Method := { name := "listCopy", desc := "(Ljava/util/Collection;)Ljava/util/List;", sig := { parameters := [(.object "java/util/Collection")], returnType := some (.object "java/util/List") }, accessFlags := 8, code := some k13c1 }
def k13c2 : Code := { maxStack := 4, maxLocals := 3, code := jdk_56_method_4_code, exceptionTable := #[], attributes := #[] }
def k13m2 : Method := { name := "listFromArray", desc := "([Ljava/lang/Object;)Ljava/util/List;", sig := { parameters := [(.array (.object "java/lang/Object"))], returnType := some (.object "java/util/List") }, accessFlags := 136, code := some k13c2 }
/-- java/util/ImmutableCollections -/
def k13 : Class := { plain "java/util/ImmutableCollections" (some 0) with
  accessFlags := 32
  interfaces := #[]
  cf := some (fileOf pool13 47 #[.nestMembers #[120, 169, 171, 173, 175, 111, 177, 179, 181, 183, 12, 10, 185, 187, 189, 191, 193, 195]] #[{ accessFlags := 2, nameIndex := 5, descriptorIndex := 6, attributes := #[] }, { accessFlags := 8, nameIndex := 142, descriptorIndex := 143, attributes := #[] }, { accessFlags := 136, nameIndex := 151, descriptorIndex := 36, attributes := #[] }] 32 2 #[] #[{ accessFlags := 26, nameIndex := 95, descriptorIndex := 96, attributes := #[] }, { accessFlags := 26, nameIndex := 99, descriptorIndex := 17, attributes := #[] }, { accessFlags := 10, nameIndex := 106, descriptorIndex := 56, attributes := #[] }, { accessFlags := 26, nameIndex := 109, descriptorIndex := 110, attributes := #[] }, { accessFlags := 24, nameIndex := 62, descriptorIndex := 63, attributes := #[] }, { accessFlags := 24, nameIndex := 72, descriptorIndex := 63, attributes := #[] }, { accessFlags := 24, nameIndex := 118, descriptorIndex := 119, attributes := #[] }, { accessFlags := 24, nameIndex := 125, descriptorIndex := 126, attributes := #[] }, { accessFlags := 24, nameIndex := 131, descriptorIndex := 132, attributes := #[] }, { accessFlags := 4120, nameIndex := 50, descriptorIndex := 17, attributes := #[] }])
  fields := #[{ name := "SALT32L", type := .long, accessFlags := 26, slot := 0, constantValue := 0 }, { name := "REVERSE", type := .boolean, accessFlags := 26, slot := 1, constantValue := 0 }, { name := "archivedObjects", type := (.array (.object "java/lang/Object")), accessFlags := 10, slot := 2, constantValue := 0 }, { name := "EMPTY", type := (.object "java/lang/Object"), accessFlags := 26, slot := 3, constantValue := 0 }, { name := "EMPTY_LIST", type := (.object "java/util/ImmutableCollections$ListN"), accessFlags := 24, slot := 4, constantValue := 0 }, { name := "EMPTY_LIST_NULLS", type := (.object "java/util/ImmutableCollections$ListN"), accessFlags := 24, slot := 5, constantValue := 0 }, { name := "EMPTY_SET", type := (.object "java/util/ImmutableCollections$SetN"), accessFlags := 24, slot := 6, constantValue := 0 }, { name := "EMPTY_MAP", type := (.object "java/util/ImmutableCollections$MapN"), accessFlags := 24, slot := 7, constantValue := 0 }, { name := "EXPAND_FACTOR", type := .int, accessFlags := 24, slot := 8, constantValue := 0 }, { name := "$assertionsDisabled", type := .boolean, accessFlags := 4120, slot := 9, constantValue := 0 }]
  methods := #[k13m0, k13m1, k13m2]
  instanceTypes := #[]
  staticTypes := #[.long, .boolean, (.array (.object "java/lang/Object")), (.object "java/lang/Object"), (.object "java/util/ImmutableCollections$ListN"), (.object "java/util/ImmutableCollections$ListN"), (.object "java/util/ImmutableCollections$SetN"), (.object "java/util/ImmutableCollections$MapN"), .int, .boolean]
  resolved := Array.replicate 213 none
  statics := some 1 }

def pool14 : Array CpInfo := pool [(1, .methodref 2 3), (0, .class_ 4), (0, .nameAndType 5 6), (0, u "java/util/AbstractCollection"), (0, u "<init>"), (0, u "()V"), (1, .class_ 10), (1, u "java/util/ImmutableCollections"), (2, .class_ 14), (0, u "java/util/ImmutableCollections$AbstractImmutableCollection")] 41

def k14c0 : Code := { maxStack := 1, maxLocals := 1, code := jdk_47_method_1_code, exceptionTable := #[], attributes := #[] }
def k14m0 : Method := { name := "<init>", desc := "()V", sig := { parameters := [], returnType := none }, accessFlags := 0, code := some k14c0 }
/-- java/util/ImmutableCollections$AbstractImmutableCollection -/
def k14 : Class := { plain "java/util/ImmutableCollections$AbstractImmutableCollection" (some 5) with
  accessFlags := 1056
  interfaces := #[]
  cf := some (fileOf pool14 13 #[.nestHost 8] #[{ accessFlags := 0, nameIndex := 5, descriptorIndex := 6, attributes := #[] }] 1056 2 #[] #[])
  fields := #[]
  methods := #[k14m0]
  instanceTypes := #[]
  staticTypes := #[]
  resolved := Array.replicate 56 none
  statics := none }

def pool15 : Array CpInfo := pool [(1, .methodref 2 3), (0, .class_ 4), (0, .nameAndType 5 6), (0, u "java/util/ImmutableCollections$AbstractImmutableCollection"), (0, u "<init>"), (0, u "()V"), (1, .class_ 10), (1, u "java/util/ImmutableCollections"), (3, .class_ 16), (1, u "java/util/ImmutableCollections$AbstractImmutableList"), (60, .class_ 78), (0, u "java/util/List"), (45, .class_ 125), (0, u "java/util/RandomAccess")] 70

def k15c0 : Code := { maxStack := 1, maxLocals := 1, code := jdk_46_method_1_code, exceptionTable := #[], attributes := #[] }
def k15m0 : Method := { name := "<init>", desc := "()V", sig := { parameters := [], returnType := none }, accessFlags := 0, code := some k15c0 }
/-- java/util/ImmutableCollections$AbstractImmutableList -/
def k15 : Class := { plain "java/util/ImmutableCollections$AbstractImmutableList" (some 14) with
  accessFlags := 1056
  interfaces := #[7, 9]
  cf := some (fileOf pool15 14 #[.nestHost 8] #[{ accessFlags := 0, nameIndex := 5, descriptorIndex := 6, attributes := #[] }] 1056 2 #[77, 124] #[])
  fields := #[]
  methods := #[k15m0]
  instanceTypes := #[]
  staticTypes := #[]
  resolved := Array.replicate 196 none
  statics := none }

def pool16 : Array CpInfo := pool [(1, .methodref 2 3), (0, .class_ 4), (0, .nameAndType 5 6), (0, u "java/util/ImmutableCollections$AbstractImmutableList"), (0, u "<init>"), (0, u "()V"), (0, .methodref 8 9), (0, .class_ 10), (0, .nameAndType 11 12), (0, u "java/util/Objects"), (0, u "requireNonNull"), (0, u "(Ljava/lang/Object;)Ljava/lang/Object;"), (0, .fieldref 14 15), (0, .class_ 16), (0, .nameAndType 17 18), (0, u "java/util/ImmutableCollections$List12"), (0, u "e0"), (0, u "Ljava/lang/Object;"), (0, .fieldref 20 21), (0, .class_ 22), (0, .nameAndType 23 18), (0, u "java/util/ImmutableCollections"), (0, u "EMPTY"), (0, .fieldref 14 25), (0, .nameAndType 26 18), (0, u "e1"), (43, .class_ 71), (0, u "java/io/Serializable"), (4, u "(Ljava/lang/Object;)V"), (8, u "(Ljava/lang/Object;Ljava/lang/Object;)V"), (2, u "isEmpty"), (0, u "()Z")] 35

def k16c0 : Code := { maxStack := 2, maxLocals := 2, code := jdk_44_method_1_code, exceptionTable := #[], attributes := #[] }
def k16m0 : Method := { name := "<init>", desc := "(Ljava/lang/Object;)V", sig := { parameters := [(.object "java/lang/Object")], returnType := none }, accessFlags := 0, code := some k16c0 }
def k16c1 : Code := { maxStack := 2, maxLocals := 3, code := jdk_44_method_2_code, exceptionTable := #[], attributes := #[] }
def k16m1 : Method := { name := "<init>", desc := "(Ljava/lang/Object;Ljava/lang/Object;)V", sig := { parameters := [(.object "java/lang/Object"), (.object "java/lang/Object")], returnType := none }, accessFlags := 0, code := some k16c1 }
def k16c2 : Code := { maxStack := 1, maxLocals := 1, code := jdk_44_method_4_code, exceptionTable := #[], attributes := #[] }
def k16m2 : Method := { name := "isEmpty", desc := "()Z", sig := { parameters := [], returnType := some .boolean }, accessFlags := 1, code := some k16c2 }
/-- java/util/ImmutableCollections$List12 -/
def k16 : Class := { plain "java/util/ImmutableCollections$List12" (some 15) with
  accessFlags := 48
  interfaces := #[11]
  cf := some (fileOf pool16 14 #[.nestHost 20] #[{ accessFlags := 0, nameIndex := 5, descriptorIndex := 76, attributes := #[] }, { accessFlags := 0, nameIndex := 5, descriptorIndex := 85, attributes := #[] }, { accessFlags := 1, nameIndex := 88, descriptorIndex := 89, attributes := #[] }] 48 2 #[70] #[{ accessFlags := 18, nameIndex := 17, descriptorIndex := 18, attributes := #[] }, { accessFlags := 18, nameIndex := 26, descriptorIndex := 18, attributes := #[] }])
  fields := #[{ name := "e0", type := (.object "java/lang/Object"), accessFlags := 18, slot := 0, constantValue := 0 }, { name := "e1", type := (.object "java/lang/Object"), accessFlags := 18, slot := 1, constantValue := 0 }]
  methods := #[k16m0, k16m1, k16m2]
  instanceTypes := #[(.object "java/lang/Object"), (.object "java/lang/Object")]
  staticTypes := #[]
  resolved := Array.replicate 125 none
  statics := none }

def pool17 : Array CpInfo := pool [(1, .methodref 2 3), (0, .class_ 4), (0, .nameAndType 5 6), (0, u "java/util/ImmutableCollections$AbstractImmutableList"), (0, u "<init>"), (0, u "()V"), (0, .fieldref 8 9), (0, .class_ 10), (0, .nameAndType 11 12), (0, u "java/util/ImmutableCollections$ListN"), (0, u "elements"), (0, u "[Ljava/lang/Object;"), (0, .fieldref 8 14), (0, .nameAndType 15 16), (0, u "allowNulls"), (0, u "Z"), (42, .class_ 60), (0, u "java/io/Serializable"), (4, u "([Ljava/lang/Object;Z)V"), (8, u "isEmpty"), (0, u "()Z"), (38, .class_ 115), (0, u "java/util/ImmutableCollections")] 3

def k17c0 : Code := { maxStack := 2, maxLocals := 3, code := jdk_45_method_1_code, exceptionTable := #[], attributes := #[] }
def k17m0 : Method := { name := "<init>", desc := "([Ljava/lang/Object;Z)V", sig := { parameters := [(.array (.object "java/lang/Object")), .boolean], returnType := none }, accessFlags := 2, code := some k17c0 }
def k17c1 : Code := { maxStack := 1, maxLocals := 1, code := jdk_45_method_2_code, exceptionTable := #[], attributes := #[] }
def k17m1 : Method := { name := "isEmpty", desc := "()Z", sig := { parameters := [], returnType := some .boolean }, accessFlags := 1, code := some k17c1 }
/-- java/util/ImmutableCollections$ListN -/
def k17 : Class := { plain "java/util/ImmutableCollections$ListN" (some 15) with
  accessFlags := 48
  interfaces := #[11]
  cf := some (fileOf pool17 8 #[.nestHost 114] #[{ accessFlags := 2, nameIndex := 5, descriptorIndex := 65, attributes := #[] }, { accessFlags := 1, nameIndex := 74, descriptorIndex := 75, attributes := #[] }] 48 2 #[59] #[{ accessFlags := 18, nameIndex := 11, descriptorIndex := 12, attributes := #[] }, { accessFlags := 18, nameIndex := 15, descriptorIndex := 16, attributes := #[] }])
  fields := #[{ name := "elements", type := (.array (.object "java/lang/Object")), accessFlags := 18, slot := 0, constantValue := 0 }, { name := "allowNulls", type := .boolean, accessFlags := 18, slot := 1, constantValue := 0 }]
  methods := #[k17m0, k17m1]
  instanceTypes := #[(.array (.object "java/lang/Object")), .boolean]
  staticTypes := #[]
  resolved := Array.replicate 119 none
  statics := none }

def pool18 : Array CpInfo := pool [(1, .methodref 2 3), (0, .class_ 4), (0, .nameAndType 5 6), (0, u "java/lang/Object"), (0, u "<init>"), (0, u "()V"), (0, .class_ 8), (0, u "java/lang/Record")] 13

def k18c0 : Code := { maxStack := 1, maxLocals := 1, code := jdk_30_method_1_code, exceptionTable := #[], attributes := #[] }
def k18m0 : Method := { name := "<init>", desc := "()V", sig := { parameters := [], returnType := none }, accessFlags := 4, code := some k18c0 }
/-- java/lang/Record -/
def k18 : Class := { plain "java/lang/Record" (some 0) with
  accessFlags := 1057
  interfaces := #[]
  cf := some (fileOf pool18 7 #[] #[{ accessFlags := 4, nameIndex := 5, descriptorIndex := 6, attributes := #[] }] 1057 2 #[] #[])
  fields := #[]
  methods := #[k18m0]
  instanceTypes := #[]
  staticTypes := #[]
  resolved := Array.replicate 22 none
  statics := none }

def pool19 : Array CpInfo := pool [(1, .methodref 2 3), (0, .class_ 4), (0, .nameAndType 5 6), (0, u "java/lang/Record"), (0, u "<init>"), (0, u "()V"), (0, .fieldref 8 9), (0, .class_ 10), (0, .nameAndType 11 12), (0, u "com/example/pipewright/pipewright/core/Call$Redirection"), (0, u "direction"), (0, u "Lcom/example/pipewright/pipewright/core/Call$Direction;"), (0, .fieldref 8 14), (0, .nameAndType 15 16), (0, u "file"), (0, u "Lcom/example/pipewright/pipewright/core/Word;"), (12, u "(Lcom/example/pipewright/pipewright/core/Call$Direction;Lcom/example/pipewright/pipewright/core/Word;)V"), (11, .class_ 42), (0, u "com/example/pipewright/pipewright/core/Call")] 23

def k19c0 : Code := { maxStack := 2, maxLocals := 3, code := prog_45_method_1_code, exceptionTable := #[], attributes := #[] }
def k19m0 : Method := { name := "<init>", desc := "(Lcom/example/pipewright/pipewright/core/Call$Direction;Lcom/example/pipewright/pipewright/core/Word;)V", sig := { parameters := [(.object "com/example/pipewright/pipewright/core/Call$Direction"), (.object "com/example/pipewright/pipewright/core/Word")], returnType := none }, accessFlags := 1, code := some k19c0 }
/-- com/example/pipewright/pipewright/core/Call$Redirection -/
def k19 : Class := { plain "com/example/pipewright/pipewright/core/Call$Redirection" (some 18) with
  accessFlags := 49
  interfaces := #[]
  cf := some (fileOf pool19 8 #[.nestHost 41] #[{ accessFlags := 1, nameIndex := 5, descriptorIndex := 29, attributes := #[] }] 49 2 #[] #[{ accessFlags := 18, nameIndex := 11, descriptorIndex := 12, attributes := #[] }, { accessFlags := 18, nameIndex := 15, descriptorIndex := 16, attributes := #[] }])
  fields := #[{ name := "direction", type := (.object "com/example/pipewright/pipewright/core/Call$Direction"), accessFlags := 18, slot := 0, constantValue := 0 }, { name := "file", type := (.object "com/example/pipewright/pipewright/core/Word"), accessFlags := 18, slot := 1, constantValue := 0 }]
  methods := #[k19m0]
  instanceTypes := #[(.object "com/example/pipewright/pipewright/core/Call$Direction"), (.object "com/example/pipewright/pipewright/core/Word")]
  staticTypes := #[]
  resolved := Array.replicate 66 none
  statics := none }

def pool20 : Array CpInfo := pool [(1, .class_ 2), (0, u "java/lang/Math"), (1, .class_ 6), (1, u "java/lang/Object"), (0, u "<init>"), (0, u "()V"), (89, .class_ 100), (1, u "java/lang/Math$RandomNumberGeneratorHolder"), (71, u "negativeZeroFloatBits"), (0, u "J"), (2, u "negativeZeroDoubleBits"), (21, u "max"), (2, u "min"), (43, u "$assertionsDisabled"), (0, u "Z"), (88, u "(II)I"), (2, u "twoToTheDoubleScaleDown"), (0, u "D"), (4, u "twoToTheDoubleScaleUp"), (9, u "E"), (3, u "PI"), (2, u "TAU"), (2, u "DEGREES_TO_RADIANS"), (0, u "RADIANS_TO_DEGREES")] 94

def k20m0 : Method := { name := "<init>", desc := "()V", sig := { parameters := [], returnType := none }, accessFlags := 2, code := none }
def k20c1 : Code := { maxStack := 2, maxLocals := 2, code := jdk_29_method_65_code, exceptionTable := #[], attributes := #[] }
def k20m1 : Method := { name := "max", desc := "(II)I", sig := { parameters := [.int, .int], returnType := some .int }, accessFlags := 9, code := some k20c1 }
def k20c2 : Code := { maxStack := 2, maxLocals := 2, code := jdk_29_method_69_code, exceptionTable := #[], attributes := #[] }
def k20m2 : Method := { name := "min", desc := "(II)I", sig := { parameters := [.int, .int], returnType := some .int }, accessFlags := 9, code := some k20c2 }
/-- java/lang/Math -/
def k20 : Class := { plain "java/lang/Math" (some 0) with
  accessFlags := 49
  interfaces := #[]
  cf := some (fileOf pool20 1 #[.nestMembers #[98]] #[{ accessFlags := 2, nameIndex := 7, descriptorIndex := 8, attributes := #[] }, { accessFlags := 9, nameIndex := 198, descriptorIndex := 335, attributes := #[] }, { accessFlags := 9, nameIndex := 201, descriptorIndex := 335, attributes := #[] }] 49 4 #[] #[{ accessFlags := 25, nameIndex := 354, descriptorIndex := 339, attributes := #[] }, { accessFlags := 25, nameIndex := 358, descriptorIndex := 339, attributes := #[] }, { accessFlags := 25, nameIndex := 361, descriptorIndex := 339, attributes := #[] }, { accessFlags := 26, nameIndex := 364, descriptorIndex := 339, attributes := #[] }, { accessFlags := 26, nameIndex := 365, descriptorIndex := 339, attributes := #[] }, { accessFlags := 26, nameIndex := 172, descriptorIndex := 173, attributes := #[] }, { accessFlags := 26, nameIndex := 176, descriptorIndex := 173, attributes := #[] }, { accessFlags := 8, nameIndex := 344, descriptorIndex := 339, attributes := #[] }, { accessFlags := 8, nameIndex := 338, descriptorIndex := 339, attributes := #[] }, { accessFlags := 4120, nameIndex := 245, descriptorIndex := 246, attributes := #[] }])
  fields := #[{ name := "E", type := .double, accessFlags := 25, slot := 0, constantValue := 0 }, { name := "PI", type := .double, accessFlags := 25, slot := 1, constantValue := 0 }, { name := "TAU", type := .double, accessFlags := 25, slot := 2, constantValue := 0 }, { name := "DEGREES_TO_RADIANS", type := .double, accessFlags := 26, slot := 3, constantValue := 0 }, { name := "RADIANS_TO_DEGREES", type := .double, accessFlags := 26, slot := 4, constantValue := 0 }, { name := "negativeZeroFloatBits", type := .long, accessFlags := 26, slot := 5, constantValue := 0 }, { name := "negativeZeroDoubleBits", type := .long, accessFlags := 26, slot := 6, constantValue := 0 }, { name := "twoToTheDoubleScaleUp", type := .double, accessFlags := 8, slot := 7, constantValue := 0 }, { name := "twoToTheDoubleScaleDown", type := .double, accessFlags := 8, slot := 8, constantValue := 0 }, { name := "$assertionsDisabled", type := .boolean, accessFlags := 4120, slot := 9, constantValue := 0 }]
  methods := #[k20m0, k20m1, k20m2]
  instanceTypes := #[]
  staticTypes := #[.double, .double, .double, .double, .double, .long, .long, .double, .double, .boolean]
  resolved := Array.replicate 460 none
  statics := none }

def pool21 : Array CpInfo := pool [(1, .methodref 2 3), (0, .class_ 4), (0, .nameAndType 5 6), (0, u "java/lang/Record"), (0, u "<init>"), (0, u "()V"), (0, .interfaceMethodref 8 9), (0, .class_ 10), (0, .nameAndType 11 12), (0, u "java/util/List"), (0, u "copyOf"), (0, u "(Ljava/util/Collection;)Ljava/util/List;"), (0, .fieldref 14 15), (0, .class_ 16), (0, .nameAndType 17 18), (0, u "com/example/pipewright/pipewright/core/Call"), (0, u "words"), (0, u "Ljava/util/List;"), (0, .fieldref 14 20), (0, .nameAndType 21 18), (0, u "redirections"), (0, .interfaceMethodref 8 23), (0, .nameAndType 24 25), (0, u "isEmpty"), (0, u "()Z"), (15, u "(Ljava/util/List;Ljava/util/List;)V"), (14, .class_ 57), (0, u "com/example/pipewright/pipewright/core/Call$Direction"), (0, .class_ 59), (0, u "com/example/pipewright/pipewright/core/Call$Redirection")] 21

def k21c0 : Code := { maxStack := 2, maxLocals := 3, code := prog_43_method_1_code, exceptionTable := #[], attributes := #[] }
def k21m0 : Method := { name := "<init>", desc := "(Ljava/util/List;Ljava/util/List;)V", sig := { parameters := [(.object "java/util/List"), (.object "java/util/List")], returnType := none }, accessFlags := 1, code := some k21c0 }
def k21c1 : Code := { maxStack := 1, maxLocals := 1, code := prog_43_method_2_code, exceptionTable := #[], attributes := #[] }
def k21m1 : Method := { name := "isEmpty", desc := "()Z", sig := { parameters := [], returnType := some .boolean }, accessFlags := 1, code := some k21c1 }
/-- com/example/pipewright/pipewright/core/Call -/
def k21 : Class := { plain "com/example/pipewright/pipewright/core/Call" (some 18) with
  accessFlags := 49
  interfaces := #[]
  cf := some (fileOf pool21 14 #[.nestMembers #[56, 58]] #[{ accessFlags := 1, nameIndex := 5, descriptorIndex := 41, attributes := #[] }, { accessFlags := 1, nameIndex := 24, descriptorIndex := 25, attributes := #[] }] 49 2 #[] #[{ accessFlags := 18, nameIndex := 17, descriptorIndex := 18, attributes := #[] }, { accessFlags := 18, nameIndex := 21, descriptorIndex := 18, attributes := #[] }])
  fields := #[{ name := "words", type := (.object "java/util/List"), accessFlags := 18, slot := 0, constantValue := 0 }, { name := "redirections", type := (.object "java/util/List"), accessFlags := 18, slot := 1, constantValue := 0 }]
  methods := #[k21m0, k21m1]
  instanceTypes := #[(.object "java/util/List"), (.object "java/util/List")]
  staticTypes := #[]
  resolved := Array.replicate 81 none
  statics := none }

def pool22 : Array CpInfo := pool [(2, .class_ 4), (1, u "java/lang/Object"), (0, u "<init>"), (0, u "()V"), (7, .class_ 16), (1, u "java/util/Arrays"), (57, .class_ 76), (1, u "java/util/Arrays$NaturalOrder"), (9, .methodref 2 87), (0, .nameAndType 88 89), (0, u "getClass"), (0, u "()Ljava/lang/Class;"), (20, .class_ 111), (0, u "[Ljava/lang/Object;"), (1, .class_ 115), (1, u "java/util/Arrays$LegacyMergeSort"), (1, u "Z"), (32, .methodref 151 152), (0, .class_ 153), (0, .nameAndType 154 155), (0, u "java/lang/System"), (0, u "arraycopy"), (0, u "(Ljava/lang/Object;ILjava/lang/Object;II)V"), (144, .methodref 14 301), (0, .nameAndType 302 303), (0, u "copyOf"), (0, u "([Ljava/lang/Object;ILjava/lang/Class;)[Ljava/lang/Object;"), (0, .methodref 305 306), (0, .class_ 307), (0, .nameAndType 308 309), (0, u "java/lang/Math"), (0, u "min"), (0, u "(II)I"), (65, .class_ 376), (0, u "java/util/Arrays$ArrayList"), (68, u "$assertionsDisabled"), (269, u "MIN_ARRAY_SORT_GRAN"), (0, u "I"), (2, u "INSERTIONSORT_THRESHOLD"), (140, u "([Ljava/lang/Object;I)[Ljava/lang/Object;"), (114, .class_ 976), (0, u "java/util/Arrays$ArrayItr")] 52

def k22m0 : Method := { name := "<init>", desc := "()V", sig := { parameters := [], returnType := none }, accessFlags := 2, code := none }
def k22c1 : Code := { maxStack := 3, maxLocals := 2, code := jdk_65_method_119_code, exceptionTable := #[], attributes := #[] }
def k22m1 : Method := { name := "copyOf", desc := "([Ljava/lang/Object;I)[Ljava/lang/Object;", sig := { parameters := [(.array (.object "java/lang/Object")), .int], returnType := some (.array (.object "java/lang/Object")) }, accessFlags := 9, code := some k22c1 }
def k22c2 : Code := { maxStack := 6, maxLocals := 4, code := jdk_65_method_120_code, exceptionTable := #[], attributes := #[] }
def k22m2 : Method := { name := "copyOf", desc := "([Ljava/lang/Object;ILjava/lang/Class;)[Ljava/lang/Object;", sig := { parameters := [(.array (.object "java/lang/Object")), .int, (.object "java/lang/Class")], returnType := some (.array (.object "java/lang/Object")) }, accessFlags := 9, code := some k22c2 }
/-- java/util/Arrays -/
def k22 : Class := { plain "java/util/Arrays" (some 0) with
  accessFlags := 49
  interfaces := #[]
  cf := some (fileOf pool22 14 #[.nestMembers #[975, 375, 113, 74]] #[{ accessFlags := 2, nameIndex := 5, descriptorIndex := 6, attributes := #[] }, { accessFlags := 9, nameIndex := 302, descriptorIndex := 860, attributes := #[] }, { accessFlags := 9, nameIndex := 302, descriptorIndex := 303, attributes := #[] }] 49 2 #[] #[{ accessFlags := 26, nameIndex := 715, descriptorIndex := 716, attributes := #[] }, { accessFlags := 26, nameIndex := 719, descriptorIndex := 716, attributes := #[] }, { accessFlags := 4120, nameIndex := 445, descriptorIndex := 117, attributes := #[] }])
  fields := #[{ name := "MIN_ARRAY_SORT_GRAN", type := .int, accessFlags := 26, slot := 0, constantValue := 0 }, { name := "INSERTIONSORT_THRESHOLD", type := .int, accessFlags := 26, slot := 1, constantValue := 0 }, { name := "$assertionsDisabled", type := .boolean, accessFlags := 4120, slot := 2, constantValue := 0 }]
  methods := #[k22m0, k22m1, k22m2]
  instanceTypes := #[]
  staticTypes := #[.int, .int, .boolean]
  resolved := Array.replicate 1029 none
  statics := none }

def pool23 : Array CpInfo := pool [(2, .class_ 4), (1, u "java/lang/Object"), (0, u "<init>"), (0, u "()V"), (1, .class_ 10), (1, u "java/lang/System"), (0, u "allowSecurityManager"), (0, u "I"), (16, u "cons"), (0, u "Ljava/io/Console;"), (77, .class_ 110), (1, u "java/lang/System$CallersHolder"), (43, u "initialErrStream"), (0, u "Ljava/io/PrintStream;"), (19, u "security"), (0, u "Ljava/lang/SecurityManager;"), (31, .class_ 209), (0, u "java/lang/System$1"), (7, u "props"), (0, u "Ljava/util/Properties;"), (2, u "lineSeparator"), (0, u "Ljava/lang/String;"), (96, .class_ 321), (1, u "java/lang/System$LoggerFinder"), (5, .class_ 328), (0, u "java/lang/System$Logger"), (67, u "err"), (2, u "out"), (91, u "notSupportedJnuEncoding"), (15, u "in"), (17, u "initialIn"), (0, u "Ljava/io/InputStream;"), (35, u "bootLayer"), (0, u "Ljava/lang/ModuleLayer;"), (99, .class_ 664), (0, u "java/lang/System$2"), (9, u "NEVER"), (2, u "MAYBE"), (49, u "arraycopy"), (0, u "(Ljava/lang/Object;ILjava/lang/Object;II)V"), (72, .class_ 802), (0, u "java/lang/System$Logger$Level")] 31

def k23m0 : Method := { name := "<init>", desc := "()V", sig := { parameters := [], returnType := none }, accessFlags := 2, code := none }
def k23m1 : Method := { name := "arraycopy", desc := "(Ljava/lang/Object;ILjava/lang/Object;II)V", sig := { parameters := [(.object "java/lang/Object"), .int, (.object "java/lang/Object"), .int, .int], returnType := none }, accessFlags := 265, code := none }
/-- java/lang/System -/
def k23 : Class := { plain "java/lang/System" (some 0) with
  accessFlags := 49
  interfaces := #[]
  cf := some (fileOf pool23 8 #[.nestMembers #[319, 327, 801, 108, 663, 208]] #[{ accessFlags := 2, nameIndex := 5, descriptorIndex := 6, attributes := #[] }, { accessFlags := 265, nameIndex := 727, descriptorIndex := 728, attributes := #[] }] 49 2 #[] #[{ accessFlags := 25, nameIndex := 507, descriptorIndex := 526, attributes := #[] }, { accessFlags := 25, nameIndex := 399, descriptorIndex := 155, attributes := #[] }, { accessFlags := 25, nameIndex := 396, descriptorIndex := 155, attributes := #[] }, { accessFlags := 10, nameIndex := 525, descriptorIndex := 526, attributes := #[] }, { accessFlags := 26, nameIndex := 674, descriptorIndex := 12, attributes := #[] }, { accessFlags := 26, nameIndex := 677, descriptorIndex := 12, attributes := #[] }, { accessFlags := 10, nameIndex := 11, descriptorIndex := 12, attributes := #[] }, { accessFlags := 74, nameIndex := 175, descriptorIndex := 176, attributes := #[] }, { accessFlags := 10, nameIndex := 491, descriptorIndex := 222, attributes := #[] }, { accessFlags := 74, nameIndex := 29, descriptorIndex := 30, attributes := #[] }, { accessFlags := 74, nameIndex := 154, descriptorIndex := 155, attributes := #[] }, { accessFlags := 10, nameIndex := 217, descriptorIndex := 218, attributes := #[] }, { accessFlags := 10, nameIndex := 221, descriptorIndex := 222, attributes := #[] }, { accessFlags := 8, nameIndex := 562, descriptorIndex := 563, attributes := #[] }])
  fields := #[{ name := "in", type := (.object "java/io/InputStream"), accessFlags := 25, slot := 0, constantValue := 0 }, { name := "out", type := (.object "java/io/PrintStream"), accessFlags := 25, slot := 1, constantValue := 0 }, { name := "err", type := (.object "java/io/PrintStream"), accessFlags := 25, slot := 2, constantValue := 0 }, { name := "initialIn", type := (.object "java/io/InputStream"), accessFlags := 10, slot := 3, constantValue := 0 }, { name := "NEVER", type := .int, accessFlags := 26, slot := 4, constantValue := 0 }, { name := "MAYBE", type := .int, accessFlags := 26, slot := 5, constantValue := 0 }, { name := "allowSecurityManager", type := .int, accessFlags := 10, slot := 6, constantValue := 0 }, { name := "security", type := (.object "java/lang/SecurityManager"), accessFlags := 74, slot := 7, constantValue := 0 }, { name := "notSupportedJnuEncoding", type := (.object "java/lang/String"), accessFlags := 10, slot := 8, constantValue := 0 }, { name := "cons", type := (.object "java/io/Console"), accessFlags := 74, slot := 9, constantValue := 0 }, { name := "initialErrStream", type := (.object "java/io/PrintStream"), accessFlags := 74, slot := 10, constantValue := 0 }, { name := "props", type := (.object "java/util/Properties"), accessFlags := 10, slot := 11, constantValue := 0 }, { name := "lineSeparator", type := (.object "java/lang/String"), accessFlags := 10, slot := 12, constantValue := 0 }, { name := "bootLayer", type := (.object "java/lang/ModuleLayer"), accessFlags := 8, slot := 13, constantValue := 0 }]
  methods := #[k23m0, k23m1]
  instanceTypes := #[]
  staticTypes := #[(.object "java/io/InputStream"), (.object "java/io/PrintStream"), (.object "java/io/PrintStream"), (.object "java/io/InputStream"), .int, .int, .int, (.object "java/lang/SecurityManager"), (.object "java/lang/String"), (.object "java/io/Console"), (.object "java/io/PrintStream"), (.object "java/util/Properties"), (.object "java/lang/String"), (.object "java/lang/ModuleLayer")]
  resolved := Array.replicate 834 none
  statics := none }

def pool24 : Array CpInfo := pool [(2, .class_ 4), (1, u "java/lang/Object"), (0, u "<init>"), (0, u "()V"), (35, .class_ 44), (1, u "java/util/Objects"), (0, u "requireNonNull"), (0, u "(Ljava/lang/Object;)Ljava/lang/Object;")] 137

def k24m0 : Method := { name := "<init>", desc := "()V", sig := { parameters := [], returnType := none }, accessFlags := 2, code := none }
def k24c1 : Code := { maxStack := 2, maxLocals := 1, code := jdk_31_method_10_code, exceptionTable := #[], attributes := #[] }
def k24m1 : Method := { name := "requireNonNull", desc := "(Ljava/lang/Object;)Ljava/lang/Object;", sig := { parameters := [(.object "java/lang/Object")], returnType := some (.object "java/lang/Object") }, accessFlags := 9, code := some k24c1 }
/-- java/util/Objects -/
def k24 : Class := { plain "java/util/Objects" (some 0) with
  accessFlags := 49
  interfaces := #[]
  cf := some (fileOf pool24 42 #[] #[{ accessFlags := 2, nameIndex := 5, descriptorIndex := 6, attributes := #[] }, { accessFlags := 9, nameIndex := 45, descriptorIndex := 46, attributes := #[] }] 49 2 #[] #[])
  fields := #[]
  methods := #[k24m0, k24m1]
  instanceTypes := #[]
  staticTypes := #[]
  resolved := Array.replicate 184 none
  statics := none }

def pool25 : Array CpInfo := pool [(1, u "java/lang/Class"), (0, .class_ 1), (0, u "java/lang/Object"), (0, .class_ 3)] 3

/-- java/lang/Class -/
def k25 : Class := { plain "java/lang/Class" (some 0) with
  accessFlags := 49
  interfaces := #[]
  cf := some (fileOf pool25 2 #[] #[] 49 4 #[] #[])
  fields := #[]
  methods := #[]
  instanceTypes := #[]
  staticTypes := #[]
  resolved := Array.replicate 8 none
  statics := none }

/-- the primitive byte -/
def k26 : Class := { plain "byte" none with kind := .primitive 'B', accessFlags := 0x411 }
/-- [B -/
def k27 : Class := { plain "[B" (some 0) with kind := .array 26 .byte, interfaces := #[10, 11], accessFlags := 1041 }

/-- the primitive int -/
def k28 : Class := { plain "int" none with kind := .primitive 'I', accessFlags := 0x411 }
/-- [I -/
def k29 : Class := { plain "[I" (some 0) with kind := .array 28 .int, interfaces := #[10, 11], accessFlags := 1041 }

/-- [Ljava/lang/Object; -/
def k30 : Class := { plain "[Ljava/lang/Object;" (some 0) with kind := .array 0 (.object "java/lang/Object"), interfaces := #[10, 11], accessFlags := 1041, mirror := some 2 }

def heap : Heap := #[{ cls := 12, slots := #[.long 0, .int 0, .ref 3, .ref 4], vm := .statics 12 },
  { cls := 13, slots := #[.long 0, .int 0, .null, .ref 6, .ref 5, .null, .null, .null, .int 0, .int 1], vm := .statics 13 },
  { cls := 25, slots := #[], vm := .mirror 30 },
  { cls := 30, slots := #[], vm := .none },
  { cls := 30, slots := #[], vm := .none },
  { cls := 17, slots := #[.ref 3, .int 0], vm := .none },
  { cls := 0, slots := #[], vm := .none }]
def classes : Array Class := #[k0, k1, k2, k3, k4, k5, k6, k7, k8, k9, k10, k11, k12, k13, k14, k15, k16, k17, k18, k19, k20, k21, k22, k23, k24, k25, k26, k27, k28, k29, k30]
def interned : List (Array UInt16 × Addr) := []
def slotsUsed : Nat := 16
def theMethod : MethodId := ⟨1, 1⟩
def args0 : Array Value := #[.int 1, .int 2]
def aboutOver (below : List Frame) : State where
  vm := { classes := classes, interned := interned.toArray }
  heap := heap
  slotsUsed := slotsUsed
  threads := #[{ frames := .invoking theMethod args0 :: below }]
def below0 : List Frame := [.native { method := ⟨0, 0⟩, args := #[] }]
def about1 : State := aboutOver below0
def p0 : Program := .bare "" "" ""
def e0 : Env := launch0.env 0 0 0
theorem w_frames : about1.frames = Frame.invoking theMethod args0 :: below0 := rfl
set_option maxRecDepth 65536 in
theorem w_args : argsFit about1.vm theMethod args0 = true := by decide +kernel
set_option maxRecDepth 65536 in
theorem w_heap : heapFits about1 = true := by decide +kernel
set_option maxRecDepth 65536 in
theorem w_runnable : about1.curStatus? = some .runnable := by decide +kernel
set_option maxRecDepth 65536 in
theorem w_alone : about1.alone = true := by decide +kernel
set_option maxRecDepth 65536 in
theorem w_named : about1.methodNamed? x = some theMethod := by decide +kernel
set_option maxRecDepth 65536 in
theorem w_hears : about1.hears theMethod below0 = true := by decide +kernel
set_option maxRecDepth 65536 in
theorem w_ripe : about1.ripe theMethod args0 below0 = true := by decide +kernel
theorem w_running : about1.status = .running := rfl
set_option maxRecDepth 65536 in
theorem w_room : about1.hasRoom e0.platform room_1 = true :=
  launch0.hasRoom_least _ room_1 (by decide +kernel) (by decide +kernel) (by decide +kernel) (by decide +kernel) (by decide +kernel) (by decide +kernel)
theorem allAtoms_all (ts : List Jvm.Cond) (a : Array Jvm.Value) (st : Jvm.State) : (allAtoms ts).before a st = ts.all (fun c => c.before a st) := by
  induction ts with
  | nil => rfl
  | cons c t ih =>
    show (Jvm.Cond.and c (allAtoms t)).before a st = _
    rw [Jvm.Cond.before_and, ih, List.all_cons]
def words1 : List Jvm.Cond := Jvm.Cond.code x code maxLocals ret :: tables_1
/-- a 'code' word, met by the world's own term for the bytes: nothing is compared byte by byte -/
theorem code_word {y : MethodName} {bytes : ByteArray} {mx : Nat} {rt : Option FieldType} {a : Array Value} {s : State} {m : MethodId} {meth : Method} {c : Code} (h1 : s.methodNamed? y = some m) (h2 : s.vm.method? m = some meth) (h3 : meth.code = some c) (h4 : c.code = bytes)
    (h5 : (c.maxLocals == mx && c.exceptionTable.isEmpty && decide (c.maxStack ≤ mostOperands) && decide (meth.sig.returnType = rt) && !meth.locks && decide (parseMethodDescriptor y.desc = some meth.sig)) = true) : (Jvm.Cond.code y bytes mx rt).before a s = true := by
  simp only [Bool.and_eq_true, beq_iff_eq, Bool.not_eq_true', decide_eq_true_eq] at h5
  obtain ⟨⟨⟨⟨⟨g1, g2⟩, g3⟩, g4⟩, g5⟩, g6⟩ := h5
  simp [Cond.before, Cond.holds, Cond.value, h1, h2, h3, h4, g1, g2, g3, g4, g5, g6]
def isCode : Jvm.Cond → Bool
  | .code _ _ _ _ => true
  | _ => false
theorem all_split {L : List Jvm.Cond} {P : Jvm.Cond → Bool} (h1 : L.all (fun c => isCode c || P c) = true) (h2 : ∀ c ∈ L.filter isCode, P c = true) : L.all P = true := by
  refine List.all_eq_true.mpr fun c hc => ?_
  have h := List.all_eq_true.mp h1 c hc
  rcases Bool.eq_false_or_eq_true (isCode c) with hi | hi
  · exact h2 c (List.mem_filter.mpr ⟨hc, hi⟩)
  · simpa [hi] using h
set_option maxRecDepth 65536 in
theorem w_c0 : (Jvm.Cond.code x code maxLocals ret).before args0 about1 = true := code_word (m := ⟨1, 1⟩) (meth := k1m1) (c := k1c1) (by decide +kernel) rfl rfl rfl (by decide +kernel)
set_option maxRecDepth 65536 in
theorem w_c1 : (Jvm.Cond.code ({ cls := "java/util/ArrayList", name := "<init>", desc := "()V" } : Jvm.MethodName) jdk_38_method_2_code (1 : Nat) (Option.none : Option Jvm.ClassFile.FieldType)).before args0 about1 = true := code_word (m := ⟨12, 0⟩) (meth := k12m0) (c := k12c0) (by decide +kernel) rfl rfl rfl (by decide +kernel)
set_option maxRecDepth 65536 in
theorem w_c2 : (Jvm.Cond.code ({ cls := "java/util/AbstractList", name := "<init>", desc := "()V" } : Jvm.MethodName) jdk_39_method_1_code (1 : Nat) (Option.none : Option Jvm.ClassFile.FieldType)).before args0 about1 = true := code_word (m := ⟨8, 0⟩) (meth := k8m0) (c := k8c0) (by decide +kernel) rfl rfl rfl (by decide +kernel)
set_option maxRecDepth 65536 in
theorem w_c3 : (Jvm.Cond.code ({ cls := "java/util/AbstractCollection", name := "<init>", desc := "()V" } : Jvm.MethodName) jdk_22_method_1_code (1 : Nat) (Option.none : Option Jvm.ClassFile.FieldType)).before args0 about1 = true := code_word (m := ⟨5, 0⟩) (meth := k5m0) (c := k5c0) (by decide +kernel) rfl rfl rfl (by decide +kernel)
set_option maxRecDepth 65536 in
theorem w_c4 : (Jvm.Cond.code ({ cls := "java/lang/Object", name := "<init>", desc := "()V" } : Jvm.MethodName) object_method_1_code (1 : Nat) (Option.none : Option Jvm.ClassFile.FieldType)).before args0 about1 = true := code_word (m := ⟨0, 0⟩) (meth := k0m0) (c := k0c0) (by decide +kernel) rfl rfl rfl (by decide +kernel)
set_option maxRecDepth 65536 in
theorem w_c5 : (Jvm.Cond.code ({ cls := "com/example/pipewright/pipewright/core/Word", name := "<init>", desc := "(Ljava/util/List;)V" } : Jvm.MethodName) prog_78_method_1_code (2 : Nat) (Option.none : Option Jvm.ClassFile.FieldType)).before args0 about1 = true := code_word (m := ⟨2, 0⟩) (meth := k2m0) (c := k2c0) (by decide +kernel) rfl rfl rfl (by decide +kernel)
set_option maxRecDepth 65536 in
theorem w_c6 : (Jvm.Cond.code ({ cls := "java/util/List", name := "copyOf", desc := "(Ljava/util/Collection;)Ljava/util/List;" } : Jvm.MethodName) jdk_40_method_48_code (1 : Nat) (Option.some (Jvm.ClassFile.FieldType.object "java/util/List"))).before args0 about1 = true := code_word (m := ⟨7, 4⟩) (meth := k7m4) (c := k7c4) (by decide +kernel) rfl rfl rfl (by decide +kernel)
set_option maxRecDepth 65536 in
theorem w_c7 : (Jvm.Cond.code ({ cls := "java/util/ImmutableCollections", name := "listCopy", desc := "(Ljava/util/Collection;)Ljava/util/List;" } : Jvm.MethodName) jdk_56_method_3_code (2 : Nat) (Option.some (Jvm.ClassFile.FieldType.object "java/util/List"))).before args0 about1 = true := code_word (m := ⟨13, 1⟩) (meth := k13m1) (c := k13c1) (by decide +kernel) rfl rfl rfl (by decide +kernel)
set_option maxRecDepth 65536 in
theorem w_c8 : (Jvm.Cond.code ({ cls := "java/util/ArrayList", name := "isEmpty", desc := "()Z" } : Jvm.MethodName) jdk_38_method_9_code (1 : Nat) (Option.some Jvm.ClassFile.FieldType.boolean)).before args0 about1 = true := code_word (m := ⟨12, 3⟩) (meth := k12m3) (c := k12c3) (by decide +kernel) rfl rfl rfl (by decide +kernel)
set_option maxRecDepth 65536 in
theorem w_c9 : (Jvm.Cond.code ({ cls := "java/util/List", name := "of", desc := "()Ljava/util/List;" } : Jvm.MethodName) jdk_40_method_36_code (0 : Nat) (Option.some (Jvm.ClassFile.FieldType.object "java/util/List"))).before args0 about1 = true := code_word (m := ⟨7, 2⟩) (meth := k7m2) (c := k7c2) (by decide +kernel) rfl rfl rfl (by decide +kernel)
set_option maxRecDepth 65536 in
theorem w_c10 : (Jvm.Cond.code ({ cls := "com/example/pipewright/pipewright/core/Call$Redirection", name := "<init>", desc := "(Lcom/example/pipewright/pipewright/core/Call$Direction;Lcom/example/pipewright/pipewright/core/Word;)V" } : Jvm.MethodName) prog_45_method_1_code (3 : Nat) (Option.none : Option Jvm.ClassFile.FieldType)).before args0 about1 = true := code_word (m := ⟨19, 0⟩) (meth := k19m0) (c := k19c0) (by decide +kernel) rfl rfl rfl (by decide +kernel)
set_option maxRecDepth 65536 in
theorem w_c11 : (Jvm.Cond.code ({ cls := "java/lang/Record", name := "<init>", desc := "()V" } : Jvm.MethodName) jdk_30_method_1_code (1 : Nat) (Option.none : Option Jvm.ClassFile.FieldType)).before args0 about1 = true := code_word (m := ⟨18, 0⟩) (meth := k18m0) (c := k18c0) (by decide +kernel) rfl rfl rfl (by decide +kernel)
set_option maxRecDepth 65536 in
theorem w_c12 : (Jvm.Cond.code ({ cls := "java/util/ArrayList", name := "add", desc := "(Ljava/lang/Object;)Z" } : Jvm.MethodName) jdk_38_method_25_code (2 : Nat) (Option.some Jvm.ClassFile.FieldType.boolean)).before args0 about1 = true := code_word (m := ⟨12, 6⟩) (meth := k12m6) (c := k12c6) (by decide +kernel) rfl rfl rfl (by decide +kernel)
set_option maxRecDepth 65536 in
theorem w_c13 : (Jvm.Cond.code ({ cls := "java/util/ArrayList", name := "add", desc := "(Ljava/lang/Object;[Ljava/lang/Object;I)V" } : Jvm.MethodName) jdk_38_method_24_code (4 : Nat) (Option.none : Option Jvm.ClassFile.FieldType)).before args0 about1 = true := code_word (m := ⟨12, 5⟩) (meth := k12m5) (c := k12c5) (by decide +kernel) rfl rfl rfl (by decide +kernel)
set_option maxRecDepth 65536 in
theorem w_c14 : (Jvm.Cond.code ({ cls := "java/util/ArrayList", name := "grow", desc := "()[Ljava/lang/Object;" } : Jvm.MethodName) jdk_38_method_7_code (1 : Nat) (Option.some (Jvm.ClassFile.FieldType.array (Jvm.ClassFile.FieldType.object "java/lang/Object")))).before args0 about1 = true := code_word (m := ⟨12, 2⟩) (meth := k12m2) (c := k12c2) (by decide +kernel) rfl rfl rfl (by decide +kernel)
set_option maxRecDepth 65536 in
theorem w_c15 : (Jvm.Cond.code ({ cls := "java/util/ArrayList", name := "grow", desc := "(I)[Ljava/lang/Object;" } : Jvm.MethodName) jdk_38_method_6_code (4 : Nat) (Option.some (Jvm.ClassFile.FieldType.array (Jvm.ClassFile.FieldType.object "java/lang/Object")))).before args0 about1 = true := code_word (m := ⟨12, 1⟩) (meth := k12m1) (c := k12c1) (by decide +kernel) rfl rfl rfl (by decide +kernel)
set_option maxRecDepth 65536 in
theorem w_c16 : (Jvm.Cond.code ({ cls := "java/lang/Math", name := "max", desc := "(II)I" } : Jvm.MethodName) jdk_29_method_65_code (2 : Nat) (Option.some Jvm.ClassFile.FieldType.int)).before args0 about1 = true := code_word (m := ⟨20, 1⟩) (meth := k20m1) (c := k20c1) (by decide +kernel) rfl rfl rfl (by decide +kernel)
set_option maxRecDepth 65536 in
theorem w_c17 : (Jvm.Cond.code ({ cls := "com/example/pipewright/pipewright/core/Call", name := "<init>", desc := "(Ljava/util/List;Ljava/util/List;)V" } : Jvm.MethodName) prog_43_method_1_code (3 : Nat) (Option.none : Option Jvm.ClassFile.FieldType)).before args0 about1 = true := code_word (m := ⟨21, 0⟩) (meth := k21m0) (c := k21c0) (by decide +kernel) rfl rfl rfl (by decide +kernel)
set_option maxRecDepth 65536 in
theorem w_c18 : (Jvm.Cond.code ({ cls := "java/util/ArrayList", name := "toArray", desc := "()[Ljava/lang/Object;" } : Jvm.MethodName) jdk_38_method_16_code (1 : Nat) (Option.some (Jvm.ClassFile.FieldType.array (Jvm.ClassFile.FieldType.object "java/lang/Object")))).before args0 about1 = true := code_word (m := ⟨12, 4⟩) (meth := k12m4) (c := k12c4) (by decide +kernel) rfl rfl rfl (by decide +kernel)
set_option maxRecDepth 65536 in
theorem w_c19 : (Jvm.Cond.code ({ cls := "java/util/Arrays", name := "copyOf", desc := "([Ljava/lang/Object;I)[Ljava/lang/Object;" } : Jvm.MethodName) jdk_65_method_119_code (2 : Nat) (Option.some (Jvm.ClassFile.FieldType.array (Jvm.ClassFile.FieldType.object "java/lang/Object")))).before args0 about1 = true := code_word (m := ⟨22, 1⟩) (meth := k22m1) (c := k22c1) (by decide +kernel) rfl rfl rfl (by decide +kernel)
set_option maxRecDepth 65536 in
theorem w_c20 : (Jvm.Cond.code ({ cls := "java/util/Arrays", name := "copyOf", desc := "([Ljava/lang/Object;ILjava/lang/Class;)[Ljava/lang/Object;" } : Jvm.MethodName) jdk_65_method_120_code (4 : Nat) (Option.some (Jvm.ClassFile.FieldType.array (Jvm.ClassFile.FieldType.object "java/lang/Object")))).before args0 about1 = true := code_word (m := ⟨22, 2⟩) (meth := k22m2) (c := k22c2) (by decide +kernel) rfl rfl rfl (by decide +kernel)
set_option maxRecDepth 65536 in
theorem w_c21 : (Jvm.Cond.code ({ cls := "java/lang/Math", name := "min", desc := "(II)I" } : Jvm.MethodName) jdk_29_method_69_code (2 : Nat) (Option.some Jvm.ClassFile.FieldType.int)).before args0 about1 = true := code_word (m := ⟨20, 2⟩) (meth := k20m2) (c := k20c2) (by decide +kernel) rfl rfl rfl (by decide +kernel)
set_option maxRecDepth 65536 in
theorem w_c22 : (Jvm.Cond.code ({ cls := "java/util/List", name := "of", desc := "([Ljava/lang/Object;)Ljava/util/List;" } : Jvm.MethodName) jdk_40_method_47_code (2 : Nat) (Option.some (Jvm.ClassFile.FieldType.object "java/util/List"))).before args0 about1 = true := code_word (m := ⟨7, 3⟩) (meth := k7m3) (c := k7c3) (by decide +kernel) rfl rfl rfl (by decide +kernel)
set_option maxRecDepth 65536 in
theorem w_c23 : (Jvm.Cond.code ({ cls := "java/util/ImmutableCollections", name := "listFromArray", desc := "([Ljava/lang/Object;)Ljava/util/List;" } : Jvm.MethodName) jdk_56_method_4_code (3 : Nat) (Option.some (Jvm.ClassFile.FieldType.object "java/util/List"))).before args0 about1 = true := code_word (m := ⟨13, 2⟩) (meth := k13m2) (c := k13c2) (by decide +kernel) rfl rfl rfl (by decide +kernel)
set_option maxRecDepth 65536 in
theorem w_c24 : (Jvm.Cond.code ({ cls := "java/util/Objects", name := "requireNonNull", desc := "(Ljava/lang/Object;)Ljava/lang/Object;" } : Jvm.MethodName) jdk_31_method_10_code (1 : Nat) (Option.some (Jvm.ClassFile.FieldType.object "java/lang/Object"))).before args0 about1 = true := code_word (m := ⟨24, 1⟩) (meth := k24m1) (c := k24c1) (by decide +kernel) rfl rfl rfl (by decide +kernel)
set_option maxRecDepth 65536 in
theorem w_c25 : (Jvm.Cond.code ({ cls := "java/util/ImmutableCollections$ListN", name := "<init>", desc := "([Ljava/lang/Object;Z)V" } : Jvm.MethodName) jdk_45_method_1_code (3 : Nat) (Option.none : Option Jvm.ClassFile.FieldType)).before args0 about1 = true := code_word (m := ⟨17, 0⟩) (meth := k17m0) (c := k17c0) (by decide +kernel) rfl rfl rfl (by decide +kernel)
set_option maxRecDepth 65536 in
theorem w_c26 : (Jvm.Cond.code ({ cls := "java/util/ImmutableCollections$AbstractImmutableList", name := "<init>", desc := "()V" } : Jvm.MethodName) jdk_46_method_1_code (1 : Nat) (Option.none : Option Jvm.ClassFile.FieldType)).before args0 about1 = true := code_word (m := ⟨15, 0⟩) (meth := k15m0) (c := k15c0) (by decide +kernel) rfl rfl rfl (by decide +kernel)
set_option maxRecDepth 65536 in
theorem w_c27 : (Jvm.Cond.code ({ cls := "java/util/ImmutableCollections$AbstractImmutableCollection", name := "<init>", desc := "()V" } : Jvm.MethodName) jdk_47_method_1_code (1 : Nat) (Option.none : Option Jvm.ClassFile.FieldType)).before args0 about1 = true := code_word (m := ⟨14, 0⟩) (meth := k14m0) (c := k14c0) (by decide +kernel) rfl rfl rfl (by decide +kernel)
set_option maxRecDepth 65536 in
theorem w_c28 : (Jvm.Cond.code ({ cls := "com/example/pipewright/pipewright/core/Call", name := "isEmpty", desc := "()Z" } : Jvm.MethodName) prog_43_method_2_code (1 : Nat) (Option.some Jvm.ClassFile.FieldType.boolean)).before args0 about1 = true := code_word (m := ⟨21, 1⟩) (meth := k21m1) (c := k21c1) (by decide +kernel) rfl rfl rfl (by decide +kernel)
set_option maxRecDepth 65536 in
theorem w_c29 : (Jvm.Cond.code ({ cls := "java/util/ImmutableCollections$ListN", name := "isEmpty", desc := "()Z" } : Jvm.MethodName) jdk_45_method_2_code (1 : Nat) (Option.some Jvm.ClassFile.FieldType.boolean)).before args0 about1 = true := code_word (m := ⟨17, 1⟩) (meth := k17m1) (c := k17c1) (by decide +kernel) rfl rfl rfl (by decide +kernel)
set_option maxRecDepth 65536 in
theorem w_c30 : (Jvm.Cond.code ({ cls := "java/util/ImmutableCollections$List12", name := "<init>", desc := "(Ljava/lang/Object;Ljava/lang/Object;)V" } : Jvm.MethodName) jdk_44_method_2_code (3 : Nat) (Option.none : Option Jvm.ClassFile.FieldType)).before args0 about1 = true := code_word (m := ⟨16, 1⟩) (meth := k16m1) (c := k16c1) (by decide +kernel) rfl rfl rfl (by decide +kernel)
set_option maxRecDepth 65536 in
theorem w_c31 : (Jvm.Cond.code ({ cls := "java/util/ImmutableCollections$List12", name := "<init>", desc := "(Ljava/lang/Object;)V" } : Jvm.MethodName) jdk_44_method_1_code (2 : Nat) (Option.none : Option Jvm.ClassFile.FieldType)).before args0 about1 = true := code_word (m := ⟨16, 0⟩) (meth := k16m0) (c := k16c0) (by decide +kernel) rfl rfl rfl (by decide +kernel)
set_option maxRecDepth 65536 in
theorem w_c32 : (Jvm.Cond.code ({ cls := "java/util/ImmutableCollections$List12", name := "isEmpty", desc := "()Z" } : Jvm.MethodName) jdk_44_method_4_code (1 : Nat) (Option.some Jvm.ClassFile.FieldType.boolean)).before args0 about1 = true := code_word (m := ⟨16, 2⟩) (meth := k16m2) (c := k16c2) (by decide +kernel) rfl rfl rfl (by decide +kernel)
def codes1 : List Jvm.Cond := [Jvm.Cond.code x code maxLocals ret, Jvm.Cond.code ({ cls := "java/util/ArrayList", name := "<init>", desc := "()V" } : Jvm.MethodName) jdk_38_method_2_code (1 : Nat) (Option.none : Option Jvm.ClassFile.FieldType), Jvm.Cond.code ({ cls := "java/util/AbstractList", name := "<init>", desc := "()V" } : Jvm.MethodName) jdk_39_method_1_code (1 : Nat) (Option.none : Option Jvm.ClassFile.FieldType), Jvm.Cond.code ({ cls := "java/util/AbstractCollection", name := "<init>", desc := "()V" } : Jvm.MethodName) jdk_22_method_1_code (1 : Nat) (Option.none : Option Jvm.ClassFile.FieldType), Jvm.Cond.code ({ cls := "java/lang/Object", name := "<init>", desc := "()V" } : Jvm.MethodName) object_method_1_code (1 : Nat) (Option.none : Option Jvm.ClassFile.FieldType), Jvm.Cond.code ({ cls := "com/example/pipewright/pipewright/core/Word", name := "<init>", desc := "(Ljava/util/List;)V" } : Jvm.MethodName) prog_78_method_1_code (2 : Nat) (Option.none : Option Jvm.ClassFile.FieldType), Jvm.Cond.code ({ cls := "java/util/List", name := "copyOf", desc := "(Ljava/util/Collection;)Ljava/util/List;" } : Jvm.MethodName) jdk_40_method_48_code (1 : Nat) (Option.some (Jvm.ClassFile.FieldType.object "java/util/List")), Jvm.Cond.code ({ cls := "java/util/ImmutableCollections", name := "listCopy", desc := "(Ljava/util/Collection;)Ljava/util/List;" } : Jvm.MethodName) jdk_56_method_3_code (2 : Nat) (Option.some (Jvm.ClassFile.FieldType.object "java/util/List")), Jvm.Cond.code ({ cls := "java/util/ArrayList", name := "isEmpty", desc := "()Z" } : Jvm.MethodName) jdk_38_method_9_code (1 : Nat) (Option.some Jvm.ClassFile.FieldType.boolean), Jvm.Cond.code ({ cls := "java/util/List", name := "of", desc := "()Ljava/util/List;" } : Jvm.MethodName) jdk_40_method_36_code (0 : Nat) (Option.some (Jvm.ClassFile.FieldType.object "java/util/List")), Jvm.Cond.code ({ cls := "com/example/pipewright/pipewright/core/Call$Redirection", name := "<init>", desc := "(Lcom/example/pipewright/pipewright/core/Call$Direction;Lcom/example/pipewright/pipewright/core/Word;)V" } : Jvm.MethodName) prog_45_method_1_code (3 : Nat) (Option.none : Option Jvm.ClassFile.FieldType), Jvm.Cond.code ({ cls := "java/lang/Record", name := "<init>", desc := "()V" } : Jvm.MethodName) jdk_30_method_1_code (1 : Nat) (Option.none : Option Jvm.ClassFile.FieldType), Jvm.Cond.code ({ cls := "java/util/ArrayList", name := "add", desc := "(Ljava/lang/Object;)Z" } : Jvm.MethodName) jdk_38_method_25_code (2 : Nat) (Option.some Jvm.ClassFile.FieldType.boolean), Jvm.Cond.code ({ cls := "java/util/ArrayList", name := "add", desc := "(Ljava/lang/Object;[Ljava/lang/Object;I)V" } : Jvm.MethodName) jdk_38_method_24_code (4 : Nat) (Option.none : Option Jvm.ClassFile.FieldType), Jvm.Cond.code ({ cls := "java/util/ArrayList", name := "grow", desc := "()[Ljava/lang/Object;" } : Jvm.MethodName) jdk_38_method_7_code (1 : Nat) (Option.some (Jvm.ClassFile.FieldType.array (Jvm.ClassFile.FieldType.object "java/lang/Object"))), Jvm.Cond.code ({ cls := "java/util/ArrayList", name := "grow", desc := "(I)[Ljava/lang/Object;" } : Jvm.MethodName) jdk_38_method_6_code (4 : Nat) (Option.some (Jvm.ClassFile.FieldType.array (Jvm.ClassFile.FieldType.object "java/lang/Object"))), Jvm.Cond.code ({ cls := "java/lang/Math", name := "max", desc := "(II)I" } : Jvm.MethodName) jdk_29_method_65_code (2 : Nat) (Option.some Jvm.ClassFile.FieldType.int), Jvm.Cond.code ({ cls := "com/example/pipewright/pipewright/core/Call", name := "<init>", desc := "(Ljava/util/List;Ljava/util/List;)V" } : Jvm.MethodName) prog_43_method_1_code (3 : Nat) (Option.none : Option Jvm.ClassFile.FieldType), Jvm.Cond.code ({ cls := "java/util/ArrayList", name := "toArray", desc := "()[Ljava/lang/Object;" } : Jvm.MethodName) jdk_38_method_16_code (1 : Nat) (Option.some (Jvm.ClassFile.FieldType.array (Jvm.ClassFile.FieldType.object "java/lang/Object"))), Jvm.Cond.code ({ cls := "java/util/Arrays", name := "copyOf", desc := "([Ljava/lang/Object;I)[Ljava/lang/Object;" } : Jvm.MethodName) jdk_65_method_119_code (2 : Nat) (Option.some (Jvm.ClassFile.FieldType.array (Jvm.ClassFile.FieldType.object "java/lang/Object"))), Jvm.Cond.code ({ cls := "java/util/Arrays", name := "copyOf", desc := "([Ljava/lang/Object;ILjava/lang/Class;)[Ljava/lang/Object;" } : Jvm.MethodName) jdk_65_method_120_code (4 : Nat) (Option.some (Jvm.ClassFile.FieldType.array (Jvm.ClassFile.FieldType.object "java/lang/Object"))), Jvm.Cond.code ({ cls := "java/lang/Math", name := "min", desc := "(II)I" } : Jvm.MethodName) jdk_29_method_69_code (2 : Nat) (Option.some Jvm.ClassFile.FieldType.int), Jvm.Cond.code ({ cls := "java/util/List", name := "of", desc := "([Ljava/lang/Object;)Ljava/util/List;" } : Jvm.MethodName) jdk_40_method_47_code (2 : Nat) (Option.some (Jvm.ClassFile.FieldType.object "java/util/List")), Jvm.Cond.code ({ cls := "java/util/ImmutableCollections", name := "listFromArray", desc := "([Ljava/lang/Object;)Ljava/util/List;" } : Jvm.MethodName) jdk_56_method_4_code (3 : Nat) (Option.some (Jvm.ClassFile.FieldType.object "java/util/List")), Jvm.Cond.code ({ cls := "java/util/Objects", name := "requireNonNull", desc := "(Ljava/lang/Object;)Ljava/lang/Object;" } : Jvm.MethodName) jdk_31_method_10_code (1 : Nat) (Option.some (Jvm.ClassFile.FieldType.object "java/lang/Object")), Jvm.Cond.code ({ cls := "java/util/ImmutableCollections$ListN", name := "<init>", desc := "([Ljava/lang/Object;Z)V" } : Jvm.MethodName) jdk_45_method_1_code (3 : Nat) (Option.none : Option Jvm.ClassFile.FieldType), Jvm.Cond.code ({ cls := "java/util/ImmutableCollections$AbstractImmutableList", name := "<init>", desc := "()V" } : Jvm.MethodName) jdk_46_method_1_code (1 : Nat) (Option.none : Option Jvm.ClassFile.FieldType), Jvm.Cond.code ({ cls := "java/util/ImmutableCollections$AbstractImmutableCollection", name := "<init>", desc := "()V" } : Jvm.MethodName) jdk_47_method_1_code (1 : Nat) (Option.none : Option Jvm.ClassFile.FieldType), Jvm.Cond.code ({ cls := "com/example/pipewright/pipewright/core/Call", name := "isEmpty", desc := "()Z" } : Jvm.MethodName) prog_43_method_2_code (1 : Nat) (Option.some Jvm.ClassFile.FieldType.boolean), Jvm.Cond.code ({ cls := "java/util/ImmutableCollections$ListN", name := "isEmpty", desc := "()Z" } : Jvm.MethodName) jdk_45_method_2_code (1 : Nat) (Option.some Jvm.ClassFile.FieldType.boolean), Jvm.Cond.code ({ cls := "java/util/ImmutableCollections$List12", name := "<init>", desc := "(Ljava/lang/Object;Ljava/lang/Object;)V" } : Jvm.MethodName) jdk_44_method_2_code (3 : Nat) (Option.none : Option Jvm.ClassFile.FieldType), Jvm.Cond.code ({ cls := "java/util/ImmutableCollections$List12", name := "<init>", desc := "(Ljava/lang/Object;)V" } : Jvm.MethodName) jdk_44_method_1_code (2 : Nat) (Option.none : Option Jvm.ClassFile.FieldType), Jvm.Cond.code ({ cls := "java/util/ImmutableCollections$List12", name := "isEmpty", desc := "()Z" } : Jvm.MethodName) jdk_44_method_4_code (1 : Nat) (Option.some Jvm.ClassFile.FieldType.boolean)]
set_option maxRecDepth 65536 in
theorem codes_eq : words1.filter isCode = codes1 := rfl
theorem w_codes : ∀ c ∈ words1.filter isCode, c.before args0 about1 = true := by
  rw [codes_eq]
  intro c hc
  simp only [codes1, List.mem_cons, List.not_mem_nil, or_false] at hc
  rcases hc with rfl | rfl | rfl | rfl | rfl | rfl | rfl | rfl | rfl | rfl | rfl | rfl | rfl | rfl | rfl | rfl | rfl | rfl | rfl | rfl | rfl | rfl | rfl | rfl | rfl | rfl | rfl | rfl | rfl | rfl | rfl | rfl | rfl
  · exact w_c0
  · exact w_c1
  · exact w_c2
  · exact w_c3
  · exact w_c4
  · exact w_c5
  · exact w_c6
  · exact w_c7
  · exact w_c8
  · exact w_c9
  · exact w_c10
  · exact w_c11
  · exact w_c12
  · exact w_c13
  · exact w_c14
  · exact w_c15
  · exact w_c16
  · exact w_c17
  · exact w_c18
  · exact w_c19
  · exact w_c20
  · exact w_c21
  · exact w_c22
  · exact w_c23
  · exact w_c24
  · exact w_c25
  · exact w_c26
  · exact w_c27
  · exact w_c28
  · exact w_c29
  · exact w_c30
  · exact w_c31
  · exact w_c32
set_option maxRecDepth 65536 in
theorem w_t1 : (words1.take 24).all (fun c => isCode c || c.before args0 about1) = true := by decide +kernel
set_option maxRecDepth 65536 in
theorem w_t2 : ((words1.drop 24).take 24).all (fun c => isCode c || c.before args0 about1) = true := by decide +kernel
set_option maxRecDepth 65536 in
theorem w_t3 : (((words1.drop 24).drop 24).take 24).all (fun c => isCode c || c.before args0 about1) = true := by decide +kernel
set_option maxRecDepth 65536 in
theorem w_t4 : ((((words1.drop 24).drop 24).drop 24).take 24).all (fun c => isCode c || c.before args0 about1) = true := by decide +kernel
set_option maxRecDepth 65536 in
theorem w_t5 : (((((words1.drop 24).drop 24).drop 24).drop 24).take 24).all (fun c => isCode c || c.before args0 about1) = true := by decide +kernel
set_option maxRecDepth 65536 in
theorem w_t6 : ((((((words1.drop 24).drop 24).drop 24).drop 24).drop 24).take 24).all (fun c => isCode c || c.before args0 about1) = true := by decide +kernel
set_option maxRecDepth 65536 in
theorem w_t7 : (((((((words1.drop 24).drop 24).drop 24).drop 24).drop 24).drop 24).take 24).all (fun c => isCode c || c.before args0 about1) = true := by decide +kernel
set_option maxRecDepth 65536 in
theorem w_t8 : ((((((((words1.drop 24).drop 24).drop 24).drop 24).drop 24).drop 24).drop 24).take 24).all (fun c => isCode c || c.before args0 about1) = true := by decide +kernel
set_option maxRecDepth 65536 in
theorem w_t9 : (((((((((words1.drop 24).drop 24).drop 24).drop 24).drop 24).drop 24).drop 24).drop 24).take 24).all (fun c => isCode c || c.before args0 about1) = true := by decide +kernel
set_option maxRecDepth 65536 in
theorem w_t10 : (((((((((words1.drop 24).drop 24).drop 24).drop 24).drop 24).drop 24).drop 24).drop 24).drop 24).all (fun c => isCode c || c.before args0 about1) = true := by decide +kernel
theorem w_tables : (allAtoms (Jvm.Cond.code x code maxLocals ret :: tables_1)).before args0 about1 = true := by
  rw [allAtoms_all]
  show words1.all (fun c => c.before args0 about1) = true
  refine all_split ?_ w_codes
  rw [← List.take_append_drop 24 words1, List.all_append, w_t1, ← List.take_append_drop 24 (words1.drop 24), List.all_append, w_t2, ← List.take_append_drop 24 ((words1.drop 24).drop 24), List.all_append, w_t3, ← List.take_append_drop 24 (((words1.drop 24).drop 24).drop 24), List.all_append, w_t4, ← List.take_append_drop 24 ((((words1.drop 24).drop 24).drop 24).drop 24), List.all_append, w_t5, ← List.take_append_drop 24 (((((words1.drop 24).drop 24).drop 24).drop 24).drop 24), List.all_append, w_t6, ← List.take_append_drop 24 ((((((words1.drop 24).drop 24).drop 24).drop 24).drop 24).drop 24), List.all_append, w_t7, ← List.take_append_drop 24 (((((((words1.drop 24).drop 24).drop 24).drop 24).drop 24).drop 24).drop 24), List.all_append, w_t8, ← List.take_append_drop 24 ((((((((words1.drop 24).drop 24).drop 24).drop 24).drop 24).drop 24).drop 24).drop 24), List.all_append, w_t9, w_t10]
  rfl
set_option maxRecDepth 65536 in
theorem w_rest : rest_1_c.before args0 about1 = true := by decide +kernel
set_option maxRecDepth 65536 in
theorem w_case : (Jvm.Cond.and given_1 narrow_1).before args0 about1 = true := by decide +kernel
theorem w_applies : (headSpec (Jvm.Cond.code x code maxLocals ret :: tables_1) room_1).applies x e0.platform about1 = true :=
  (Spec.applies_iff w_frames).mpr ⟨w_running, w_runnable, w_alone, w_named, w_hears, w_ripe, w_room, w_tables⟩
theorem atStart : AtStart classFile x code maxLocals ret World_1 tables_1 room_1 Calls_1 rest_1 Pre_1 launch0 p0 e0 about1 theMethod args0 below0 :=
  ⟨lists_1, trivial, launch0.admits_env _ _ _, launch0.least_env, fairChoices_fair.cas, fairChoices_fair.clock, w_frames, w_args, w_heap, w_applies, ⟨⟨30, k30, 2, by decide +kernel, rfl, rfl, _, rfl, rfl⟩, trivial⟩, w_rest, w_case⟩
end start1
theorem witness_1 : WitnessClaimed_1 := ⟨start1.p0, start1.e0, start1.about1, start1.theMethod, start1.args0, start1.below0, start1.atStart⟩
end Jvm.Pilot.@@N@@
