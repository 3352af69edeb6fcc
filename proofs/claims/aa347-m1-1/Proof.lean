import JvmDerived
import JvmDerived.Pilot.@@N@@Statement
import JvmDerived.Pilot.@@N@@Code
set_option linter.unusedVariables false
set_option linter.unusedSimpArgs false
namespace Jvm.Pilot.@@N@@
open Jvm Jvm.ClassFile Sem Op Lib Jvm.Free Jvm.Stand Jvm.LawKit Jvm.RoadKit Bundle Jvm.Pilot.@@N@@.Jvm.D
section Own
variable {p : Program} {l : Launch} {e : Env} {R : Room} {s : State} {m : MethodId} {args : Array Value} {below : List Frame} {meth : Method} {c : Code} {T : State} {locs : List Loc} {cells slots : Nat} {Z : State} {a0 : Array Value} {h : Heap}
theorem wd (hw : ∀ d ∈ tables_1, d.before a0 Z = true) (k : Nat) {d : Jvm.Cond} (q : tables_1[k]? = some d) : d.before a0 Z = true := hw d (List.mem_of_getElem? q)
theorem old_sz {n0 : Nat} (O : Old Z n0 h) : n0 ≤ h.size := O.1 ▸ O.2.1
/-- what is left to show from the state t on -/
def Run (p : Program) (e : Env) (below : List Frame) (A : Outcome → State → Prop) (t : State) : Prop := ∃ u o, Steps p.tables e below t u ∧ u.status = .running ∧ Ended u below o ∧ A o u
theorem go {A : Outcome → State → Prop} {t t' : State} (st : ∀ u, Steps p.tables e below t' u → Steps p.tables e below t u) (k : Run p e below A t') : Run p e below A t := by
  obtain ⟨u, o, k1, k2⟩ := k
  exact ⟨u, o, st u k1, k2⟩
theorem goT {A : Outcome → State → Prop} {t t' : State} (st : Steps p.tables e below t t') (k : Run p e below A t') : Run p e below A t := by
  obtain ⟨u, o, k1, k2⟩ := k
  exact ⟨u, o, st.trans k1, k2⟩
def Ends (s : State) (Q : Option Value → Heap → List Loc → Prop) (k n : Nat) (o : Outcome) (U : State) : Prop := ∃ v L, o = .returned v ∧ Q v U.heap L ∧ FrameEnd s o U L k n
def Meets (l : Launch) (y : MethodName) (bytes : ByteArray) (maxL : Nat) (ret : Option FieldType) (ws : List Jvm.Cond) (rm : Room) (Z : State) (as' : Array Value) (h0 : Heap) (Q : Option Value → Heap → List Loc → Prop) (k n : Nat) : Prop :=
  MetFree l y (head1 (Jvm.Cond.code y bytes maxL ret :: ws) rm) (fun a U => a = as' ∧ Z.Warmed39 U.vm ∧ U.heap = h0) (fun _ _ _ _ _ => True) (fun _ U o U' => ∃ v L, o = .returned v ∧ Q v U'.heap L ∧ FrameEnd U o U' L k n)
theorem enter {y : MethodName} {bytes : ByteArray} {maxL : Nat} {ret : Option FieldType} {ws : List Jvm.Cond} {rm : Room} {as' : Array Value} {h0 : Heap} {Q : Option Value → Heap → List Loc → Prop} {k n : Nat} {Ls : Array Slot} (pf : plainFor y = true) (ef : ∀ m, entryFrame m as' maxL = mkF m 0 Ls [])
    (body : ∀ (p : Program) (e : Env) (s : State) (m : MethodId) (below : List Frame) (meth : Method) (c : Code) (T : State), p.tables.exec = Jvm.exec → c.code = bytes → c.maxLocals = maxL → s.vm.findClass y.cls = some m.cls → meth.name = y.name → meth.sig.returnType = ret → meth.locks = false → Z.Warmed39 s.vm → Stand p l e rm s m as' below meth c T [] 0 0 → T.heap = h0 → Run p e below (Ends s Q k n) (T.setTop (mkF m 0 Ls []))) :
    Meets l y bytes maxL ret ws rm Z as' h0 Q k n := by
  refine MetFree.of_bodySF pf hisR ?_
  intro p e s m args below meth c s₁ Bd hml0 hP hK
  obtain ⟨rfl, hZ, hh⟩ := hP
  obtain ⟨u, o, k1, k2, k3, k4⟩ := body p e s m below meth c s₁ Bd.exec Bd.bytes hml0 (findClass_of_methodNamed Bd.named) (name_of_methodNamed Bd.named Bd.method).1 Bd.returns (BodyLoose.notSynchronized Bd) hZ (Stand.of_body Bd) (by rw [← hh, Bd.state]; rfl)
  exact ⟨u, o, castTop (ef m) k1, k2, k3, k4⟩
theorem smono (X : Stand p l e R s m args below meth c T locs cells slots) {k n : Nat} (hk : cells ≤ k) (hn : slots ≤ n) : Stand p l e R s m args below meth c T locs k n :=
  ⟨X.admits, X.cas, X.clock, X.frames, X.room, X.hears, X.method, X.code, X.here, X.tail, X.warmed, X.limits, X.bytes, X.same.mono hk hn⟩
theorem retI (X : Stand p l e R s m args below meth c T locs cells slots) (hx : p.tables.exec = Jvm.exec) {pc : Nat} {Ls : Array Slot} {z : Int32} {rest : List Value} (hret : meth.sig.returnType = some .int) (hd : decode c.code pc = .ok (.ireturn, 1)) {fs : List Frame}
    (hl : ∀ (f : JFrame) (acts : List Action), f.method = m → f.locked = none → f.entered = [] → (doReturn e (T.setTop f) acts (some (.int z))).1 = T.setFrames fs) : Steps p.tables e below (T.setTop (mkF m pc Ls (.int z :: rest))) (T.setFrames fs) :=
  retOut X hx hret rfl (Or.inl ⟨rfl, Or.inl rfl, _, rfl⟩) hd hl
theorem endI (X : Stand p l e R s m args below meth c T locs cells slots) (hx : p.tables.exec = Jvm.exec) (hlk : meth.locks = false) {Q : Option Value → Heap → List Loc → Prop} {k n pc : Nat} {Ls : Array Slot} {z : Int32} {rest : List Value} (hret : meth.sig.returnType = some .int) (hd : decode c.code pc = .ok (.ireturn, 1)) (hq : Q (some (.int z)) T.heap locs) (hk : cells ≤ k) (hn : slots ≤ n) :
    Run p e below (Ends s Q k n) (T.setTop (mkF m pc Ls (.int z :: rest))) := by
  obtain ⟨fs, hr, hrun, hended, hW, hsame⟩ := X.leave (v := some (.int z)) (fun h => by rw [hret] at h; cases h) hlk
  exact ⟨_, _, retI X hx hret hd hr, hrun, hended, _, _, rfl, hq, ⟨_, rfl⟩, hW, hsame.mono hk hn⟩
theorem endN (X : Stand p l e R s m args below meth c T locs cells slots) (hx : p.tables.exec = Jvm.exec) (hlk : meth.locks = false) {Q : Option Value → Heap → List Loc → Prop} {k n pc : Nat} {Ls : Array Slot} {z : Int32} {rest : List Value} {t : FieldType} (hret : meth.sig.returnType = some t) (ht : t = .boolean ∨ t = .byte ∨ t = .char ∨ t = .short) (hd : decode c.code pc = .ok (.ireturn, 1)) (hq : Q (some (.int (nar t z))) T.heap locs) (hk : cells ≤ k) (hn : slots ≤ n) :
    Run p e below (Ends s Q k n) (T.setTop (mkF m pc Ls (.int z :: rest))) := by
  obtain ⟨fs, hr, hrun, hended, hW, hsame⟩ := X.leave (v := some (.int (nar t z))) (fun h => by rw [hret] at h; cases h) hlk
  exact ⟨_, _, retN X hx hret ht hd hr, hrun, hended, _, _, rfl, hq, ⟨_, rfl⟩, hW, hsame.mono hk hn⟩
theorem endA (X : Stand p l e R s m args below meth c T locs cells slots) (hx : p.tables.exec = Jvm.exec) (hlk : meth.locks = false) {Q : Option Value → Heap → List Loc → Prop} {k n pc : Nat} {Ls : Array Slot} {w : Value} {rest : List Value} {t : FieldType} (hret : meth.sig.returnType = some t) (ht : t.isReference = true) (hv : w.isRef = true) (hd : decode c.code pc = .ok (.areturn, 1)) (hq : Q (some w) T.heap locs) (hk : cells ≤ k) (hn : slots ≤ n) :
    Run p e below (Ends s Q k n) (T.setTop (mkF m pc Ls (w :: rest))) := by
  obtain ⟨fs, hr, hrun, hended, hW, hsame⟩ := X.leave (v := some w) (fun h => by rw [hret] at h; cases h) hlk
  have hn' : narrow t w = w := by cases w <;> first | (cases hv; done) | (cases t <;> first | rfl | (cases ht; done))
  exact ⟨_, _, retOut X hx hret hn' (Or.inr (Or.inr (Or.inr (Or.inr ⟨rfl, ht, hv⟩)))) hd hr, hrun, hended, _, _, rfl, hq, ⟨_, rfl⟩, hW, hsame.mono hk hn⟩
theorem endJ (X : Stand p l e R s m args below meth c T locs cells slots) (hx : p.tables.exec = Jvm.exec) (hlk : meth.locks = false) {Q : Option Value → Heap → List Loc → Prop} {k n pc : Nat} {Ls : Array Slot} {z : Int64} {rest : List Value} (hret : meth.sig.returnType = some .long) (hd : decode c.code pc = .ok (.lreturn, 1)) (hq : Q (some (.long z)) T.heap locs) (hk : cells ≤ k) (hn : slots ≤ n) :
    Run p e below (Ends s Q k n) (T.setTop (mkF m pc Ls (.long z :: rest))) := by
  obtain ⟨fs, hr, hrun, hended, hW, hsame⟩ := X.leave (v := some (.long z)) (fun h => by rw [hret] at h; cases h) hlk
  exact ⟨_, _, retOut X hx hret rfl (Or.inr (Or.inl ⟨rfl, rfl, _, rfl⟩)) hd hr, hrun, hended, _, _, rfl, hq, ⟨_, rfl⟩, hW, hsame.mono hk hn⟩
theorem endD (X : Stand p l e R s m args below meth c T locs cells slots) (hx : p.tables.exec = Jvm.exec) (hlk : meth.locks = false) {Q : Option Value → Heap → List Loc → Prop} {k n pc : Nat} {Ls : Array Slot} {z : UInt64} {rest : List Value} (hret : meth.sig.returnType = some .double) (hd : decode c.code pc = .ok (.dreturn, 1)) (hq : Q (some (.double z)) T.heap locs) (hk : cells ≤ k) (hn : slots ≤ n) :
    Run p e below (Ends s Q k n) (T.setTop (mkF m pc Ls (.double z :: rest))) := by
  obtain ⟨fs, hr, hrun, hended, hW, hsame⟩ := X.leave (v := some (.double z)) (fun h => by rw [hret] at h; cases h) hlk
  exact ⟨_, _, retOut X hx hret rfl (Or.inr (Or.inr (Or.inl ⟨rfl, rfl, _, rfl⟩))) hd hr, hrun, hended, _, _, rfl, hq, ⟨_, rfl⟩, hW, hsame.mono hk hn⟩
theorem endV (X : Stand p l e R s m args below meth c T locs cells slots) (hx : p.tables.exec = Jvm.exec) (hlk : meth.locks = false) {Q : Option Value → Heap → List Loc → Prop} {k n pc : Nat} {Ls : Array Slot} (hret : meth.sig.returnType = none) (hd : decode c.code pc = .ok (.return_, 1)) (hq : Q none T.heap locs) (hk : cells ≤ k) (hn : slots ≤ n) :
    Run p e below (Ends s Q k n) (T.setTop (mkF m pc Ls [])) := by
  obtain ⟨fs, hr, hrun, hended, hW, hsame⟩ := X.leave (v := none) (fun _ => rfl) hlk
  exact ⟨_, _, X.returnOut hx hret hd hr, hrun, hended, _, _, rfl, hq, ⟨_, rfl⟩, hW, hsame.mono hk hn⟩
abbrev Pay (l : Launch) (R : Room) (p : Program) (e : Env) (below : List Frame) (s : State) (args : Array Value) (y : MethodName) (len W : Nat) (as' : Array Value) (h : Heap) (Q : Option Value → Heap → List Loc → Prop) (rc rs : Nat) : Prop :=
  Back l R p e below s args y len W (fun A a => a = as' ∧ A.U.heap = h ∧ A.cells + rc ≤ R.cells ∧ A.slots + rs ≤ R.slots) (fun A _ v B => ∃ L, Q v B.U.heap L ∧ B.locs = A.locs ++ L ∧ B.cells = A.cells + rc ∧ B.slots = A.slots + rs)
theorem Pay.more {y : MethodName} {len W rc rs rs' : Nat} {as' : Array Value} {Q : Option Value → Heap → List Loc → Prop} (hK : Pay l R p e below s args y len W as' h Q rc rs) (q : rs ≤ rs') : Pay l R p e below s args y len W as' h Q rc rs' := fun m meth c A g ig mk a X hg hsz hd hW hn hp => by
  obtain ⟨v, B, X', ⟨L, q1, q2, q3, q4⟩, st⟩ := hK m meth c A g ig mk a X hg hsz hd hW hn ⟨hp.1, hp.2.1, hp.2.2.1, Nat.le_trans (Nat.add_le_add_left q _) hp.2.2.2⟩
  exact ⟨v, (B.U, B.locs, B.cells, A.slots + rs'), smono X' (Nat.le_refl _) (by rw [q4]; exact Nat.add_le_add_left q _), ⟨L, q1, q2, q3, rfl⟩, st⟩
theorem narR {v : Value} {C : String} (h : v.isRef = true) : narrow (.object C) v = v := by cases v <;> first | rfl | (cases h; done)
theorem fitR {v : Value} {C : String} (h : v.isRef = true) : fits (.object C) v = true := by cases v <;> first | rfl | (cases h; done)
theorem callSt (X : Stand p l e R s m args below meth c T locs cells slots) (hx : p.tables.exec = Jvm.exec) (hZ : Z.Warmed39 s.vm) {own : String} {index : Nat} {y : MethodName} {bytes : ByteArray} {maxL : Nat} {ret : Option FieldType} {rm : Room} {Q : Option Value → Heap → List Loc → Prop} (hown : s.vm.findClass own = some m.cls)
    (w1 : (Jvm.Cond.methodLink own index y).before a0 Z = true) (w2 : (Jvm.Cond.static y).before a0 Z = true) (w3 : (Jvm.Cond.initialized y.cls).before a0 Z = true) (w4 : (Jvm.Cond.code y bytes maxL ret).before a0 Z = true) (hy : y.cls ≠ "java/lang/invoke/MethodHandle" ∧ y.cls ≠ "java/lang/invoke/VarHandle") (eT : T.heap = h) {argsL rest : List Value}
    (hM : Meets l y bytes maxL ret [] rm Z argsL.toArray h Q rm.cells rm.slots) {W : Nat} (hf : rm.frames + 1 ≤ R.frames) (hl : W + (maxL + 11) + rm.locals ≤ R.locals) (hc : cells + rm.cells ≤ R.cells) (hn : slots + rm.slots ≤ R.slots)
    {pc : Nat} {Ls : Array Slot} {st : List Value} (hsize : Ls.size = c.maxLocals) (hlen : ∀ sig, parseMethodDescriptor y.desc = some sig → argsL.length = sig.parameters.length) (hst : st = argsL.reverse ++ rest) (hW : (rest.map fun v => v.category).sum ≤ W) (hd : decode c.code pc = .ok (.invokestatic index, 3)) {A : Outcome → State → Prop}
    (kk : ∀ (v : Option Value) (T' : State) (L : List Loc) (h' : Heap), Stand p l e R s m args below meth c T' (locs ++ L) (cells + rm.cells) (slots + rm.slots) → T'.heap = h' → Q v h' L → Run p e below A (T'.setTop (mkF m (pc + 3) Ls (v.toList ++ rest)))) : Run p e below A (T.setTop (mkF m pc Ls st)) := by
  obtain ⟨v, _, ⟨T18, L18, k18, n18⟩, -, X18, ⟨Lc18, hQ18, l18, y18, z18⟩, st18⟩ := Jvm.LawKit.callS X hx hown (mvT hZ w1) (mvT hZ w2) (mvT hZ w3) (mvT hZ w4) hy (backOf (W := W) hM hZ w4 w3 hf hl) (g := mkF m pc Ls st) rfl hsize (argsL := argsL) (rest := rest) hlen hst (by show 2 * 0 + _ ≤ _; omega) hd (fun _ _ => ⟨rfl, eT, hc, hn⟩)
  dsimp only [Pt.U, Pt.locs, Pt.cells, Pt.slots] at X18 l18 y18 z18 st18 hQ18
  subst l18 y18 z18
  exact go st18 (kk v _ _ _ X18 rfl hQ18)
theorem callVi (X : Stand p l e R s m args below meth c T locs cells slots) (hx : p.tables.exec = Jvm.exec) (hZ : Z.Warmed39 s.vm) {own C : String} {index : Nat} {y z : MethodName} {bytes : ByteArray} {maxL : Nat} {ret : Option FieldType} {rm : Room} {Q : Option Value → Heap → List Loc → Prop} (hown : s.vm.findClass own = some m.cls)
    (w1 : (Jvm.Cond.methodLink own index y).before a0 Z = true) (w2 : (Jvm.Cond.declares y).before a0 Z = true) (nf : NotFace s y) (w5 : (Jvm.Cond.selects C y z).before a0 Z = true) (w6 : (Jvm.Cond.instanceMethod z).before a0 Z = true) (w4 : (Jvm.Cond.code z bytes maxL ret).before a0 Z = true) (w3 : (Jvm.Cond.initialized z.cls).before a0 Z = true) (hy : y.cls ≠ "java/lang/invoke/MethodHandle" ∧ y.cls ≠ "java/lang/invoke/VarHandle") (eT : T.heap = h) {a : Addr} (E : Exa Z h a C) {argsL rest : List Value}
    (hM : Meets l z bytes maxL ret [] rm Z (.ref a :: argsL).toArray h Q rm.cells rm.slots) {W : Nat} (hf : rm.frames + 1 ≤ R.frames) (hl : W + (maxL + 11) + rm.locals ≤ R.locals) (hc : cells + rm.cells ≤ R.cells) (hn : slots + rm.slots ≤ R.slots)
    {pc : Nat} {Ls : Array Slot} {st : List Value} (hsize : Ls.size = c.maxLocals) (hlen : ∀ sig, parseMethodDescriptor y.desc = some sig → argsL.length = sig.parameters.length) (hst : st = argsL.reverse ++ .ref a :: rest) (hW : (rest.map fun v => v.category).sum ≤ W) (hd : decode c.code pc = .ok (.invokevirtual index, 3)) {A : Outcome → State → Prop}
    (kk : ∀ (v : Option Value) (T' : State) (L : List Loc) (h' : Heap), Stand p l e R s m args below meth c T' (locs ++ L) (cells + rm.cells) (slots + rm.slots) → T'.heap = h' → Q v h' L → Run p e below A (T'.setTop (mkF m (pc + 3) Ls (v.toList ++ rest)))) : Run p e below A (T.setTop (mkF m pc Ls st)) := by
  obtain ⟨cq, kq, qa, qb, qc⟩ := isOf hZ eT E
  obtain ⟨v, _, ⟨T18, L18, k18, n18⟩, -, X18, ⟨Lc18, hQ18, l18, y18, z18⟩, st18⟩ := X.virtualBack hx (y := y) (z := z) hown (mvT hZ w1) (mvT hZ w2) nf (mvT hZ w5) (mvT hZ w6) hy (backOf (W := W) hM hZ w4 w3 hf hl) qa qc (g := mkF m pc Ls st) rfl hsize (Steps.refl _) (argsL := argsL) (rest := rest) hlen hst (by show 2 * 0 + _ ≤ _; omega) hd (fun _ _ => ⟨rfl, eT, hc, hn⟩)
  dsimp only [Pt.U, Pt.locs, Pt.cells, Pt.slots] at X18 l18 y18 z18 st18 hQ18
  subst l18 y18 z18
  exact goT st18 (kk v _ _ _ X18 rfl hQ18)
theorem callSp (X : Stand p l e R s m args below meth c T locs cells slots) (hx : p.tables.exec = Jvm.exec) (hZ : Z.Warmed39 s.vm) {own : String} {index : Nat} {y : MethodName} (hy1 : y.name = "<init>") {bytes : ByteArray} {maxL : Nat} {rm : Room} {Q : Option Value → Heap → List Loc → Prop} (hown : s.vm.findClass own = some m.cls)
    (w1 : (Jvm.Cond.methodLink own index y).before a0 Z = true) (w6 : (Jvm.Cond.instanceMethod y).before a0 Z = true) (w4 : (Jvm.Cond.code y bytes maxL none).before a0 Z = true) (w3 : (Jvm.Cond.initialized y.cls).before a0 Z = true) (hy : y.cls ≠ "java/lang/invoke/MethodHandle" ∧ y.cls ≠ "java/lang/invoke/VarHandle") (eT : T.heap = h) {a : Addr} {argsL rest : List Value}
    (hM : Meets l y bytes maxL none [] rm Z (.ref a :: argsL).toArray h Q rm.cells rm.slots) {W : Nat} (hf : rm.frames + 1 ≤ R.frames) (hl : W + (maxL + 11) + rm.locals ≤ R.locals) (hc : cells + rm.cells ≤ R.cells) (hn : slots + rm.slots ≤ R.slots)
    {pc : Nat} {Ls : Array Slot} {st : List Value} (hsize : Ls.size = c.maxLocals) (hlen : ∀ sig, parseMethodDescriptor y.desc = some sig → argsL.length = sig.parameters.length) (hst : st = argsL.reverse ++ .ref a :: rest) (hW : (rest.map fun v => v.category).sum ≤ W) (hd : decode c.code pc = .ok (.invokespecial index, 3)) {A : Outcome → State → Prop}
    (kk : ∀ (v : Option Value) (T' : State) (L : List Loc) (h' : Heap), Stand p l e R s m args below meth c T' (locs ++ L) (cells + rm.cells) (slots + rm.slots) → T'.heap = h' → Q v h' L → Run p e below A (T'.setTop (mkF m (pc + 3) Ls (v.toList ++ rest)))) : Run p e below A (T.setTop (mkF m pc Ls st)) := by
  obtain ⟨v, _, ⟨T18, L18, k18, n18⟩, -, X18, ⟨Lc18, hQ18, l18, y18, z18⟩, st18⟩ := X.specialBack hx (y := y) hy1 hown (mvT hZ w1) (mvT hZ w6) (mvT hZ w4) hy (backOf (W := W) hM hZ w4 w3 hf hl) (g := mkF m pc Ls st) rfl hsize (Steps.refl _) (a := a) (argsL := argsL) (rest := rest) hlen hst (by show 2 * 0 + _ ≤ _; omega) hd (fun _ _ => ⟨rfl, eT, hc, hn⟩)
  dsimp only [Pt.U, Pt.locs, Pt.cells, Pt.slots] at X18 l18 y18 z18 st18 hQ18
  subst l18 y18 z18
  exact goT st18 (kk v _ _ _ X18 rfl hQ18)
theorem callPr (X : Stand p l e R s m args below meth c T locs cells slots) (hx : p.tables.exec = Jvm.exec) (hZ : Z.Warmed39 s.vm) {own C : String} {index : Nat} {y : MethodName} {bytes : ByteArray} {maxL : Nat} {ret : Option FieldType} {rm : Room} {Q : Option Value → Heap → List Loc → Prop} (hown : s.vm.findClass own = some m.cls)
    (w1 : (Jvm.Cond.methodLink own index y).before a0 Z = true) (w2 : (Jvm.Cond.privateMethod y).before a0 Z = true) (w5 : (Jvm.Cond.selects y.cls y y).before a0 Z = true) (w6 : (Jvm.Cond.instanceMethod y).before a0 Z = true) (w4 : (Jvm.Cond.code y bytes maxL ret).before a0 Z = true) (w3 : (Jvm.Cond.initialized y.cls).before a0 Z = true) (hy : y.cls ≠ "java/lang/invoke/MethodHandle" ∧ y.cls ≠ "java/lang/invoke/VarHandle") (eT : T.heap = h) {a : Addr} (E : Exa Z h a C) {argsL rest : List Value}
    (hM : Meets l y bytes maxL ret [] rm Z (.ref a :: argsL).toArray h Q rm.cells rm.slots) {W : Nat} (hf : rm.frames + 1 ≤ R.frames) (hl : W + (maxL + 11) + rm.locals ≤ R.locals) (hc : cells + rm.cells ≤ R.cells) (hn : slots + rm.slots ≤ R.slots)
    {pc : Nat} {Ls : Array Slot} {st : List Value} (hsize : Ls.size = c.maxLocals) (hlen : ∀ sig, parseMethodDescriptor y.desc = some sig → argsL.length = sig.parameters.length) (hst : st = argsL.reverse ++ .ref a :: rest) (hW : (rest.map fun v => v.category).sum ≤ W) (hd : decode c.code pc = .ok (.invokevirtual index, 3)) {A : Outcome → State → Prop}
    (kk : ∀ (v : Option Value) (T' : State) (L : List Loc) (h' : Heap), Stand p l e R s m args below meth c T' (locs ++ L) (cells + rm.cells) (slots + rm.slots) → T'.heap = h' → Q v h' L → Run p e below A (T'.setTop (mkF m (pc + 3) Ls (v.toList ++ rest)))) : Run p e below A (T.setTop (mkF m pc Ls st)) := by
  obtain ⟨cl, hcl, hob⟩ := Exa.cell E
  obtain ⟨v, _, ⟨T18, L18, k18, n18⟩, -, X18, ⟨Lc18, hQ18, l18, y18, z18⟩, st18⟩ := X.privateBack hx (y := y) hown (mvT hZ w1) (mvT hZ w6) (mvT hZ w5) (Cond.privateMethod_at (mvP hZ w2 (args := #[]))) (mvT hZ w4) hy (backOf (W := W) hM hZ w4 w3 hf hl) (g := mkF m pc Ls st) rfl hsize (Steps.refl _) (a := a) (by rw [eT]; exact hcl) hob (argsL := argsL) (rest := rest) hlen hst (by show 2 * 0 + _ ≤ _; omega) hd (fun _ _ => ⟨rfl, eT, hc, hn⟩)
  dsimp only [Pt.U, Pt.locs, Pt.cells, Pt.slots] at X18 l18 y18 z18 st18 hQ18
  subst l18 y18 z18
  exact goT st18 (kk v _ _ _ X18 rfl hQ18)
theorem callIf (X : Stand p l e R s m args below meth c T locs cells slots) (hx : p.tables.exec = Jvm.exec) (hZ : Z.Warmed39 s.vm) {own C : String} {index count : Nat} {y z : MethodName} {bytes : ByteArray} {maxL : Nat} {ret : Option FieldType} {rm : Room} {Q : Option Value → Heap → List Loc → Prop} (hown : s.vm.findClass own = some m.cls)
    (w1 : (Jvm.Cond.methodLink own index y).before a0 Z = true) (w2 : (Jvm.Cond.declares y).before a0 Z = true) (w7 : (Jvm.Cond.interfaceMethod y.cls y.cls y.name y.desc).before a0 Z = true) (k7 : ((Jvm.Cond.interfaceMethod y.cls y.cls y.name y.desc).onTables && (Jvm.Cond.interfaceMethod y.cls y.cls y.name y.desc).keepsFace) = true) (w5 : (Jvm.Cond.selects C y z).before a0 Z = true) (w6 : (Jvm.Cond.instanceMethod z).before a0 Z = true) (w8 : (Jvm.Cond.publicMethod z).before a0 Z = true) (w9 : (Jvm.Cond.unhidden C y.name y.desc).before a0 Z = true) (w10 : (Jvm.Cond.castable C y.cls).before a0 Z = true)
    (w4 : (Jvm.Cond.code z bytes maxL ret).before a0 Z = true) (w3 : (Jvm.Cond.initialized z.cls).before a0 Z = true) (hy : y.cls ≠ "java/lang/invoke/MethodHandle" ∧ y.cls ≠ "java/lang/invoke/VarHandle") (eT : T.heap = h) {a : Addr} (E : Exa Z h a C) {argsL rest : List Value}
    (hM : Meets l z bytes maxL ret [] rm Z (.ref a :: argsL).toArray h Q rm.cells rm.slots) {W : Nat} (hf : rm.frames + 1 ≤ R.frames) (hl : W + (maxL + 11) + rm.locals ≤ R.locals) (hc : cells + rm.cells ≤ R.cells) (hn : slots + rm.slots ≤ R.slots)
    {pc : Nat} {Ls : Array Slot} {st : List Value} (hsize : Ls.size = c.maxLocals) (hlen : ∀ sig, parseMethodDescriptor y.desc = some sig → argsL.length = sig.parameters.length) (hst : st = argsL.reverse ++ .ref a :: rest) (hW : (rest.map fun v => v.category).sum ≤ W) (hd : decode c.code pc = .ok (.invokeinterface index count, 5)) {A : Outcome → State → Prop}
    (kk : ∀ (v : Option Value) (T' : State) (L : List Loc) (h' : Heap), Stand p l e R s m args below meth c T' (locs ++ L) (cells + rm.cells) (slots + rm.slots) → T'.heap = h' → Q v h' L → Run p e below A (T'.setTop (mkF m (pc + 5) Ls (v.toList ++ rest)))) : Run p e below A (T.setTop (mkF m pc Ls st)) := by
  obtain ⟨cq, kq, qa, qb, qc⟩ := isOf hZ eT E
  obtain ⟨v, _, ⟨T18, L18, k18, n18⟩, -, X18, ⟨Lc18, hQ18, l18, y18, z18⟩, st18⟩ := X.interfaceBack hx (xi := y) (y := z) hown (mvT hZ w1) (mvT hZ w2) (mvT hZ w7 k7) (mvT hZ w5) (mvT hZ w6) (mvT hZ w8) (mvT hZ w9) (mvT hZ w10) hy (backOf (W := W) hM hZ w4 w3 hf hl) qa qb qc (g := mkF m pc Ls st) rfl hsize (Steps.refl _) (argsL := argsL) (rest := rest) hlen hst (by show 2 * 0 + _ ≤ _; omega) hd (fun _ _ => ⟨rfl, eT, hc, hn⟩)
  dsimp only [Pt.U, Pt.locs, Pt.cells, Pt.slots] at X18 l18 y18 z18 st18 hQ18
  subst l18 y18 z18
  exact goT st18 (kk v _ _ _ X18 rfl hQ18)
theorem callViK (X : Stand p l e R s m args below meth c T locs cells slots) (hx : p.tables.exec = Jvm.exec) (hZ : Z.Warmed39 s.vm) {own C : String} {index : Nat} {y z : MethodName} {Q : Option Value → Heap → List Loc → Prop} (hown : s.vm.findClass own = some m.cls)
    (w1 : (Jvm.Cond.methodLink own index y).before a0 Z = true) (w2 : (Jvm.Cond.declares y).before a0 Z = true) (nf : NotFace s y) (w5 : (Jvm.Cond.selects C y z).before a0 Z = true) (w6 : (Jvm.Cond.instanceMethod z).before a0 Z = true) (hy : y.cls ≠ "java/lang/invoke/MethodHandle" ∧ y.cls ≠ "java/lang/invoke/VarHandle") (eT : T.heap = h) {a : Addr} (E : Exa Z h a C) {argsL rest : List Value}
    {rc rs W : Nat} (hK : Pay l R p e below s args z 3 W (.ref a :: argsL).toArray h Q rc rs) (hc : cells + rc ≤ R.cells) (hn : slots + rs ≤ R.slots)
    {pc : Nat} {Ls : Array Slot} {st : List Value} (hsize : Ls.size = c.maxLocals) (hlen : ∀ sig, parseMethodDescriptor y.desc = some sig → argsL.length = sig.parameters.length) (hst : st = argsL.reverse ++ .ref a :: rest) (hW : (rest.map fun v => v.category).sum ≤ W) (hd : decode c.code pc = .ok (.invokevirtual index, 3)) {A : Outcome → State → Prop}
    (kk : ∀ (v : Option Value) (T' : State) (L : List Loc) (h' : Heap), Stand p l e R s m args below meth c T' (locs ++ L) (cells + rc) (slots + rs) → T'.heap = h' → Q v h' L → Run p e below A (T'.setTop (mkF m (pc + 3) Ls (v.toList ++ rest)))) : Run p e below A (T.setTop (mkF m pc Ls st)) := by
  obtain ⟨cq, kq, qa, qb, qc⟩ := isOf hZ eT E
  obtain ⟨v, _, ⟨T18, L18, k18, n18⟩, -, X18, ⟨Lc18, hQ18, l18, y18, z18⟩, st18⟩ := X.virtualBack hx (y := y) (z := z) hown (mvT hZ w1) (mvT hZ w2) nf (mvT hZ w5) (mvT hZ w6) hy hK qa qc (g := mkF m pc Ls st) rfl hsize (Steps.refl _) (argsL := argsL) (rest := rest) hlen hst (by show 2 * 0 + _ ≤ _; omega) hd (fun _ _ => ⟨rfl, eT, hc, hn⟩)
  dsimp only [Pt.U, Pt.locs, Pt.cells, Pt.slots] at X18 l18 y18 z18 st18 hQ18
  subst l18 y18 z18
  exact goT st18 (kk v _ _ _ X18 rfl hQ18)
theorem callSpK (X : Stand p l e R s m args below meth c T locs cells slots) (hx : p.tables.exec = Jvm.exec) (hZ : Z.Warmed39 s.vm) {own : String} {index : Nat} {y : MethodName} (hy1 : y.name = "<init>") {bytes : ByteArray} {maxL : Nat} {Q : Option Value → Heap → List Loc → Prop} (hown : s.vm.findClass own = some m.cls)
    (w1 : (Jvm.Cond.methodLink own index y).before a0 Z = true) (w6 : (Jvm.Cond.instanceMethod y).before a0 Z = true) (w4 : (Jvm.Cond.code y bytes maxL none).before a0 Z = true) (hy : y.cls ≠ "java/lang/invoke/MethodHandle" ∧ y.cls ≠ "java/lang/invoke/VarHandle") (eT : T.heap = h) {a : Addr} {argsL rest : List Value}
    {rc rs W : Nat} (hK : Pay l R p e below s args y 3 W (.ref a :: argsL).toArray h Q rc rs) (hc : cells + rc ≤ R.cells) (hn : slots + rs ≤ R.slots)
    {pc : Nat} {Ls : Array Slot} {st : List Value} (hsize : Ls.size = c.maxLocals) (hlen : ∀ sig, parseMethodDescriptor y.desc = some sig → argsL.length = sig.parameters.length) (hst : st = argsL.reverse ++ .ref a :: rest) (hW : (rest.map fun v => v.category).sum ≤ W) (hd : decode c.code pc = .ok (.invokespecial index, 3)) {A : Outcome → State → Prop}
    (kk : ∀ (v : Option Value) (T' : State) (L : List Loc) (h' : Heap), Stand p l e R s m args below meth c T' (locs ++ L) (cells + rc) (slots + rs) → T'.heap = h' → Q v h' L → Run p e below A (T'.setTop (mkF m (pc + 3) Ls (v.toList ++ rest)))) : Run p e below A (T.setTop (mkF m pc Ls st)) := by
  obtain ⟨v, _, ⟨T18, L18, k18, n18⟩, -, X18, ⟨Lc18, hQ18, l18, y18, z18⟩, st18⟩ := X.specialBack hx (y := y) hy1 hown (mvT hZ w1) (mvT hZ w6) (mvT hZ w4) hy hK (g := mkF m pc Ls st) rfl hsize (Steps.refl _) (a := a) (argsL := argsL) (rest := rest) hlen hst (by show 2 * 0 + _ ≤ _; omega) hd (fun _ _ => ⟨rfl, eT, hc, hn⟩)
  dsimp only [Pt.U, Pt.locs, Pt.cells, Pt.slots] at X18 l18 y18 z18 st18 hQ18
  subst l18 y18 z18
  exact goT st18 (kk v _ _ _ X18 rfl hQ18)
/-- no subclass, by the words of the one's superclasses and of the other's 'instantiable' -/
theorem ns_root {O K : String} {n : Nat} (w : (Jvm.Cond.noSuperclass O).before a0 Z = true) (wk : (Jvm.Cond.instantiable K n).before a0 Z = true) (hn : O ≠ K) : NS Z O K := by
  obtain ⟨c, k, h1, h2, h3, -, -⟩ := Cond.noSuperclass_spec w
  obtain ⟨t, kt, g1, -⟩ := Cond.instantiable_spec wk
  have ne := ids_ne h1 g1 hn
  refine ⟨c, t, h1, g1, fun fuel => ?_⟩
  cases fuel with
  | zero => rfl
  | succ f => simp [Vm.isSubclassAux, ne, h2, h3]
theorem ns_no {C S K : String} {n : Nat} (w : (Jvm.Cond.superclass C S).before a0 Z = true) (wk : (Jvm.Cond.instantiable K n).before a0 Z = true) (q : NS Z C K) (hn : C ≠ K) : ∃ c t, Z.vm.findClass C = some c ∧ Z.vm.findClass K = some t ∧ Z.vm.assignable c t = false := by
  obtain ⟨c, t, h0, g0, n3⟩ := q
  obtain ⟨p, k, kp, h1, h2, h3, h4, h5, -, h7⟩ := Cond.superclass_spec h0 w
  obtain ⟨t', kt, g1, g2, g3, g4, -⟩ := Cond.instantiable_spec wk
  cases g0.symm.trans g1
  have ne := ids_ne h0 g0 hn
  have g5 : kt.isInterface = false := by
    cases hi : kt.isInterface with
    | false => rfl
    | true => simp [hi] at g4
  refine ⟨c, t, h0, g0, ?_⟩
  show Z.vm.assignableAux (255 + 1) c t = false
  simp [Vm.assignableAux, ne, h2, g2, h5, g3, g5, Vm.isSubclass, n3]
/-- a static that holds an object of one class, out of the case's words -/
theorem sta_exa {C n d K : String} (w1 : (Jvm.Cond.initialized C).before a0 Z = true) (w2 : (Jvm.Cond.laysStatic C n d).before a0 Z = true) (hx : (Jvm.Cond.exactly (Jvm.Term.static C n d) K).value a0 Z none Z [] = some true) :
    ∃ a, (Jvm.Term.static C n d).eval a0 Z none [] Z = some (.ref a) ∧ Sta Z Z.heap C n d (.ref a) ∧ Exa Z Z.heap a K := by
  obtain ⟨a, ev⟩ := exa_v hx
  exact ⟨a, ev, Sta.start ev (Or.inr ⟨w1, w2⟩), Exa.start ev hx⟩
theorem fld_int {t : Jvm.Term} {a : Addr} {C n d : String} {k : Int32} (ev : t.eval a0 Z none [] Z = some (.ref a)) (hq : (Jvm.Cond.eq (Jvm.Term.field t C n d) (Jvm.Term.int k)).value a0 Z none Z [] = some true) : Fld Z Z.heap a C n d (.int k) := by
  refine Fld.start ?_
  have e1 : (Jvm.Term.field t C n d).eval a0 Z none [] Z = Z.fieldOf? a C n d := fld_at ev
  have e2 : (Jvm.Term.int k).eval a0 Z none [] Z = some (.int k) := Term.int_eval k
  simp only [Cond.value, e1, e2] at hq
  cases hf : Z.fieldOf? a C n d with
  | none => simp [hf] at hq
  | some x => cases x <;> simp [hf] at hq ⊢; exact hq
end Own
theorem d_p37_m4_0 : decode prog_37_method_4_code 0 = .ok (.iload_n 1, 1) := by decide +kernel
theorem d_p37_m4_1 : decode prog_37_method_4_code 1 = .ok (.ifCond .ne 7, 3) := by decide +kernel
theorem d_p37_m4_4 : decode prog_37_method_4_code 4 = .ok (.iconst 1, 1) := by decide +kernel
theorem d_p37_m4_5 : decode prog_37_method_4_code 5 = .ok (.goto 4, 3) := by decide +kernel
theorem d_p37_m4_9 : decode prog_37_method_4_code 9 = .ok (.aload_n 0, 1) := by decide +kernel
theorem d_p37_m4_10 : decode prog_37_method_4_code 10 = .ok (.getstatic 3, 3) := by decide +kernel
theorem d_p37_m4_13 : decode prog_37_method_4_code 13 = .ok (.if_acmp .ne 7, 3) := by decide +kernel
theorem d_p37_m4_16 : decode prog_37_method_4_code 16 = .ok (.iconst 1, 1) := by decide +kernel
theorem d_p37_m4_17 : decode prog_37_method_4_code 17 = .ok (.goto 4, 3) := by decide +kernel
theorem d_p37_m4_21 : decode prog_37_method_4_code 21 = .ok (.if_icmp .ne 7, 3) := by decide +kernel
theorem d_p37_m4_24 : decode prog_37_method_4_code 24 = .ok (.iconst 1, 1) := by decide +kernel
theorem d_p37_m4_25 : decode prog_37_method_4_code 25 = .ok (.goto 4, 3) := by decide +kernel
theorem d_p37_m4_29 : decode prog_37_method_4_code 29 = .ok (.ireturn, 1) := by decide +kernel
theorem d_p37_m4_20 : decode prog_37_method_4_code 20 = .ok (.iconst 0, 1) := by decide +kernel
theorem d_p37_m4_28 : decode prog_37_method_4_code 28 = .ok (.iconst 0, 1) := by decide +kernel
theorem d_p37_m4_8 : decode prog_37_method_4_code 8 = .ok (.iconst 0, 1) := by decide +kernel
theorem pn_0 : plainName "com/example/pipewright/pipewright/core/AndOr$Condition" = true := by first | (simp [plainName, overriddenIn]; done) | decide +kernel
def Q_rm_ra (a : Addr) (p1 : Int32) (wA wO : Addr) (h0 : Heap) (n0 : Nat) (v : Option Value) (h : Heap) (L : List Loc) : Prop := v = some (.int (if a = wA then (if p1 = 0 then 1 else 0) else (if p1 = 0 then 0 else 1))) ∧ Fr n0 L ∧ h = h0
set_option maxRecDepth 65536 in
set_option maxHeartbeats 40000000 in
theorem rm_ra (l : Launch) (Z : State) (a0 : Array Value) (hw : ∀ d ∈ tables_1, d.before a0 Z = true) (ws : List Jvm.Cond) (a : Addr) (p1 : Int32) (wA wO : Addr) (h0 : Heap) (n0 : Nat) (O0 : Old Z n0 h0) (SwA : Sta Z Z.heap "com/example/pipewright/pipewright/core/AndOr$Condition" "AND" "Lcom/example/pipewright/pipewright/core/AndOr$Condition;" (.ref wA)) (SwO : Sta Z Z.heap "com/example/pipewright/pipewright/core/AndOr$Condition" "OR" "Lcom/example/pipewright/pipewright/core/AndOr$Condition;" (.ref wO)) :
    Meets l (⟨"com/example/pipewright/pipewright/core/AndOr$Condition", "runsAfter", "(I)Z"⟩ : MethodName) prog_37_method_4_code 2 (some .boolean) ws ({ frames := 0, cells := 0, slots := 0, locals := 0 } : Room) Z #[(.ref a), (.int p1)] h0 (Q_rm_ra a p1 wA wO h0 n0) 0 0 := by
  refine enter (Ls := #[.val (.ref a), .val (.int p1)]) (plainFor_of_name pn_0) (fun m => by first | rfl | (simp [entryFrame, mkF, argsToLocals, Value.category]; done)) ?_
  intro p e s m below meth c T0 hx hby hml hown hnm hret hlk hZ X0 e0
  have N0 := Fr.nil n0
  replace hown : s.vm.findClass "com/example/pipewright/pipewright/core/AndOr$Condition" = some m.cls := hown
  show Run p e below _ (T0.setTop (mkF m 0 #[.val (.ref a), .val (.int p1)] []))
  refine go (fun _ => XS.iloadN X0.here hx rfl (hb hby d_p37_m4_0) rfl) ?_
  show Run p e below _ (T0.setTop (mkF m 1 #[.val (.ref a), .val (.int p1)] [(.int p1)]))
  by_cases c1 : p1 = 0
  · skip
    refine go (fun _ => XS.ifNo X0.here hx rfl (hb hby d_p37_m4_1) rfl ((if0 _ _).trans (teq c1).2)) ?_
    show Run p e below _ (T0.setTop (mkF m 4 #[.val (.ref a), .val (.int p1)] []))
    refine go (fun _ => XS.iconst X0.here hx rfl (hb hby d_p37_m4_4)) ?_
    show Run p e below _ (T0.setTop (mkF m 5 #[.val (.ref a), .val (.int p1)] [(.int (1 : Int32))]))
    refine go (fun _ => XS.goto X0.here hx rfl (pc0 := 5) (pc' := 9) rfl (hb hby d_p37_m4_5) (by decide) (by decide)) ?_
    show Run p e below _ (T0.setTop (mkF m 9 #[.val (.ref a), .val (.int p1)] [(.int (1 : Int32))]))
    refine go (fun _ => XS.aloadN X0.here hx rfl (hb hby d_p37_m4_9) rfl rfl) ?_
    show Run p e below _ (T0.setTop (mkF m 10 #[.val (.ref a), .val (.int p1)] [(.ref a), (.int (1 : Int32))]))
    obtain ⟨T2, X2, e2, st2⟩ := getS2 X0 hx hZ hown (host := "") (Or.inl (wd hw 10 rfl)) Via.refl e0 (SwA.ext O0.2) (g := (mkF m 10 #[.val (.ref a), .val (.int p1)] [(.ref a), (.int (1 : Int32))])) rfl (hb hby d_p37_m4_10)
    refine go st2 ?_
    show Run p e below _ (T2.setTop (mkF m 13 #[.val (.ref a), .val (.int p1)] [(.ref wA), (.ref a), (.int (1 : Int32))]))
    by_cases c3 : a = wA
    · skip
      refine go (fun _ => acmp X2 hx rfl (x := (.ref a)) (y := (.ref wA)) rfl rfl (pc0 := 13) (pc' := 16) (same := true) rfl (hb hby d_p37_m4_13) rfl (by simp [c3]) (by decide) (by decide)) ?_
      show Run p e below _ (T2.setTop (mkF m 16 #[.val (.ref a), .val (.int p1)] [(.int (1 : Int32))]))
      refine go (fun _ => XS.iconst X2.here hx rfl (hb hby d_p37_m4_16)) ?_
      show Run p e below _ (T2.setTop (mkF m 17 #[.val (.ref a), .val (.int p1)] [(.int (1 : Int32)), (.int (1 : Int32))]))
      refine go (fun _ => XS.goto X2.here hx rfl (pc0 := 17) (pc' := 21) rfl (hb hby d_p37_m4_17) (by decide) (by decide)) ?_
      show Run p e below _ (T2.setTop (mkF m 21 #[.val (.ref a), .val (.int p1)] [(.int (1 : Int32)), (.int (1 : Int32))]))
      refine go (fun _ => XS.icmpNo X2.here hx rfl (hb hby d_p37_m4_21) rfl (teq (by decide : (1 : Int32) = 1)).2) ?_
      show Run p e below _ (T2.setTop (mkF m 24 #[.val (.ref a), .val (.int p1)] []))
      refine go (fun _ => XS.iconst X2.here hx rfl (hb hby d_p37_m4_24)) ?_
      show Run p e below _ (T2.setTop (mkF m 25 #[.val (.ref a), .val (.int p1)] [(.int (1 : Int32))]))
      refine go (fun _ => XS.goto X2.here hx rfl (pc0 := 25) (pc' := 29) rfl (hb hby d_p37_m4_25) (by decide) (by decide)) ?_
      show Run p e below _ (T2.setTop (mkF m 29 #[.val (.ref a), .val (.int p1)] [(.int (1 : Int32))]))
      exact endN X2 hx hlk (t := .boolean) hret (by simp) (hb hby d_p37_m4_29) (⟨by simp only [c1, c3, if_true, if_false, reduceIte]; rfl, N0, e2⟩) (by decide) (by decide)
    · skip
      refine go (fun _ => acmp X2 hx rfl (x := (.ref a)) (y := (.ref wA)) rfl rfl (pc0 := 13) (pc' := 20) (same := false) rfl (hb hby d_p37_m4_13) rfl (by simp [c3]) (by decide) (by decide)) ?_
      show Run p e below _ (T2.setTop (mkF m 20 #[.val (.ref a), .val (.int p1)] [(.int (1 : Int32))]))
      refine go (fun _ => XS.iconst X2.here hx rfl (hb hby d_p37_m4_20)) ?_
      show Run p e below _ (T2.setTop (mkF m 21 #[.val (.ref a), .val (.int p1)] [(.int (0 : Int32)), (.int (1 : Int32))]))
      refine go (fun _ => XS.icmpYes X2.here hx rfl (pc0 := 21) (pc' := 28) rfl (hb hby d_p37_m4_21) rfl (feq (by decide : ¬ ((1 : Int32) = 0))).2 (by decide) (by decide)) ?_
      show Run p e below _ (T2.setTop (mkF m 28 #[.val (.ref a), .val (.int p1)] []))
      refine go (fun _ => XS.iconst X2.here hx rfl (hb hby d_p37_m4_28)) ?_
      show Run p e below _ (T2.setTop (mkF m 29 #[.val (.ref a), .val (.int p1)] [(.int (0 : Int32))]))
      exact endN X2 hx hlk (t := .boolean) hret (by simp) (hb hby d_p37_m4_29) (⟨by simp only [c1, c3, if_true, if_false, reduceIte]; rfl, N0, e2⟩) (by decide) (by decide)
  · skip
    refine go (fun _ => XS.ifYes X0.here hx rfl (pc0 := 1) (pc' := 8) rfl (hb hby d_p37_m4_1) rfl ((if0 _ _).trans (feq c1).2) (by decide) (by decide)) ?_
    show Run p e below _ (T0.setTop (mkF m 8 #[.val (.ref a), .val (.int p1)] []))
    refine go (fun _ => XS.iconst X0.here hx rfl (hb hby d_p37_m4_8)) ?_
    show Run p e below _ (T0.setTop (mkF m 9 #[.val (.ref a), .val (.int p1)] [(.int (0 : Int32))]))
    refine go (fun _ => XS.aloadN X0.here hx rfl (hb hby d_p37_m4_9) rfl rfl) ?_
    show Run p e below _ (T0.setTop (mkF m 10 #[.val (.ref a), .val (.int p1)] [(.ref a), (.int (0 : Int32))]))
    obtain ⟨T4, X4, e4, st4⟩ := getS2 X0 hx hZ hown (host := "") (Or.inl (wd hw 10 rfl)) Via.refl e0 (SwA.ext O0.2) (g := (mkF m 10 #[.val (.ref a), .val (.int p1)] [(.ref a), (.int (0 : Int32))])) rfl (hb hby d_p37_m4_10)
    refine go st4 ?_
    show Run p e below _ (T4.setTop (mkF m 13 #[.val (.ref a), .val (.int p1)] [(.ref wA), (.ref a), (.int (0 : Int32))]))
    by_cases c5 : a = wA
    · skip
      refine go (fun _ => acmp X4 hx rfl (x := (.ref a)) (y := (.ref wA)) rfl rfl (pc0 := 13) (pc' := 16) (same := true) rfl (hb hby d_p37_m4_13) rfl (by simp [c5]) (by decide) (by decide)) ?_
      show Run p e below _ (T4.setTop (mkF m 16 #[.val (.ref a), .val (.int p1)] [(.int (0 : Int32))]))
      refine go (fun _ => XS.iconst X4.here hx rfl (hb hby d_p37_m4_16)) ?_
      show Run p e below _ (T4.setTop (mkF m 17 #[.val (.ref a), .val (.int p1)] [(.int (1 : Int32)), (.int (0 : Int32))]))
      refine go (fun _ => XS.goto X4.here hx rfl (pc0 := 17) (pc' := 21) rfl (hb hby d_p37_m4_17) (by decide) (by decide)) ?_
      show Run p e below _ (T4.setTop (mkF m 21 #[.val (.ref a), .val (.int p1)] [(.int (1 : Int32)), (.int (0 : Int32))]))
      refine go (fun _ => XS.icmpYes X4.here hx rfl (pc0 := 21) (pc' := 28) rfl (hb hby d_p37_m4_21) rfl (feq (by decide : ¬ ((0 : Int32) = 1))).2 (by decide) (by decide)) ?_
      show Run p e below _ (T4.setTop (mkF m 28 #[.val (.ref a), .val (.int p1)] []))
      refine go (fun _ => XS.iconst X4.here hx rfl (hb hby d_p37_m4_28)) ?_
      show Run p e below _ (T4.setTop (mkF m 29 #[.val (.ref a), .val (.int p1)] [(.int (0 : Int32))]))
      exact endN X4 hx hlk (t := .boolean) hret (by simp) (hb hby d_p37_m4_29) (⟨by simp only [c1, c5, if_true, if_false, reduceIte]; rfl, N0, e4⟩) (by decide) (by decide)
    · skip
      refine go (fun _ => acmp X4 hx rfl (x := (.ref a)) (y := (.ref wA)) rfl rfl (pc0 := 13) (pc' := 20) (same := false) rfl (hb hby d_p37_m4_13) rfl (by simp [c5]) (by decide) (by decide)) ?_
      show Run p e below _ (T4.setTop (mkF m 20 #[.val (.ref a), .val (.int p1)] [(.int (0 : Int32))]))
      refine go (fun _ => XS.iconst X4.here hx rfl (hb hby d_p37_m4_20)) ?_
      show Run p e below _ (T4.setTop (mkF m 21 #[.val (.ref a), .val (.int p1)] [(.int (0 : Int32)), (.int (0 : Int32))]))
      refine go (fun _ => XS.icmpNo X4.here hx rfl (hb hby d_p37_m4_21) rfl (teq (by decide : (0 : Int32) = 0)).2) ?_
      show Run p e below _ (T4.setTop (mkF m 24 #[.val (.ref a), .val (.int p1)] []))
      refine go (fun _ => XS.iconst X4.here hx rfl (hb hby d_p37_m4_24)) ?_
      show Run p e below _ (T4.setTop (mkF m 25 #[.val (.ref a), .val (.int p1)] [(.int (1 : Int32))]))
      refine go (fun _ => XS.goto X4.here hx rfl (pc0 := 25) (pc' := 29) rfl (hb hby d_p37_m4_25) (by decide) (by decide)) ?_
      show Run p e below _ (T4.setTop (mkF m 29 #[.val (.ref a), .val (.int p1)] [(.int (1 : Int32))]))
      exact endN X4 hx hlk (t := .boolean) hret (by simp) (hb hby d_p37_m4_29) (⟨by simp only [c1, c5, if_true, if_false, reduceIte]; rfl, N0, e4⟩) (by decide) (by decide)
theorem pd_0 : parseMethodDescriptor "(I)Z" = some ⟨[.int], some .boolean⟩ := by decide +kernel
theorem pn_1 : plainName "com/example/pipewright/pipewright/core/AndOrConditionRunsAfterPinLaw" = true := by first | (simp [plainName, overriddenIn]; done) | decide +kernel
def Q_rmlaw (p0 p1 : Int32) (wA wO : Addr) (h0 : Heap) (n0 : Nat) (v : Option Value) (h : Heap) (L : List Loc) : Prop := v = some (.int 1) ∧ Fr n0 L
set_option maxRecDepth 65536 in
set_option maxHeartbeats 40000000 in
theorem rmlaw (l : Launch) (Z : State) (a0 : Array Value) (hw : ∀ d ∈ tables_1, d.before a0 Z = true) (ws : List Jvm.Cond) (p0 p1 : Int32) (wA wO : Addr) (h0 : Heap) (n0 : Nat) (O0 : Old Z n0 h0) (SwA : Sta Z Z.heap "com/example/pipewright/pipewright/core/AndOr$Condition" "AND" "Lcom/example/pipewright/pipewright/core/AndOr$Condition;" (.ref wA)) (SwO : Sta Z Z.heap "com/example/pipewright/pipewright/core/AndOr$Condition" "OR" "Lcom/example/pipewright/pipewright/core/AndOr$Condition;" (.ref wO)) (EwA : Exa Z Z.heap wA "com/example/pipewright/pipewright/core/AndOr$Condition") (EwO : Exa Z Z.heap wO "com/example/pipewright/pipewright/core/AndOr$Condition") (hAO : wA ≠ wO) :
    Meets l x code maxLocals ret ws room_1 Z #[(.int p0), (.int p1)] h0 (Q_rmlaw p0 p1 wA wO h0 n0) 0 0 := by
  refine enter (Ls := #[.val (.int p0), .val (.int p1), .unset, .unset, .unset, .unset, .unset, .unset, .unset]) (plainFor_of_name pn_1) (fun m => by first | rfl | (simp [entryFrame, mkF, argsToLocals, Value.category]; done)) ?_
  intro p e s m below meth c T0 hx hby hml hown hnm hret hlk hZ X0 e0
  have N0 := Fr.nil n0
  replace hown : s.vm.findClass "com/example/pipewright/pipewright/core/AndOrConditionRunsAfterPinLaw" = some m.cls := hown
  show Run p e below _ (T0.setTop (mkF m 0 #[.val (.int p0), .val (.int p1), .unset, .unset, .unset, .unset, .unset, .unset, .unset] []))
  refine go (fun _ => XS.iloadN X0.here hx rfl (hb hby at_0) rfl) ?_
  show Run p e below _ (T0.setTop (mkF m 1 #[.val (.int p0), .val (.int p1), .unset, .unset, .unset, .unset, .unset, .unset, .unset] [(.int p0)]))
  refine go (fun _ => XS.iconst X0.here hx rfl (hb hby at_1)) ?_
  show Run p e below _ (T0.setTop (mkF m 2 #[.val (.int p0), .val (.int p1), .unset, .unset, .unset, .unset, .unset, .unset, .unset] [(.int (1 : Int32)), (.int p0)]))
  refine go (fun _ => XS.iand X0.here hx rfl (hb hby at_2) rfl) ?_
  show Run p e below _ (T0.setTop (mkF m 3 #[.val (.int p0), .val (.int p1), .unset, .unset, .unset, .unset, .unset, .unset, .unset] [(.int (p0 &&& (1 : Int32)))]))
  by_cases c6 : (p0 &&& (1 : Int32)) = 0
  · skip
    refine go (fun _ => XS.ifYes X0.here hx rfl (pc0 := 3) (pc' := 10) rfl (hb hby at_3) rfl ((if0 _ _).trans (teq c6).1) (by decide) (by decide)) ?_
    show Run p e below _ (T0.setTop (mkF m 10 #[.val (.int p0), .val (.int p1), .unset, .unset, .unset, .unset, .unset, .unset, .unset] []))
    refine go (fun _ => XS.iconst X0.here hx rfl (hb hby at_10)) ?_
    show Run p e below _ (T0.setTop (mkF m 11 #[.val (.int p0), .val (.int p1), .unset, .unset, .unset, .unset, .unset, .unset, .unset] [(.int (0 : Int32))]))
    refine go (fun _ => XS.istoreN X0.here hx rfl (hb hby at_11) rfl (l' := #[.val (.int p0), .val (.int p1), .val (.int (0 : Int32)), .unset, .unset, .unset, .unset, .unset, .unset]) rfl) ?_
    show Run p e below _ (T0.setTop (mkF m 12 #[.val (.int p0), .val (.int p1), .val (.int (0 : Int32)), .unset, .unset, .unset, .unset, .unset, .unset] []))
    refine go (fun _ => XS.iloadN X0.here hx rfl (hb hby at_12) rfl) ?_
    show Run p e below _ (T0.setTop (mkF m 13 #[.val (.int p0), .val (.int p1), .val (.int (0 : Int32)), .unset, .unset, .unset, .unset, .unset, .unset] [(.int p0)]))
    refine go (fun _ => XS.iconst X0.here hx rfl (hb hby at_13)) ?_
    show Run p e below _ (T0.setTop (mkF m 14 #[.val (.int p0), .val (.int p1), .val (.int (0 : Int32)), .unset, .unset, .unset, .unset, .unset, .unset] [(.int (2 : Int32)), (.int p0)]))
    refine go (fun _ => XS.iand X0.here hx rfl (hb hby at_14) rfl) ?_
    show Run p e below _ (T0.setTop (mkF m 15 #[.val (.int p0), .val (.int p1), .val (.int (0 : Int32)), .unset, .unset, .unset, .unset, .unset, .unset] [(.int (p0 &&& (2 : Int32)))]))
    by_cases c7 : (p0 &&& (2 : Int32)) = 0
    · skip
      refine go (fun _ => XS.ifYes X0.here hx rfl (pc0 := 15) (pc' := 22) rfl (hb hby at_15) rfl ((if0 _ _).trans (teq c7).1) (by decide) (by decide)) ?_
      show Run p e below _ (T0.setTop (mkF m 22 #[.val (.int p0), .val (.int p1), .val (.int (0 : Int32)), .unset, .unset, .unset, .unset, .unset, .unset] []))
      refine go (fun _ => XS.iloadN X0.here hx rfl (hb hby at_22) rfl) ?_
      show Run p e below _ (T0.setTop (mkF m 23 #[.val (.int p0), .val (.int p1), .val (.int (0 : Int32)), .unset, .unset, .unset, .unset, .unset, .unset] [(.int p1)]))
      refine go (fun _ => XS.istoreN X0.here hx rfl (hb hby at_23) rfl (l' := #[.val (.int p0), .val (.int p1), .val (.int (0 : Int32)), .val (.int p1), .unset, .unset, .unset, .unset, .unset]) rfl) ?_
      show Run p e below _ (T0.setTop (mkF m 24 #[.val (.int p0), .val (.int p1), .val (.int (0 : Int32)), .val (.int p1), .unset, .unset, .unset, .unset, .unset] []))
      refine go (fun _ => XS.iloadN X0.here hx rfl (hb hby at_24) rfl) ?_
      show Run p e below _ (T0.setTop (mkF m 25 #[.val (.int p0), .val (.int p1), .val (.int (0 : Int32)), .val (.int p1), .unset, .unset, .unset, .unset, .unset] [(.int (0 : Int32))]))
      refine go (fun _ => XS.ifYes X0.here hx rfl (pc0 := 25) (pc' := 34) rfl (hb hby at_25) rfl ((if0 _ _).trans (teq (by decide : (0 : Int32) = 0)).1) (by decide) (by decide)) ?_
      show Run p e below _ (T0.setTop (mkF m 34 #[.val (.int p0), .val (.int p1), .val (.int (0 : Int32)), .val (.int p1), .unset, .unset, .unset, .unset, .unset] []))
      obtain ⟨T8, X8, e8, st8⟩ := getS2 X0 hx hZ hown (host := "") (Or.inl (wd hw 0 rfl)) Via.refl e0 (SwO.ext O0.2) (g := (mkF m 34 #[.val (.int p0), .val (.int p1), .val (.int (0 : Int32)), .val (.int p1), .unset, .unset, .unset, .unset, .unset] [])) rfl (hb hby at_34)
      refine go st8 ?_
      show Run p e below _ (T8.setTop (mkF m 37 #[.val (.int p0), .val (.int p1), .val (.int (0 : Int32)), .val (.int p1), .unset, .unset, .unset, .unset, .unset] [(.ref wO)]))
      refine go (fun _ => XS.astore X8.here hx rfl (hb hby at_37) rfl rfl (l' := #[.val (.int p0), .val (.int p1), .val (.int (0 : Int32)), .val (.int p1), .val (.ref wO), .unset, .unset, .unset, .unset]) rfl) ?_
      show Run p e below _ (T8.setTop (mkF m 39 #[.val (.int p0), .val (.int p1), .val (.int (0 : Int32)), .val (.int p1), .val (.ref wO), .unset, .unset, .unset, .unset] []))
      refine go (fun _ => XS.iloadN X8.here hx rfl (hb hby at_39) rfl) ?_
      show Run p e below _ (T8.setTop (mkF m 40 #[.val (.int p0), .val (.int p1), .val (.int (0 : Int32)), .val (.int p1), .val (.ref wO), .unset, .unset, .unset, .unset] [(.int (0 : Int32))]))
      refine go (fun _ => XS.ifYes X8.here hx rfl (pc0 := 40) (pc' := 49) rfl (hb hby at_40) rfl ((if0 _ _).trans (teq (by decide : (0 : Int32) = 0)).1) (by decide) (by decide)) ?_
      show Run p e below _ (T8.setTop (mkF m 49 #[.val (.int p0), .val (.int p1), .val (.int (0 : Int32)), .val (.int p1), .val (.ref wO), .unset, .unset, .unset, .unset] []))
      obtain ⟨T9, X9, e9, st9⟩ := getS2 X8 hx hZ hown (host := "") (Or.inl (wd hw 3 rfl)) Via.refl e8 (SwA.ext O0.2) (g := (mkF m 49 #[.val (.int p0), .val (.int p1), .val (.int (0 : Int32)), .val (.int p1), .val (.ref wO), .unset, .unset, .unset, .unset] [])) rfl (hb hby at_49)
      refine go st9 ?_
      show Run p e below _ (T9.setTop (mkF m 52 #[.val (.int p0), .val (.int p1), .val (.int (0 : Int32)), .val (.int p1), .val (.ref wO), .unset, .unset, .unset, .unset] [(.ref wA)]))
      refine go (fun _ => XS.astore X9.here hx rfl (hb hby at_52) rfl rfl (l' := #[.val (.int p0), .val (.int p1), .val (.int (0 : Int32)), .val (.int p1), .val (.ref wO), .val (.ref wA), .unset, .unset, .unset]) rfl) ?_
      show Run p e below _ (T9.setTop (mkF m 54 #[.val (.int p0), .val (.int p1), .val (.int (0 : Int32)), .val (.int p1), .val (.ref wO), .val (.ref wA), .unset, .unset, .unset] []))
      refine go (fun _ => XS.iloadN X9.here hx rfl (hb hby at_54) rfl) ?_
      show Run p e below _ (T9.setTop (mkF m 55 #[.val (.int p0), .val (.int p1), .val (.int (0 : Int32)), .val (.int p1), .val (.ref wO), .val (.ref wA), .unset, .unset, .unset] [(.int (0 : Int32))]))
      refine go (fun _ => XS.ifYes X9.here hx rfl (pc0 := 55) (pc' := 72) rfl (hb hby at_55) rfl ((if0 _ _).trans (teq (by decide : (0 : Int32) = 0)).1) (by decide) (by decide)) ?_
      show Run p e below _ (T9.setTop (mkF m 72 #[.val (.int p0), .val (.int p1), .val (.int (0 : Int32)), .val (.int p1), .val (.ref wO), .val (.ref wA), .unset, .unset, .unset] []))
      refine go (fun _ => XS.iloadN X9.here hx rfl (hb hby at_72) rfl) ?_
      show Run p e below _ (T9.setTop (mkF m 73 #[.val (.int p0), .val (.int p1), .val (.int (0 : Int32)), .val (.int p1), .val (.ref wO), .val (.ref wA), .unset, .unset, .unset] [(.int p1)]))
      by_cases c10 : p1 = 0
      · skip
        refine go (fun _ => XS.ifYes X9.here hx rfl (pc0 := 73) (pc' := 80) rfl (hb hby at_73) rfl ((if0 _ _).trans (teq c10).1) (by decide) (by decide)) ?_
        show Run p e below _ (T9.setTop (mkF m 80 #[.val (.int p0), .val (.int p1), .val (.int (0 : Int32)), .val (.int p1), .val (.ref wO), .val (.ref wA), .unset, .unset, .unset] []))
        refine go (fun _ => XS.iconst X9.here hx rfl (hb hby at_80)) ?_
        show Run p e below _ (T9.setTop (mkF m 81 #[.val (.int p0), .val (.int p1), .val (.int (0 : Int32)), .val (.int p1), .val (.ref wO), .val (.ref wA), .unset, .unset, .unset] [(.int (0 : Int32))]))
        refine go (fun _ => XS.istore X9.here hx rfl (hb hby at_81) rfl (l' := #[.val (.int p0), .val (.int p1), .val (.int (0 : Int32)), .val (.int p1), .val (.ref wO), .val (.ref wA), .val (.int (0 : Int32)), .unset, .unset]) rfl) ?_
        show Run p e below _ (T9.setTop (mkF m 83 #[.val (.int p0), .val (.int p1), .val (.int (0 : Int32)), .val (.int p1), .val (.ref wO), .val (.ref wA), .val (.int (0 : Int32)), .unset, .unset] []))
        refine go (fun _ => XS.aload X9.here hx rfl (hb hby at_83) rfl rfl) ?_
        show Run p e below _ (T9.setTop (mkF m 85 #[.val (.int p0), .val (.int p1), .val (.int (0 : Int32)), .val (.int p1), .val (.ref wO), .val (.ref wA), .val (.int (0 : Int32)), .unset, .unset] [(.ref wO)]))
        refine go (fun _ => XS.iloadN X9.here hx rfl (hb hby at_85) rfl) ?_
        show Run p e below _ (T9.setTop (mkF m 86 #[.val (.int p0), .val (.int p1), .val (.int (0 : Int32)), .val (.int p1), .val (.ref wO), .val (.ref wA), .val (.int (0 : Int32)), .unset, .unset] [(.int p1), (.ref wO)]))
        refine callVi X9 hx hZ hown (wd hw 5 rfl) (wd hw 6 rfl) (notFace_of_selects (args := #[]) (mvT hZ (wd hw 8 rfl))) (wd hw 8 rfl) (wd hw 7 rfl) (wd hw 9 rfl) (wd hw 1 rfl) (by decide) e9 (EwO.ext O0.2) (argsL := [(.int p1)]) (rest := []) (rm_ra l Z a0 hw [] wO p1 wA wO h0 n0 O0 SwA SwO) (W := 0) (by decide) (by decide) (by decide) (by decide) (by rw [hml]; rfl) (lenOf pd_0 rfl) rfl (by decide) (hb hby at_86) ?_
        intro v11 T11 L11 h11 X11 e11 q11
        obtain ⟨rv, n11, k11⟩ := q11
        replace rv : v11 = some (.int (0 : Int32)) := by simpa [hAO, hAO.symm, c10] using rv
        subst rv
        have e11 := e11.trans k11
        have N11 := Fr.app N0 n11
        show Run p e below _ (T11.setTop (mkF m 89 #[.val (.int p0), .val (.int p1), .val (.int (0 : Int32)), .val (.int p1), .val (.ref wO), .val (.ref wA), .val (.int (0 : Int32)), .unset, .unset] [(.int (0 : Int32))]))
        refine go (fun _ => XS.istore X11.here hx rfl (hb hby at_89) rfl (l' := #[.val (.int p0), .val (.int p1), .val (.int (0 : Int32)), .val (.int p1), .val (.ref wO), .val (.ref wA), .val (.int (0 : Int32)), .val (.int (0 : Int32)), .unset]) rfl) ?_
        show Run p e below _ (T11.setTop (mkF m 91 #[.val (.int p0), .val (.int p1), .val (.int (0 : Int32)), .val (.int p1), .val (.ref wO), .val (.ref wA), .val (.int (0 : Int32)), .val (.int (0 : Int32)), .unset] []))
        refine go (fun _ => XS.aload X11.here hx rfl (hb hby at_91) rfl rfl) ?_
        show Run p e below _ (T11.setTop (mkF m 93 #[.val (.int p0), .val (.int p1), .val (.int (0 : Int32)), .val (.int p1), .val (.ref wO), .val (.ref wA), .val (.int (0 : Int32)), .val (.int (0 : Int32)), .unset] [(.ref wA)]))
        refine go (fun _ => XS.iloadN X11.here hx rfl (hb hby at_93) rfl) ?_
        show Run p e below _ (T11.setTop (mkF m 94 #[.val (.int p0), .val (.int p1), .val (.int (0 : Int32)), .val (.int p1), .val (.ref wO), .val (.ref wA), .val (.int (0 : Int32)), .val (.int (0 : Int32)), .unset] [(.int p1), (.ref wA)]))
        refine callVi X11 hx hZ hown (wd hw 5 rfl) (wd hw 6 rfl) (notFace_of_selects (args := #[]) (mvT hZ (wd hw 8 rfl))) (wd hw 8 rfl) (wd hw 7 rfl) (wd hw 9 rfl) (wd hw 1 rfl) (by decide) e11 (EwA.ext O0.2) (argsL := [(.int p1)]) (rest := []) (rm_ra l Z a0 hw [] wA p1 wA wO h0 n0 O0 SwA SwO) (W := 0) (by decide) (by decide) (by decide) (by decide) (by rw [hml]; rfl) (lenOf pd_0 rfl) rfl (by decide) (hb hby at_94) ?_
        intro v12 T12 L12 h12 X12 e12 q12
        obtain ⟨rv, n12, k12⟩ := q12
        replace rv : v12 = some (.int (1 : Int32)) := by simpa [hAO, hAO.symm, c10] using rv
        subst rv
        have e12 := e12.trans k12
        have N12 := Fr.app N11 n12
        show Run p e below _ (T12.setTop (mkF m 97 #[.val (.int p0), .val (.int p1), .val (.int (0 : Int32)), .val (.int p1), .val (.ref wO), .val (.ref wA), .val (.int (0 : Int32)), .val (.int (0 : Int32)), .unset] [(.int (1 : Int32))]))
        refine go (fun _ => XS.istore X12.here hx rfl (hb hby at_97) rfl (l' := #[.val (.int p0), .val (.int p1), .val (.int (0 : Int32)), .val (.int p1), .val (.ref wO), .val (.ref wA), .val (.int (0 : Int32)), .val (.int (0 : Int32)), .val (.int (1 : Int32))]) rfl) ?_
        show Run p e below _ (T12.setTop (mkF m 99 #[.val (.int p0), .val (.int p1), .val (.int (0 : Int32)), .val (.int p1), .val (.ref wO), .val (.ref wA), .val (.int (0 : Int32)), .val (.int (0 : Int32)), .val (.int (1 : Int32))] []))
        refine go (fun _ => XS.iload X12.here hx rfl (hb hby at_99) rfl) ?_
        show Run p e below _ (T12.setTop (mkF m 101 #[.val (.int p0), .val (.int p1), .val (.int (0 : Int32)), .val (.int p1), .val (.ref wO), .val (.ref wA), .val (.int (0 : Int32)), .val (.int (0 : Int32)), .val (.int (1 : Int32))] [(.int (0 : Int32))]))
        refine go (fun _ => XS.iload X12.here hx rfl (hb hby at_101) rfl) ?_
        show Run p e below _ (T12.setTop (mkF m 103 #[.val (.int p0), .val (.int p1), .val (.int (0 : Int32)), .val (.int p1), .val (.ref wO), .val (.ref wA), .val (.int (0 : Int32)), .val (.int (0 : Int32)), .val (.int (1 : Int32))] [(.int (0 : Int32)), (.int (0 : Int32))]))
        refine go (fun _ => XS.icmpNo X12.here hx rfl (hb hby at_103) rfl (teq (by decide : (0 : Int32) = 0)).2) ?_
        show Run p e below _ (T12.setTop (mkF m 106 #[.val (.int p0), .val (.int p1), .val (.int (0 : Int32)), .val (.int p1), .val (.ref wO), .val (.ref wA), .val (.int (0 : Int32)), .val (.int (0 : Int32)), .val (.int (1 : Int32))] []))
        refine go (fun _ => XS.iload X12.here hx rfl (hb hby at_106) rfl) ?_
        show Run p e below _ (T12.setTop (mkF m 108 #[.val (.int p0), .val (.int p1), .val (.int (0 : Int32)), .val (.int p1), .val (.ref wO), .val (.ref wA), .val (.int (0 : Int32)), .val (.int (0 : Int32)), .val (.int (1 : Int32))] [(.int (1 : Int32))]))
        refine go (fun _ => XS.iload X12.here hx rfl (hb hby at_108) rfl) ?_
        show Run p e below _ (T12.setTop (mkF m 110 #[.val (.int p0), .val (.int p1), .val (.int (0 : Int32)), .val (.int p1), .val (.ref wO), .val (.ref wA), .val (.int (0 : Int32)), .val (.int (0 : Int32)), .val (.int (1 : Int32))] [(.int (0 : Int32)), (.int (1 : Int32))]))
        refine go (fun _ => XS.icmpNo X12.here hx rfl (hb hby at_110) rfl (feq (by decide : ¬ ((1 : Int32) = 0))).1) ?_
        show Run p e below _ (T12.setTop (mkF m 113 #[.val (.int p0), .val (.int p1), .val (.int (0 : Int32)), .val (.int p1), .val (.ref wO), .val (.ref wA), .val (.int (0 : Int32)), .val (.int (0 : Int32)), .val (.int (1 : Int32))] []))
        refine go (fun _ => XS.iconst X12.here hx rfl (hb hby at_113)) ?_
        show Run p e below _ (T12.setTop (mkF m 114 #[.val (.int p0), .val (.int p1), .val (.int (0 : Int32)), .val (.int p1), .val (.ref wO), .val (.ref wA), .val (.int (0 : Int32)), .val (.int (0 : Int32)), .val (.int (1 : Int32))] [(.int (1 : Int32))]))
        refine go (fun _ => XS.goto X12.here hx rfl (pc0 := 114) (pc' := 118) rfl (hb hby at_114) (by decide) (by decide)) ?_
        show Run p e below _ (T12.setTop (mkF m 118 #[.val (.int p0), .val (.int p1), .val (.int (0 : Int32)), .val (.int p1), .val (.ref wO), .val (.ref wA), .val (.int (0 : Int32)), .val (.int (0 : Int32)), .val (.int (1 : Int32))] [(.int (1 : Int32))]))
        exact endN X12 hx hlk (t := .boolean) hret (by simp) (hb hby at_118) (⟨rfl, N12⟩) (by decide) (by decide)
      · skip
        refine go (fun _ => XS.ifNo X9.here hx rfl (hb hby at_73) rfl ((if0 _ _).trans (feq c10).1)) ?_
        show Run p e below _ (T9.setTop (mkF m 76 #[.val (.int p0), .val (.int p1), .val (.int (0 : Int32)), .val (.int p1), .val (.ref wO), .val (.ref wA), .unset, .unset, .unset] []))
        refine go (fun _ => XS.iconst X9.here hx rfl (hb hby at_76)) ?_
        show Run p e below _ (T9.setTop (mkF m 77 #[.val (.int p0), .val (.int p1), .val (.int (0 : Int32)), .val (.int p1), .val (.ref wO), .val (.ref wA), .unset, .unset, .unset] [(.int (1 : Int32))]))
        refine go (fun _ => XS.goto X9.here hx rfl (pc0 := 77) (pc' := 81) rfl (hb hby at_77) (by decide) (by decide)) ?_
        show Run p e below _ (T9.setTop (mkF m 81 #[.val (.int p0), .val (.int p1), .val (.int (0 : Int32)), .val (.int p1), .val (.ref wO), .val (.ref wA), .unset, .unset, .unset] [(.int (1 : Int32))]))
        refine go (fun _ => XS.istore X9.here hx rfl (hb hby at_81) rfl (l' := #[.val (.int p0), .val (.int p1), .val (.int (0 : Int32)), .val (.int p1), .val (.ref wO), .val (.ref wA), .val (.int (1 : Int32)), .unset, .unset]) rfl) ?_
        show Run p e below _ (T9.setTop (mkF m 83 #[.val (.int p0), .val (.int p1), .val (.int (0 : Int32)), .val (.int p1), .val (.ref wO), .val (.ref wA), .val (.int (1 : Int32)), .unset, .unset] []))
        refine go (fun _ => XS.aload X9.here hx rfl (hb hby at_83) rfl rfl) ?_
        show Run p e below _ (T9.setTop (mkF m 85 #[.val (.int p0), .val (.int p1), .val (.int (0 : Int32)), .val (.int p1), .val (.ref wO), .val (.ref wA), .val (.int (1 : Int32)), .unset, .unset] [(.ref wO)]))
        refine go (fun _ => XS.iloadN X9.here hx rfl (hb hby at_85) rfl) ?_
        show Run p e below _ (T9.setTop (mkF m 86 #[.val (.int p0), .val (.int p1), .val (.int (0 : Int32)), .val (.int p1), .val (.ref wO), .val (.ref wA), .val (.int (1 : Int32)), .unset, .unset] [(.int p1), (.ref wO)]))
        refine callVi X9 hx hZ hown (wd hw 5 rfl) (wd hw 6 rfl) (notFace_of_selects (args := #[]) (mvT hZ (wd hw 8 rfl))) (wd hw 8 rfl) (wd hw 7 rfl) (wd hw 9 rfl) (wd hw 1 rfl) (by decide) e9 (EwO.ext O0.2) (argsL := [(.int p1)]) (rest := []) (rm_ra l Z a0 hw [] wO p1 wA wO h0 n0 O0 SwA SwO) (W := 0) (by decide) (by decide) (by decide) (by decide) (by rw [hml]; rfl) (lenOf pd_0 rfl) rfl (by decide) (hb hby at_86) ?_
        intro v13 T13 L13 h13 X13 e13 q13
        obtain ⟨rv, n13, k13⟩ := q13
        replace rv : v13 = some (.int (1 : Int32)) := by simpa [hAO, hAO.symm, c10] using rv
        subst rv
        have e13 := e13.trans k13
        have N13 := Fr.app N0 n13
        show Run p e below _ (T13.setTop (mkF m 89 #[.val (.int p0), .val (.int p1), .val (.int (0 : Int32)), .val (.int p1), .val (.ref wO), .val (.ref wA), .val (.int (1 : Int32)), .unset, .unset] [(.int (1 : Int32))]))
        refine go (fun _ => XS.istore X13.here hx rfl (hb hby at_89) rfl (l' := #[.val (.int p0), .val (.int p1), .val (.int (0 : Int32)), .val (.int p1), .val (.ref wO), .val (.ref wA), .val (.int (1 : Int32)), .val (.int (1 : Int32)), .unset]) rfl) ?_
        show Run p e below _ (T13.setTop (mkF m 91 #[.val (.int p0), .val (.int p1), .val (.int (0 : Int32)), .val (.int p1), .val (.ref wO), .val (.ref wA), .val (.int (1 : Int32)), .val (.int (1 : Int32)), .unset] []))
        refine go (fun _ => XS.aload X13.here hx rfl (hb hby at_91) rfl rfl) ?_
        show Run p e below _ (T13.setTop (mkF m 93 #[.val (.int p0), .val (.int p1), .val (.int (0 : Int32)), .val (.int p1), .val (.ref wO), .val (.ref wA), .val (.int (1 : Int32)), .val (.int (1 : Int32)), .unset] [(.ref wA)]))
        refine go (fun _ => XS.iloadN X13.here hx rfl (hb hby at_93) rfl) ?_
        show Run p e below _ (T13.setTop (mkF m 94 #[.val (.int p0), .val (.int p1), .val (.int (0 : Int32)), .val (.int p1), .val (.ref wO), .val (.ref wA), .val (.int (1 : Int32)), .val (.int (1 : Int32)), .unset] [(.int p1), (.ref wA)]))
        refine callVi X13 hx hZ hown (wd hw 5 rfl) (wd hw 6 rfl) (notFace_of_selects (args := #[]) (mvT hZ (wd hw 8 rfl))) (wd hw 8 rfl) (wd hw 7 rfl) (wd hw 9 rfl) (wd hw 1 rfl) (by decide) e13 (EwA.ext O0.2) (argsL := [(.int p1)]) (rest := []) (rm_ra l Z a0 hw [] wA p1 wA wO h0 n0 O0 SwA SwO) (W := 0) (by decide) (by decide) (by decide) (by decide) (by rw [hml]; rfl) (lenOf pd_0 rfl) rfl (by decide) (hb hby at_94) ?_
        intro v14 T14 L14 h14 X14 e14 q14
        obtain ⟨rv, n14, k14⟩ := q14
        replace rv : v14 = some (.int (0 : Int32)) := by simpa [hAO, hAO.symm, c10] using rv
        subst rv
        have e14 := e14.trans k14
        have N14 := Fr.app N13 n14
        show Run p e below _ (T14.setTop (mkF m 97 #[.val (.int p0), .val (.int p1), .val (.int (0 : Int32)), .val (.int p1), .val (.ref wO), .val (.ref wA), .val (.int (1 : Int32)), .val (.int (1 : Int32)), .unset] [(.int (0 : Int32))]))
        refine go (fun _ => XS.istore X14.here hx rfl (hb hby at_97) rfl (l' := #[.val (.int p0), .val (.int p1), .val (.int (0 : Int32)), .val (.int p1), .val (.ref wO), .val (.ref wA), .val (.int (1 : Int32)), .val (.int (1 : Int32)), .val (.int (0 : Int32))]) rfl) ?_
        show Run p e below _ (T14.setTop (mkF m 99 #[.val (.int p0), .val (.int p1), .val (.int (0 : Int32)), .val (.int p1), .val (.ref wO), .val (.ref wA), .val (.int (1 : Int32)), .val (.int (1 : Int32)), .val (.int (0 : Int32))] []))
        refine go (fun _ => XS.iload X14.here hx rfl (hb hby at_99) rfl) ?_
        show Run p e below _ (T14.setTop (mkF m 101 #[.val (.int p0), .val (.int p1), .val (.int (0 : Int32)), .val (.int p1), .val (.ref wO), .val (.ref wA), .val (.int (1 : Int32)), .val (.int (1 : Int32)), .val (.int (0 : Int32))] [(.int (1 : Int32))]))
        refine go (fun _ => XS.iload X14.here hx rfl (hb hby at_101) rfl) ?_
        show Run p e below _ (T14.setTop (mkF m 103 #[.val (.int p0), .val (.int p1), .val (.int (0 : Int32)), .val (.int p1), .val (.ref wO), .val (.ref wA), .val (.int (1 : Int32)), .val (.int (1 : Int32)), .val (.int (0 : Int32))] [(.int (1 : Int32)), (.int (1 : Int32))]))
        refine go (fun _ => XS.icmpNo X14.here hx rfl (hb hby at_103) rfl (teq (by decide : (1 : Int32) = 1)).2) ?_
        show Run p e below _ (T14.setTop (mkF m 106 #[.val (.int p0), .val (.int p1), .val (.int (0 : Int32)), .val (.int p1), .val (.ref wO), .val (.ref wA), .val (.int (1 : Int32)), .val (.int (1 : Int32)), .val (.int (0 : Int32))] []))
        refine go (fun _ => XS.iload X14.here hx rfl (hb hby at_106) rfl) ?_
        show Run p e below _ (T14.setTop (mkF m 108 #[.val (.int p0), .val (.int p1), .val (.int (0 : Int32)), .val (.int p1), .val (.ref wO), .val (.ref wA), .val (.int (1 : Int32)), .val (.int (1 : Int32)), .val (.int (0 : Int32))] [(.int (0 : Int32))]))
        refine go (fun _ => XS.iload X14.here hx rfl (hb hby at_108) rfl) ?_
        show Run p e below _ (T14.setTop (mkF m 110 #[.val (.int p0), .val (.int p1), .val (.int (0 : Int32)), .val (.int p1), .val (.ref wO), .val (.ref wA), .val (.int (1 : Int32)), .val (.int (1 : Int32)), .val (.int (0 : Int32))] [(.int (1 : Int32)), (.int (0 : Int32))]))
        refine go (fun _ => XS.icmpNo X14.here hx rfl (hb hby at_110) rfl (feq (by decide : ¬ ((0 : Int32) = 1))).1) ?_
        show Run p e below _ (T14.setTop (mkF m 113 #[.val (.int p0), .val (.int p1), .val (.int (0 : Int32)), .val (.int p1), .val (.ref wO), .val (.ref wA), .val (.int (1 : Int32)), .val (.int (1 : Int32)), .val (.int (0 : Int32))] []))
        refine go (fun _ => XS.iconst X14.here hx rfl (hb hby at_113)) ?_
        show Run p e below _ (T14.setTop (mkF m 114 #[.val (.int p0), .val (.int p1), .val (.int (0 : Int32)), .val (.int p1), .val (.ref wO), .val (.ref wA), .val (.int (1 : Int32)), .val (.int (1 : Int32)), .val (.int (0 : Int32))] [(.int (1 : Int32))]))
        refine go (fun _ => XS.goto X14.here hx rfl (pc0 := 114) (pc' := 118) rfl (hb hby at_114) (by decide) (by decide)) ?_
        show Run p e below _ (T14.setTop (mkF m 118 #[.val (.int p0), .val (.int p1), .val (.int (0 : Int32)), .val (.int p1), .val (.ref wO), .val (.ref wA), .val (.int (1 : Int32)), .val (.int (1 : Int32)), .val (.int (0 : Int32))] [(.int (1 : Int32))]))
        exact endN X14 hx hlk (t := .boolean) hret (by simp) (hb hby at_118) (⟨rfl, N14⟩) (by decide) (by decide)
    · skip
      refine go (fun _ => XS.ifNo X0.here hx rfl (hb hby at_15) rfl ((if0 _ _).trans (feq c7).1)) ?_
      show Run p e below _ (T0.setTop (mkF m 18 #[.val (.int p0), .val (.int p1), .val (.int (0 : Int32)), .unset, .unset, .unset, .unset, .unset, .unset] []))
      refine go (fun _ => XS.iconst X0.here hx rfl (hb hby at_18)) ?_
      show Run p e below _ (T0.setTop (mkF m 19 #[.val (.int p0), .val (.int p1), .val (.int (0 : Int32)), .unset, .unset, .unset, .unset, .unset, .unset] [(.int (0 : Int32))]))
      refine go (fun _ => XS.goto X0.here hx rfl (pc0 := 19) (pc' := 23) rfl (hb hby at_19) (by decide) (by decide)) ?_
      show Run p e below _ (T0.setTop (mkF m 23 #[.val (.int p0), .val (.int p1), .val (.int (0 : Int32)), .unset, .unset, .unset, .unset, .unset, .unset] [(.int (0 : Int32))]))
      refine go (fun _ => XS.istoreN X0.here hx rfl (hb hby at_23) rfl (l' := #[.val (.int p0), .val (.int p1), .val (.int (0 : Int32)), .val (.int (0 : Int32)), .unset, .unset, .unset, .unset, .unset]) rfl) ?_
      show Run p e below _ (T0.setTop (mkF m 24 #[.val (.int p0), .val (.int p1), .val (.int (0 : Int32)), .val (.int (0 : Int32)), .unset, .unset, .unset, .unset, .unset] []))
      refine go (fun _ => XS.iloadN X0.here hx rfl (hb hby at_24) rfl) ?_
      show Run p e below _ (T0.setTop (mkF m 25 #[.val (.int p0), .val (.int p1), .val (.int (0 : Int32)), .val (.int (0 : Int32)), .unset, .unset, .unset, .unset, .unset] [(.int (0 : Int32))]))
      refine go (fun _ => XS.ifYes X0.here hx rfl (pc0 := 25) (pc' := 34) rfl (hb hby at_25) rfl ((if0 _ _).trans (teq (by decide : (0 : Int32) = 0)).1) (by decide) (by decide)) ?_
      show Run p e below _ (T0.setTop (mkF m 34 #[.val (.int p0), .val (.int p1), .val (.int (0 : Int32)), .val (.int (0 : Int32)), .unset, .unset, .unset, .unset, .unset] []))
      obtain ⟨T15, X15, e15, st15⟩ := getS2 X0 hx hZ hown (host := "") (Or.inl (wd hw 0 rfl)) Via.refl e0 (SwO.ext O0.2) (g := (mkF m 34 #[.val (.int p0), .val (.int p1), .val (.int (0 : Int32)), .val (.int (0 : Int32)), .unset, .unset, .unset, .unset, .unset] [])) rfl (hb hby at_34)
      refine go st15 ?_
      show Run p e below _ (T15.setTop (mkF m 37 #[.val (.int p0), .val (.int p1), .val (.int (0 : Int32)), .val (.int (0 : Int32)), .unset, .unset, .unset, .unset, .unset] [(.ref wO)]))
      refine go (fun _ => XS.astore X15.here hx rfl (hb hby at_37) rfl rfl (l' := #[.val (.int p0), .val (.int p1), .val (.int (0 : Int32)), .val (.int (0 : Int32)), .val (.ref wO), .unset, .unset, .unset, .unset]) rfl) ?_
      show Run p e below _ (T15.setTop (mkF m 39 #[.val (.int p0), .val (.int p1), .val (.int (0 : Int32)), .val (.int (0 : Int32)), .val (.ref wO), .unset, .unset, .unset, .unset] []))
      refine go (fun _ => XS.iloadN X15.here hx rfl (hb hby at_39) rfl) ?_
      show Run p e below _ (T15.setTop (mkF m 40 #[.val (.int p0), .val (.int p1), .val (.int (0 : Int32)), .val (.int (0 : Int32)), .val (.ref wO), .unset, .unset, .unset, .unset] [(.int (0 : Int32))]))
      refine go (fun _ => XS.ifYes X15.here hx rfl (pc0 := 40) (pc' := 49) rfl (hb hby at_40) rfl ((if0 _ _).trans (teq (by decide : (0 : Int32) = 0)).1) (by decide) (by decide)) ?_
      show Run p e below _ (T15.setTop (mkF m 49 #[.val (.int p0), .val (.int p1), .val (.int (0 : Int32)), .val (.int (0 : Int32)), .val (.ref wO), .unset, .unset, .unset, .unset] []))
      obtain ⟨T16, X16, e16, st16⟩ := getS2 X15 hx hZ hown (host := "") (Or.inl (wd hw 3 rfl)) Via.refl e15 (SwA.ext O0.2) (g := (mkF m 49 #[.val (.int p0), .val (.int p1), .val (.int (0 : Int32)), .val (.int (0 : Int32)), .val (.ref wO), .unset, .unset, .unset, .unset] [])) rfl (hb hby at_49)
      refine go st16 ?_
      show Run p e below _ (T16.setTop (mkF m 52 #[.val (.int p0), .val (.int p1), .val (.int (0 : Int32)), .val (.int (0 : Int32)), .val (.ref wO), .unset, .unset, .unset, .unset] [(.ref wA)]))
      refine go (fun _ => XS.astore X16.here hx rfl (hb hby at_52) rfl rfl (l' := #[.val (.int p0), .val (.int p1), .val (.int (0 : Int32)), .val (.int (0 : Int32)), .val (.ref wO), .val (.ref wA), .unset, .unset, .unset]) rfl) ?_
      show Run p e below _ (T16.setTop (mkF m 54 #[.val (.int p0), .val (.int p1), .val (.int (0 : Int32)), .val (.int (0 : Int32)), .val (.ref wO), .val (.ref wA), .unset, .unset, .unset] []))
      refine go (fun _ => XS.iloadN X16.here hx rfl (hb hby at_54) rfl) ?_
      show Run p e below _ (T16.setTop (mkF m 55 #[.val (.int p0), .val (.int p1), .val (.int (0 : Int32)), .val (.int (0 : Int32)), .val (.ref wO), .val (.ref wA), .unset, .unset, .unset] [(.int (0 : Int32))]))
      refine go (fun _ => XS.ifYes X16.here hx rfl (pc0 := 55) (pc' := 72) rfl (hb hby at_55) rfl ((if0 _ _).trans (teq (by decide : (0 : Int32) = 0)).1) (by decide) (by decide)) ?_
      show Run p e below _ (T16.setTop (mkF m 72 #[.val (.int p0), .val (.int p1), .val (.int (0 : Int32)), .val (.int (0 : Int32)), .val (.ref wO), .val (.ref wA), .unset, .unset, .unset] []))
      refine go (fun _ => XS.iloadN X16.here hx rfl (hb hby at_72) rfl) ?_
      show Run p e below _ (T16.setTop (mkF m 73 #[.val (.int p0), .val (.int p1), .val (.int (0 : Int32)), .val (.int (0 : Int32)), .val (.ref wO), .val (.ref wA), .unset, .unset, .unset] [(.int (0 : Int32))]))
      refine go (fun _ => XS.ifYes X16.here hx rfl (pc0 := 73) (pc' := 80) rfl (hb hby at_73) rfl ((if0 _ _).trans (teq (by decide : (0 : Int32) = 0)).1) (by decide) (by decide)) ?_
      show Run p e below _ (T16.setTop (mkF m 80 #[.val (.int p0), .val (.int p1), .val (.int (0 : Int32)), .val (.int (0 : Int32)), .val (.ref wO), .val (.ref wA), .unset, .unset, .unset] []))
      refine go (fun _ => XS.iconst X16.here hx rfl (hb hby at_80)) ?_
      show Run p e below _ (T16.setTop (mkF m 81 #[.val (.int p0), .val (.int p1), .val (.int (0 : Int32)), .val (.int (0 : Int32)), .val (.ref wO), .val (.ref wA), .unset, .unset, .unset] [(.int (0 : Int32))]))
      refine go (fun _ => XS.istore X16.here hx rfl (hb hby at_81) rfl (l' := #[.val (.int p0), .val (.int p1), .val (.int (0 : Int32)), .val (.int (0 : Int32)), .val (.ref wO), .val (.ref wA), .val (.int (0 : Int32)), .unset, .unset]) rfl) ?_
      show Run p e below _ (T16.setTop (mkF m 83 #[.val (.int p0), .val (.int p1), .val (.int (0 : Int32)), .val (.int (0 : Int32)), .val (.ref wO), .val (.ref wA), .val (.int (0 : Int32)), .unset, .unset] []))
      refine go (fun _ => XS.aload X16.here hx rfl (hb hby at_83) rfl rfl) ?_
      show Run p e below _ (T16.setTop (mkF m 85 #[.val (.int p0), .val (.int p1), .val (.int (0 : Int32)), .val (.int (0 : Int32)), .val (.ref wO), .val (.ref wA), .val (.int (0 : Int32)), .unset, .unset] [(.ref wO)]))
      refine go (fun _ => XS.iloadN X16.here hx rfl (hb hby at_85) rfl) ?_
      show Run p e below _ (T16.setTop (mkF m 86 #[.val (.int p0), .val (.int p1), .val (.int (0 : Int32)), .val (.int (0 : Int32)), .val (.ref wO), .val (.ref wA), .val (.int (0 : Int32)), .unset, .unset] [(.int (0 : Int32)), (.ref wO)]))
      refine callVi X16 hx hZ hown (wd hw 5 rfl) (wd hw 6 rfl) (notFace_of_selects (args := #[]) (mvT hZ (wd hw 8 rfl))) (wd hw 8 rfl) (wd hw 7 rfl) (wd hw 9 rfl) (wd hw 1 rfl) (by decide) e16 (EwO.ext O0.2) (argsL := [(.int (0 : Int32))]) (rest := []) (rm_ra l Z a0 hw [] wO (0 : Int32) wA wO h0 n0 O0 SwA SwO) (W := 0) (by decide) (by decide) (by decide) (by decide) (by rw [hml]; rfl) (lenOf pd_0 rfl) rfl (by decide) (hb hby at_86) ?_
      intro v17 T17 L17 h17 X17 e17 q17
      obtain ⟨rv, n17, k17⟩ := q17
      replace rv : v17 = some (.int (0 : Int32)) := by simpa [hAO, hAO.symm] using rv
      subst rv
      have e17 := e17.trans k17
      have N17 := Fr.app N0 n17
      show Run p e below _ (T17.setTop (mkF m 89 #[.val (.int p0), .val (.int p1), .val (.int (0 : Int32)), .val (.int (0 : Int32)), .val (.ref wO), .val (.ref wA), .val (.int (0 : Int32)), .unset, .unset] [(.int (0 : Int32))]))
      refine go (fun _ => XS.istore X17.here hx rfl (hb hby at_89) rfl (l' := #[.val (.int p0), .val (.int p1), .val (.int (0 : Int32)), .val (.int (0 : Int32)), .val (.ref wO), .val (.ref wA), .val (.int (0 : Int32)), .val (.int (0 : Int32)), .unset]) rfl) ?_
      show Run p e below _ (T17.setTop (mkF m 91 #[.val (.int p0), .val (.int p1), .val (.int (0 : Int32)), .val (.int (0 : Int32)), .val (.ref wO), .val (.ref wA), .val (.int (0 : Int32)), .val (.int (0 : Int32)), .unset] []))
      refine go (fun _ => XS.aload X17.here hx rfl (hb hby at_91) rfl rfl) ?_
      show Run p e below _ (T17.setTop (mkF m 93 #[.val (.int p0), .val (.int p1), .val (.int (0 : Int32)), .val (.int (0 : Int32)), .val (.ref wO), .val (.ref wA), .val (.int (0 : Int32)), .val (.int (0 : Int32)), .unset] [(.ref wA)]))
      refine go (fun _ => XS.iloadN X17.here hx rfl (hb hby at_93) rfl) ?_
      show Run p e below _ (T17.setTop (mkF m 94 #[.val (.int p0), .val (.int p1), .val (.int (0 : Int32)), .val (.int (0 : Int32)), .val (.ref wO), .val (.ref wA), .val (.int (0 : Int32)), .val (.int (0 : Int32)), .unset] [(.int (0 : Int32)), (.ref wA)]))
      refine callVi X17 hx hZ hown (wd hw 5 rfl) (wd hw 6 rfl) (notFace_of_selects (args := #[]) (mvT hZ (wd hw 8 rfl))) (wd hw 8 rfl) (wd hw 7 rfl) (wd hw 9 rfl) (wd hw 1 rfl) (by decide) e17 (EwA.ext O0.2) (argsL := [(.int (0 : Int32))]) (rest := []) (rm_ra l Z a0 hw [] wA (0 : Int32) wA wO h0 n0 O0 SwA SwO) (W := 0) (by decide) (by decide) (by decide) (by decide) (by rw [hml]; rfl) (lenOf pd_0 rfl) rfl (by decide) (hb hby at_94) ?_
      intro v18 T18 L18 h18 X18 e18 q18
      obtain ⟨rv, n18, k18⟩ := q18
      replace rv : v18 = some (.int (1 : Int32)) := by simpa [hAO, hAO.symm] using rv
      subst rv
      have e18 := e18.trans k18
      have N18 := Fr.app N17 n18
      show Run p e below _ (T18.setTop (mkF m 97 #[.val (.int p0), .val (.int p1), .val (.int (0 : Int32)), .val (.int (0 : Int32)), .val (.ref wO), .val (.ref wA), .val (.int (0 : Int32)), .val (.int (0 : Int32)), .unset] [(.int (1 : Int32))]))
      refine go (fun _ => XS.istore X18.here hx rfl (hb hby at_97) rfl (l' := #[.val (.int p0), .val (.int p1), .val (.int (0 : Int32)), .val (.int (0 : Int32)), .val (.ref wO), .val (.ref wA), .val (.int (0 : Int32)), .val (.int (0 : Int32)), .val (.int (1 : Int32))]) rfl) ?_
      show Run p e below _ (T18.setTop (mkF m 99 #[.val (.int p0), .val (.int p1), .val (.int (0 : Int32)), .val (.int (0 : Int32)), .val (.ref wO), .val (.ref wA), .val (.int (0 : Int32)), .val (.int (0 : Int32)), .val (.int (1 : Int32))] []))
      refine go (fun _ => XS.iload X18.here hx rfl (hb hby at_99) rfl) ?_
      show Run p e below _ (T18.setTop (mkF m 101 #[.val (.int p0), .val (.int p1), .val (.int (0 : Int32)), .val (.int (0 : Int32)), .val (.ref wO), .val (.ref wA), .val (.int (0 : Int32)), .val (.int (0 : Int32)), .val (.int (1 : Int32))] [(.int (0 : Int32))]))
      refine go (fun _ => XS.iload X18.here hx rfl (hb hby at_101) rfl) ?_
      show Run p e below _ (T18.setTop (mkF m 103 #[.val (.int p0), .val (.int p1), .val (.int (0 : Int32)), .val (.int (0 : Int32)), .val (.ref wO), .val (.ref wA), .val (.int (0 : Int32)), .val (.int (0 : Int32)), .val (.int (1 : Int32))] [(.int (0 : Int32)), (.int (0 : Int32))]))
      refine go (fun _ => XS.icmpNo X18.here hx rfl (hb hby at_103) rfl (teq (by decide : (0 : Int32) = 0)).2) ?_
      show Run p e below _ (T18.setTop (mkF m 106 #[.val (.int p0), .val (.int p1), .val (.int (0 : Int32)), .val (.int (0 : Int32)), .val (.ref wO), .val (.ref wA), .val (.int (0 : Int32)), .val (.int (0 : Int32)), .val (.int (1 : Int32))] []))
      refine go (fun _ => XS.iload X18.here hx rfl (hb hby at_106) rfl) ?_
      show Run p e below _ (T18.setTop (mkF m 108 #[.val (.int p0), .val (.int p1), .val (.int (0 : Int32)), .val (.int (0 : Int32)), .val (.ref wO), .val (.ref wA), .val (.int (0 : Int32)), .val (.int (0 : Int32)), .val (.int (1 : Int32))] [(.int (1 : Int32))]))
      refine go (fun _ => XS.iload X18.here hx rfl (hb hby at_108) rfl) ?_
      show Run p e below _ (T18.setTop (mkF m 110 #[.val (.int p0), .val (.int p1), .val (.int (0 : Int32)), .val (.int (0 : Int32)), .val (.ref wO), .val (.ref wA), .val (.int (0 : Int32)), .val (.int (0 : Int32)), .val (.int (1 : Int32))] [(.int (0 : Int32)), (.int (1 : Int32))]))
      refine go (fun _ => XS.icmpNo X18.here hx rfl (hb hby at_110) rfl (feq (by decide : ¬ ((1 : Int32) = 0))).1) ?_
      show Run p e below _ (T18.setTop (mkF m 113 #[.val (.int p0), .val (.int p1), .val (.int (0 : Int32)), .val (.int (0 : Int32)), .val (.ref wO), .val (.ref wA), .val (.int (0 : Int32)), .val (.int (0 : Int32)), .val (.int (1 : Int32))] []))
      refine go (fun _ => XS.iconst X18.here hx rfl (hb hby at_113)) ?_
      show Run p e below _ (T18.setTop (mkF m 114 #[.val (.int p0), .val (.int p1), .val (.int (0 : Int32)), .val (.int (0 : Int32)), .val (.ref wO), .val (.ref wA), .val (.int (0 : Int32)), .val (.int (0 : Int32)), .val (.int (1 : Int32))] [(.int (1 : Int32))]))
      refine go (fun _ => XS.goto X18.here hx rfl (pc0 := 114) (pc' := 118) rfl (hb hby at_114) (by decide) (by decide)) ?_
      show Run p e below _ (T18.setTop (mkF m 118 #[.val (.int p0), .val (.int p1), .val (.int (0 : Int32)), .val (.int (0 : Int32)), .val (.ref wO), .val (.ref wA), .val (.int (0 : Int32)), .val (.int (0 : Int32)), .val (.int (1 : Int32))] [(.int (1 : Int32))]))
      exact endN X18 hx hlk (t := .boolean) hret (by simp) (hb hby at_118) (⟨rfl, N18⟩) (by decide) (by decide)
  · skip
    refine go (fun _ => XS.ifNo X0.here hx rfl (hb hby at_3) rfl ((if0 _ _).trans (feq c6).1)) ?_
    show Run p e below _ (T0.setTop (mkF m 6 #[.val (.int p0), .val (.int p1), .unset, .unset, .unset, .unset, .unset, .unset, .unset] []))
    refine go (fun _ => XS.iconst X0.here hx rfl (hb hby at_6)) ?_
    show Run p e below _ (T0.setTop (mkF m 7 #[.val (.int p0), .val (.int p1), .unset, .unset, .unset, .unset, .unset, .unset, .unset] [(.int (1 : Int32))]))
    refine go (fun _ => XS.goto X0.here hx rfl (pc0 := 7) (pc' := 11) rfl (hb hby at_7) (by decide) (by decide)) ?_
    show Run p e below _ (T0.setTop (mkF m 11 #[.val (.int p0), .val (.int p1), .unset, .unset, .unset, .unset, .unset, .unset, .unset] [(.int (1 : Int32))]))
    refine go (fun _ => XS.istoreN X0.here hx rfl (hb hby at_11) rfl (l' := #[.val (.int p0), .val (.int p1), .val (.int (1 : Int32)), .unset, .unset, .unset, .unset, .unset, .unset]) rfl) ?_
    show Run p e below _ (T0.setTop (mkF m 12 #[.val (.int p0), .val (.int p1), .val (.int (1 : Int32)), .unset, .unset, .unset, .unset, .unset, .unset] []))
    refine go (fun _ => XS.iloadN X0.here hx rfl (hb hby at_12) rfl) ?_
    show Run p e below _ (T0.setTop (mkF m 13 #[.val (.int p0), .val (.int p1), .val (.int (1 : Int32)), .unset, .unset, .unset, .unset, .unset, .unset] [(.int p0)]))
    refine go (fun _ => XS.iconst X0.here hx rfl (hb hby at_13)) ?_
    show Run p e below _ (T0.setTop (mkF m 14 #[.val (.int p0), .val (.int p1), .val (.int (1 : Int32)), .unset, .unset, .unset, .unset, .unset, .unset] [(.int (2 : Int32)), (.int p0)]))
    refine go (fun _ => XS.iand X0.here hx rfl (hb hby at_14) rfl) ?_
    show Run p e below _ (T0.setTop (mkF m 15 #[.val (.int p0), .val (.int p1), .val (.int (1 : Int32)), .unset, .unset, .unset, .unset, .unset, .unset] [(.int (p0 &&& (2 : Int32)))]))
    by_cases c19 : (p0 &&& (2 : Int32)) = 0
    · skip
      refine go (fun _ => XS.ifYes X0.here hx rfl (pc0 := 15) (pc' := 22) rfl (hb hby at_15) rfl ((if0 _ _).trans (teq c19).1) (by decide) (by decide)) ?_
      show Run p e below _ (T0.setTop (mkF m 22 #[.val (.int p0), .val (.int p1), .val (.int (1 : Int32)), .unset, .unset, .unset, .unset, .unset, .unset] []))
      refine go (fun _ => XS.iloadN X0.here hx rfl (hb hby at_22) rfl) ?_
      show Run p e below _ (T0.setTop (mkF m 23 #[.val (.int p0), .val (.int p1), .val (.int (1 : Int32)), .unset, .unset, .unset, .unset, .unset, .unset] [(.int p1)]))
      refine go (fun _ => XS.istoreN X0.here hx rfl (hb hby at_23) rfl (l' := #[.val (.int p0), .val (.int p1), .val (.int (1 : Int32)), .val (.int p1), .unset, .unset, .unset, .unset, .unset]) rfl) ?_
      show Run p e below _ (T0.setTop (mkF m 24 #[.val (.int p0), .val (.int p1), .val (.int (1 : Int32)), .val (.int p1), .unset, .unset, .unset, .unset, .unset] []))
      refine go (fun _ => XS.iloadN X0.here hx rfl (hb hby at_24) rfl) ?_
      show Run p e below _ (T0.setTop (mkF m 25 #[.val (.int p0), .val (.int p1), .val (.int (1 : Int32)), .val (.int p1), .unset, .unset, .unset, .unset, .unset] [(.int (1 : Int32))]))
      refine go (fun _ => XS.ifNo X0.here hx rfl (hb hby at_25) rfl ((if0 _ _).trans (feq (by decide : ¬ ((1 : Int32) = 0))).1)) ?_
      show Run p e below _ (T0.setTop (mkF m 28 #[.val (.int p0), .val (.int p1), .val (.int (1 : Int32)), .val (.int p1), .unset, .unset, .unset, .unset, .unset] []))
      obtain ⟨T20, X20, e20, st20⟩ := getS2 X0 hx hZ hown (host := "") (Or.inl (wd hw 3 rfl)) Via.refl e0 (SwA.ext O0.2) (g := (mkF m 28 #[.val (.int p0), .val (.int p1), .val (.int (1 : Int32)), .val (.int p1), .unset, .unset, .unset, .unset, .unset] [])) rfl (hb hby at_28)
      refine go st20 ?_
      show Run p e below _ (T20.setTop (mkF m 31 #[.val (.int p0), .val (.int p1), .val (.int (1 : Int32)), .val (.int p1), .unset, .unset, .unset, .unset, .unset] [(.ref wA)]))
      refine go (fun _ => XS.goto X20.here hx rfl (pc0 := 31) (pc' := 37) rfl (hb hby at_31) (by decide) (by decide)) ?_
      show Run p e below _ (T20.setTop (mkF m 37 #[.val (.int p0), .val (.int p1), .val (.int (1 : Int32)), .val (.int p1), .unset, .unset, .unset, .unset, .unset] [(.ref wA)]))
      refine go (fun _ => XS.astore X20.here hx rfl (hb hby at_37) rfl rfl (l' := #[.val (.int p0), .val (.int p1), .val (.int (1 : Int32)), .val (.int p1), .val (.ref wA), .unset, .unset, .unset, .unset]) rfl) ?_
      show Run p e below _ (T20.setTop (mkF m 39 #[.val (.int p0), .val (.int p1), .val (.int (1 : Int32)), .val (.int p1), .val (.ref wA), .unset, .unset, .unset, .unset] []))
      refine go (fun _ => XS.iloadN X20.here hx rfl (hb hby at_39) rfl) ?_
      show Run p e below _ (T20.setTop (mkF m 40 #[.val (.int p0), .val (.int p1), .val (.int (1 : Int32)), .val (.int p1), .val (.ref wA), .unset, .unset, .unset, .unset] [(.int (1 : Int32))]))
      refine go (fun _ => XS.ifNo X20.here hx rfl (hb hby at_40) rfl ((if0 _ _).trans (feq (by decide : ¬ ((1 : Int32) = 0))).1)) ?_
      show Run p e below _ (T20.setTop (mkF m 43 #[.val (.int p0), .val (.int p1), .val (.int (1 : Int32)), .val (.int p1), .val (.ref wA), .unset, .unset, .unset, .unset] []))
      obtain ⟨T21, X21, e21, st21⟩ := getS2 X20 hx hZ hown (host := "") (Or.inl (wd hw 0 rfl)) Via.refl e20 (SwO.ext O0.2) (g := (mkF m 43 #[.val (.int p0), .val (.int p1), .val (.int (1 : Int32)), .val (.int p1), .val (.ref wA), .unset, .unset, .unset, .unset] [])) rfl (hb hby at_43)
      refine go st21 ?_
      show Run p e below _ (T21.setTop (mkF m 46 #[.val (.int p0), .val (.int p1), .val (.int (1 : Int32)), .val (.int p1), .val (.ref wA), .unset, .unset, .unset, .unset] [(.ref wO)]))
      refine go (fun _ => XS.goto X21.here hx rfl (pc0 := 46) (pc' := 52) rfl (hb hby at_46) (by decide) (by decide)) ?_
      show Run p e below _ (T21.setTop (mkF m 52 #[.val (.int p0), .val (.int p1), .val (.int (1 : Int32)), .val (.int p1), .val (.ref wA), .unset, .unset, .unset, .unset] [(.ref wO)]))
      refine go (fun _ => XS.astore X21.here hx rfl (hb hby at_52) rfl rfl (l' := #[.val (.int p0), .val (.int p1), .val (.int (1 : Int32)), .val (.int p1), .val (.ref wA), .val (.ref wO), .unset, .unset, .unset]) rfl) ?_
      show Run p e below _ (T21.setTop (mkF m 54 #[.val (.int p0), .val (.int p1), .val (.int (1 : Int32)), .val (.int p1), .val (.ref wA), .val (.ref wO), .unset, .unset, .unset] []))
      refine go (fun _ => XS.iloadN X21.here hx rfl (hb hby at_54) rfl) ?_
      show Run p e below _ (T21.setTop (mkF m 55 #[.val (.int p0), .val (.int p1), .val (.int (1 : Int32)), .val (.int p1), .val (.ref wA), .val (.ref wO), .unset, .unset, .unset] [(.int (1 : Int32))]))
      refine go (fun _ => XS.ifNo X21.here hx rfl (hb hby at_55) rfl ((if0 _ _).trans (feq (by decide : ¬ ((1 : Int32) = 0))).1)) ?_
      show Run p e below _ (T21.setTop (mkF m 58 #[.val (.int p0), .val (.int p1), .val (.int (1 : Int32)), .val (.int p1), .val (.ref wA), .val (.ref wO), .unset, .unset, .unset] []))
      refine go (fun _ => XS.iloadN X21.here hx rfl (hb hby at_58) rfl) ?_
      show Run p e below _ (T21.setTop (mkF m 59 #[.val (.int p0), .val (.int p1), .val (.int (1 : Int32)), .val (.int p1), .val (.ref wA), .val (.ref wO), .unset, .unset, .unset] [(.int p1)]))
      by_cases c22 : p1 = 0
      · skip
        refine go (fun _ => XS.ifNo X21.here hx rfl (hb hby at_59) rfl ((if0 _ _).trans (teq c22).2)) ?_
        show Run p e below _ (T21.setTop (mkF m 62 #[.val (.int p0), .val (.int p1), .val (.int (1 : Int32)), .val (.int p1), .val (.ref wA), .val (.ref wO), .unset, .unset, .unset] []))
        refine go (fun _ => XS.iconst X21.here hx rfl (hb hby at_62)) ?_
        show Run p e below _ (T21.setTop (mkF m 63 #[.val (.int p0), .val (.int p1), .val (.int (1 : Int32)), .val (.int p1), .val (.ref wA), .val (.ref wO), .unset, .unset, .unset] [(.int (1 : Int32))]))
        refine go (fun _ => XS.goto X21.here hx rfl (pc0 := 63) (pc' := 67) rfl (hb hby at_63) (by decide) (by decide)) ?_
        show Run p e below _ (T21.setTop (mkF m 67 #[.val (.int p0), .val (.int p1), .val (.int (1 : Int32)), .val (.int p1), .val (.ref wA), .val (.ref wO), .unset, .unset, .unset] [(.int (1 : Int32))]))
        refine go (fun _ => XS.istore X21.here hx rfl (hb hby at_67) rfl (l' := #[.val (.int p0), .val (.int p1), .val (.int (1 : Int32)), .val (.int p1), .val (.ref wA), .val (.ref wO), .val (.int (1 : Int32)), .unset, .unset]) rfl) ?_
        show Run p e below _ (T21.setTop (mkF m 69 #[.val (.int p0), .val (.int p1), .val (.int (1 : Int32)), .val (.int p1), .val (.ref wA), .val (.ref wO), .val (.int (1 : Int32)), .unset, .unset] []))
        refine go (fun _ => XS.goto X21.here hx rfl (pc0 := 69) (pc' := 83) rfl (hb hby at_69) (by decide) (by decide)) ?_
        show Run p e below _ (T21.setTop (mkF m 83 #[.val (.int p0), .val (.int p1), .val (.int (1 : Int32)), .val (.int p1), .val (.ref wA), .val (.ref wO), .val (.int (1 : Int32)), .unset, .unset] []))
        refine go (fun _ => XS.aload X21.here hx rfl (hb hby at_83) rfl rfl) ?_
        show Run p e below _ (T21.setTop (mkF m 85 #[.val (.int p0), .val (.int p1), .val (.int (1 : Int32)), .val (.int p1), .val (.ref wA), .val (.ref wO), .val (.int (1 : Int32)), .unset, .unset] [(.ref wA)]))
        refine go (fun _ => XS.iloadN X21.here hx rfl (hb hby at_85) rfl) ?_
        show Run p e below _ (T21.setTop (mkF m 86 #[.val (.int p0), .val (.int p1), .val (.int (1 : Int32)), .val (.int p1), .val (.ref wA), .val (.ref wO), .val (.int (1 : Int32)), .unset, .unset] [(.int p1), (.ref wA)]))
        refine callVi X21 hx hZ hown (wd hw 5 rfl) (wd hw 6 rfl) (notFace_of_selects (args := #[]) (mvT hZ (wd hw 8 rfl))) (wd hw 8 rfl) (wd hw 7 rfl) (wd hw 9 rfl) (wd hw 1 rfl) (by decide) e21 (EwA.ext O0.2) (argsL := [(.int p1)]) (rest := []) (rm_ra l Z a0 hw [] wA p1 wA wO h0 n0 O0 SwA SwO) (W := 0) (by decide) (by decide) (by decide) (by decide) (by rw [hml]; rfl) (lenOf pd_0 rfl) rfl (by decide) (hb hby at_86) ?_
        intro v23 T23 L23 h23 X23 e23 q23
        obtain ⟨rv, n23, k23⟩ := q23
        replace rv : v23 = some (.int (1 : Int32)) := by simpa [hAO, hAO.symm, c22] using rv
        subst rv
        have e23 := e23.trans k23
        have N23 := Fr.app N0 n23
        show Run p e below _ (T23.setTop (mkF m 89 #[.val (.int p0), .val (.int p1), .val (.int (1 : Int32)), .val (.int p1), .val (.ref wA), .val (.ref wO), .val (.int (1 : Int32)), .unset, .unset] [(.int (1 : Int32))]))
        refine go (fun _ => XS.istore X23.here hx rfl (hb hby at_89) rfl (l' := #[.val (.int p0), .val (.int p1), .val (.int (1 : Int32)), .val (.int p1), .val (.ref wA), .val (.ref wO), .val (.int (1 : Int32)), .val (.int (1 : Int32)), .unset]) rfl) ?_
        show Run p e below _ (T23.setTop (mkF m 91 #[.val (.int p0), .val (.int p1), .val (.int (1 : Int32)), .val (.int p1), .val (.ref wA), .val (.ref wO), .val (.int (1 : Int32)), .val (.int (1 : Int32)), .unset] []))
        refine go (fun _ => XS.aload X23.here hx rfl (hb hby at_91) rfl rfl) ?_
        show Run p e below _ (T23.setTop (mkF m 93 #[.val (.int p0), .val (.int p1), .val (.int (1 : Int32)), .val (.int p1), .val (.ref wA), .val (.ref wO), .val (.int (1 : Int32)), .val (.int (1 : Int32)), .unset] [(.ref wO)]))
        refine go (fun _ => XS.iloadN X23.here hx rfl (hb hby at_93) rfl) ?_
        show Run p e below _ (T23.setTop (mkF m 94 #[.val (.int p0), .val (.int p1), .val (.int (1 : Int32)), .val (.int p1), .val (.ref wA), .val (.ref wO), .val (.int (1 : Int32)), .val (.int (1 : Int32)), .unset] [(.int p1), (.ref wO)]))
        refine callVi X23 hx hZ hown (wd hw 5 rfl) (wd hw 6 rfl) (notFace_of_selects (args := #[]) (mvT hZ (wd hw 8 rfl))) (wd hw 8 rfl) (wd hw 7 rfl) (wd hw 9 rfl) (wd hw 1 rfl) (by decide) e23 (EwO.ext O0.2) (argsL := [(.int p1)]) (rest := []) (rm_ra l Z a0 hw [] wO p1 wA wO h0 n0 O0 SwA SwO) (W := 0) (by decide) (by decide) (by decide) (by decide) (by rw [hml]; rfl) (lenOf pd_0 rfl) rfl (by decide) (hb hby at_94) ?_
        intro v24 T24 L24 h24 X24 e24 q24
        obtain ⟨rv, n24, k24⟩ := q24
        replace rv : v24 = some (.int (0 : Int32)) := by simpa [hAO, hAO.symm, c22] using rv
        subst rv
        have e24 := e24.trans k24
        have N24 := Fr.app N23 n24
        show Run p e below _ (T24.setTop (mkF m 97 #[.val (.int p0), .val (.int p1), .val (.int (1 : Int32)), .val (.int p1), .val (.ref wA), .val (.ref wO), .val (.int (1 : Int32)), .val (.int (1 : Int32)), .unset] [(.int (0 : Int32))]))
        refine go (fun _ => XS.istore X24.here hx rfl (hb hby at_97) rfl (l' := #[.val (.int p0), .val (.int p1), .val (.int (1 : Int32)), .val (.int p1), .val (.ref wA), .val (.ref wO), .val (.int (1 : Int32)), .val (.int (1 : Int32)), .val (.int (0 : Int32))]) rfl) ?_
        show Run p e below _ (T24.setTop (mkF m 99 #[.val (.int p0), .val (.int p1), .val (.int (1 : Int32)), .val (.int p1), .val (.ref wA), .val (.ref wO), .val (.int (1 : Int32)), .val (.int (1 : Int32)), .val (.int (0 : Int32))] []))
        refine go (fun _ => XS.iload X24.here hx rfl (hb hby at_99) rfl) ?_
        show Run p e below _ (T24.setTop (mkF m 101 #[.val (.int p0), .val (.int p1), .val (.int (1 : Int32)), .val (.int p1), .val (.ref wA), .val (.ref wO), .val (.int (1 : Int32)), .val (.int (1 : Int32)), .val (.int (0 : Int32))] [(.int (1 : Int32))]))
        refine go (fun _ => XS.iload X24.here hx rfl (hb hby at_101) rfl) ?_
        show Run p e below _ (T24.setTop (mkF m 103 #[.val (.int p0), .val (.int p1), .val (.int (1 : Int32)), .val (.int p1), .val (.ref wA), .val (.ref wO), .val (.int (1 : Int32)), .val (.int (1 : Int32)), .val (.int (0 : Int32))] [(.int (1 : Int32)), (.int (1 : Int32))]))
        refine go (fun _ => XS.icmpNo X24.here hx rfl (hb hby at_103) rfl (teq (by decide : (1 : Int32) = 1)).2) ?_
        show Run p e below _ (T24.setTop (mkF m 106 #[.val (.int p0), .val (.int p1), .val (.int (1 : Int32)), .val (.int p1), .val (.ref wA), .val (.ref wO), .val (.int (1 : Int32)), .val (.int (1 : Int32)), .val (.int (0 : Int32))] []))
        refine go (fun _ => XS.iload X24.here hx rfl (hb hby at_106) rfl) ?_
        show Run p e below _ (T24.setTop (mkF m 108 #[.val (.int p0), .val (.int p1), .val (.int (1 : Int32)), .val (.int p1), .val (.ref wA), .val (.ref wO), .val (.int (1 : Int32)), .val (.int (1 : Int32)), .val (.int (0 : Int32))] [(.int (0 : Int32))]))
        refine go (fun _ => XS.iload X24.here hx rfl (hb hby at_108) rfl) ?_
        show Run p e below _ (T24.setTop (mkF m 110 #[.val (.int p0), .val (.int p1), .val (.int (1 : Int32)), .val (.int p1), .val (.ref wA), .val (.ref wO), .val (.int (1 : Int32)), .val (.int (1 : Int32)), .val (.int (0 : Int32))] [(.int (1 : Int32)), (.int (0 : Int32))]))
        refine go (fun _ => XS.icmpNo X24.here hx rfl (hb hby at_110) rfl (feq (by decide : ¬ ((0 : Int32) = 1))).1) ?_
        show Run p e below _ (T24.setTop (mkF m 113 #[.val (.int p0), .val (.int p1), .val (.int (1 : Int32)), .val (.int p1), .val (.ref wA), .val (.ref wO), .val (.int (1 : Int32)), .val (.int (1 : Int32)), .val (.int (0 : Int32))] []))
        refine go (fun _ => XS.iconst X24.here hx rfl (hb hby at_113)) ?_
        show Run p e below _ (T24.setTop (mkF m 114 #[.val (.int p0), .val (.int p1), .val (.int (1 : Int32)), .val (.int p1), .val (.ref wA), .val (.ref wO), .val (.int (1 : Int32)), .val (.int (1 : Int32)), .val (.int (0 : Int32))] [(.int (1 : Int32))]))
        refine go (fun _ => XS.goto X24.here hx rfl (pc0 := 114) (pc' := 118) rfl (hb hby at_114) (by decide) (by decide)) ?_
        show Run p e below _ (T24.setTop (mkF m 118 #[.val (.int p0), .val (.int p1), .val (.int (1 : Int32)), .val (.int p1), .val (.ref wA), .val (.ref wO), .val (.int (1 : Int32)), .val (.int (1 : Int32)), .val (.int (0 : Int32))] [(.int (1 : Int32))]))
        exact endN X24 hx hlk (t := .boolean) hret (by simp) (hb hby at_118) (⟨rfl, N24⟩) (by decide) (by decide)
      · skip
        refine go (fun _ => XS.ifYes X21.here hx rfl (pc0 := 59) (pc' := 66) rfl (hb hby at_59) rfl ((if0 _ _).trans (feq c22).2) (by decide) (by decide)) ?_
        show Run p e below _ (T21.setTop (mkF m 66 #[.val (.int p0), .val (.int p1), .val (.int (1 : Int32)), .val (.int p1), .val (.ref wA), .val (.ref wO), .unset, .unset, .unset] []))
        refine go (fun _ => XS.iconst X21.here hx rfl (hb hby at_66)) ?_
        show Run p e below _ (T21.setTop (mkF m 67 #[.val (.int p0), .val (.int p1), .val (.int (1 : Int32)), .val (.int p1), .val (.ref wA), .val (.ref wO), .unset, .unset, .unset] [(.int (0 : Int32))]))
        refine go (fun _ => XS.istore X21.here hx rfl (hb hby at_67) rfl (l' := #[.val (.int p0), .val (.int p1), .val (.int (1 : Int32)), .val (.int p1), .val (.ref wA), .val (.ref wO), .val (.int (0 : Int32)), .unset, .unset]) rfl) ?_
        show Run p e below _ (T21.setTop (mkF m 69 #[.val (.int p0), .val (.int p1), .val (.int (1 : Int32)), .val (.int p1), .val (.ref wA), .val (.ref wO), .val (.int (0 : Int32)), .unset, .unset] []))
        refine go (fun _ => XS.goto X21.here hx rfl (pc0 := 69) (pc' := 83) rfl (hb hby at_69) (by decide) (by decide)) ?_
        show Run p e below _ (T21.setTop (mkF m 83 #[.val (.int p0), .val (.int p1), .val (.int (1 : Int32)), .val (.int p1), .val (.ref wA), .val (.ref wO), .val (.int (0 : Int32)), .unset, .unset] []))
        refine go (fun _ => XS.aload X21.here hx rfl (hb hby at_83) rfl rfl) ?_
        show Run p e below _ (T21.setTop (mkF m 85 #[.val (.int p0), .val (.int p1), .val (.int (1 : Int32)), .val (.int p1), .val (.ref wA), .val (.ref wO), .val (.int (0 : Int32)), .unset, .unset] [(.ref wA)]))
        refine go (fun _ => XS.iloadN X21.here hx rfl (hb hby at_85) rfl) ?_
        show Run p e below _ (T21.setTop (mkF m 86 #[.val (.int p0), .val (.int p1), .val (.int (1 : Int32)), .val (.int p1), .val (.ref wA), .val (.ref wO), .val (.int (0 : Int32)), .unset, .unset] [(.int p1), (.ref wA)]))
        refine callVi X21 hx hZ hown (wd hw 5 rfl) (wd hw 6 rfl) (notFace_of_selects (args := #[]) (mvT hZ (wd hw 8 rfl))) (wd hw 8 rfl) (wd hw 7 rfl) (wd hw 9 rfl) (wd hw 1 rfl) (by decide) e21 (EwA.ext O0.2) (argsL := [(.int p1)]) (rest := []) (rm_ra l Z a0 hw [] wA p1 wA wO h0 n0 O0 SwA SwO) (W := 0) (by decide) (by decide) (by decide) (by decide) (by rw [hml]; rfl) (lenOf pd_0 rfl) rfl (by decide) (hb hby at_86) ?_
        intro v25 T25 L25 h25 X25 e25 q25
        obtain ⟨rv, n25, k25⟩ := q25
        replace rv : v25 = some (.int (0 : Int32)) := by simpa [hAO, hAO.symm, c22] using rv
        subst rv
        have e25 := e25.trans k25
        have N25 := Fr.app N0 n25
        show Run p e below _ (T25.setTop (mkF m 89 #[.val (.int p0), .val (.int p1), .val (.int (1 : Int32)), .val (.int p1), .val (.ref wA), .val (.ref wO), .val (.int (0 : Int32)), .unset, .unset] [(.int (0 : Int32))]))
        refine go (fun _ => XS.istore X25.here hx rfl (hb hby at_89) rfl (l' := #[.val (.int p0), .val (.int p1), .val (.int (1 : Int32)), .val (.int p1), .val (.ref wA), .val (.ref wO), .val (.int (0 : Int32)), .val (.int (0 : Int32)), .unset]) rfl) ?_
        show Run p e below _ (T25.setTop (mkF m 91 #[.val (.int p0), .val (.int p1), .val (.int (1 : Int32)), .val (.int p1), .val (.ref wA), .val (.ref wO), .val (.int (0 : Int32)), .val (.int (0 : Int32)), .unset] []))
        refine go (fun _ => XS.aload X25.here hx rfl (hb hby at_91) rfl rfl) ?_
        show Run p e below _ (T25.setTop (mkF m 93 #[.val (.int p0), .val (.int p1), .val (.int (1 : Int32)), .val (.int p1), .val (.ref wA), .val (.ref wO), .val (.int (0 : Int32)), .val (.int (0 : Int32)), .unset] [(.ref wO)]))
        refine go (fun _ => XS.iloadN X25.here hx rfl (hb hby at_93) rfl) ?_
        show Run p e below _ (T25.setTop (mkF m 94 #[.val (.int p0), .val (.int p1), .val (.int (1 : Int32)), .val (.int p1), .val (.ref wA), .val (.ref wO), .val (.int (0 : Int32)), .val (.int (0 : Int32)), .unset] [(.int p1), (.ref wO)]))
        refine callVi X25 hx hZ hown (wd hw 5 rfl) (wd hw 6 rfl) (notFace_of_selects (args := #[]) (mvT hZ (wd hw 8 rfl))) (wd hw 8 rfl) (wd hw 7 rfl) (wd hw 9 rfl) (wd hw 1 rfl) (by decide) e25 (EwO.ext O0.2) (argsL := [(.int p1)]) (rest := []) (rm_ra l Z a0 hw [] wO p1 wA wO h0 n0 O0 SwA SwO) (W := 0) (by decide) (by decide) (by decide) (by decide) (by rw [hml]; rfl) (lenOf pd_0 rfl) rfl (by decide) (hb hby at_94) ?_
        intro v26 T26 L26 h26 X26 e26 q26
        obtain ⟨rv, n26, k26⟩ := q26
        replace rv : v26 = some (.int (1 : Int32)) := by simpa [hAO, hAO.symm, c22] using rv
        subst rv
        have e26 := e26.trans k26
        have N26 := Fr.app N25 n26
        show Run p e below _ (T26.setTop (mkF m 97 #[.val (.int p0), .val (.int p1), .val (.int (1 : Int32)), .val (.int p1), .val (.ref wA), .val (.ref wO), .val (.int (0 : Int32)), .val (.int (0 : Int32)), .unset] [(.int (1 : Int32))]))
        refine go (fun _ => XS.istore X26.here hx rfl (hb hby at_97) rfl (l' := #[.val (.int p0), .val (.int p1), .val (.int (1 : Int32)), .val (.int p1), .val (.ref wA), .val (.ref wO), .val (.int (0 : Int32)), .val (.int (0 : Int32)), .val (.int (1 : Int32))]) rfl) ?_
        show Run p e below _ (T26.setTop (mkF m 99 #[.val (.int p0), .val (.int p1), .val (.int (1 : Int32)), .val (.int p1), .val (.ref wA), .val (.ref wO), .val (.int (0 : Int32)), .val (.int (0 : Int32)), .val (.int (1 : Int32))] []))
        refine go (fun _ => XS.iload X26.here hx rfl (hb hby at_99) rfl) ?_
        show Run p e below _ (T26.setTop (mkF m 101 #[.val (.int p0), .val (.int p1), .val (.int (1 : Int32)), .val (.int p1), .val (.ref wA), .val (.ref wO), .val (.int (0 : Int32)), .val (.int (0 : Int32)), .val (.int (1 : Int32))] [(.int (0 : Int32))]))
        refine go (fun _ => XS.iload X26.here hx rfl (hb hby at_101) rfl) ?_
        show Run p e below _ (T26.setTop (mkF m 103 #[.val (.int p0), .val (.int p1), .val (.int (1 : Int32)), .val (.int p1), .val (.ref wA), .val (.ref wO), .val (.int (0 : Int32)), .val (.int (0 : Int32)), .val (.int (1 : Int32))] [(.int (0 : Int32)), (.int (0 : Int32))]))
        refine go (fun _ => XS.icmpNo X26.here hx rfl (hb hby at_103) rfl (teq (by decide : (0 : Int32) = 0)).2) ?_
        show Run p e below _ (T26.setTop (mkF m 106 #[.val (.int p0), .val (.int p1), .val (.int (1 : Int32)), .val (.int p1), .val (.ref wA), .val (.ref wO), .val (.int (0 : Int32)), .val (.int (0 : Int32)), .val (.int (1 : Int32))] []))
        refine go (fun _ => XS.iload X26.here hx rfl (hb hby at_106) rfl) ?_
        show Run p e below _ (T26.setTop (mkF m 108 #[.val (.int p0), .val (.int p1), .val (.int (1 : Int32)), .val (.int p1), .val (.ref wA), .val (.ref wO), .val (.int (0 : Int32)), .val (.int (0 : Int32)), .val (.int (1 : Int32))] [(.int (1 : Int32))]))
        refine go (fun _ => XS.iload X26.here hx rfl (hb hby at_108) rfl) ?_
        show Run p e below _ (T26.setTop (mkF m 110 #[.val (.int p0), .val (.int p1), .val (.int (1 : Int32)), .val (.int p1), .val (.ref wA), .val (.ref wO), .val (.int (0 : Int32)), .val (.int (0 : Int32)), .val (.int (1 : Int32))] [(.int (0 : Int32)), (.int (1 : Int32))]))
        refine go (fun _ => XS.icmpNo X26.here hx rfl (hb hby at_110) rfl (feq (by decide : ¬ ((1 : Int32) = 0))).1) ?_
        show Run p e below _ (T26.setTop (mkF m 113 #[.val (.int p0), .val (.int p1), .val (.int (1 : Int32)), .val (.int p1), .val (.ref wA), .val (.ref wO), .val (.int (0 : Int32)), .val (.int (0 : Int32)), .val (.int (1 : Int32))] []))
        refine go (fun _ => XS.iconst X26.here hx rfl (hb hby at_113)) ?_
        show Run p e below _ (T26.setTop (mkF m 114 #[.val (.int p0), .val (.int p1), .val (.int (1 : Int32)), .val (.int p1), .val (.ref wA), .val (.ref wO), .val (.int (0 : Int32)), .val (.int (0 : Int32)), .val (.int (1 : Int32))] [(.int (1 : Int32))]))
        refine go (fun _ => XS.goto X26.here hx rfl (pc0 := 114) (pc' := 118) rfl (hb hby at_114) (by decide) (by decide)) ?_
        show Run p e below _ (T26.setTop (mkF m 118 #[.val (.int p0), .val (.int p1), .val (.int (1 : Int32)), .val (.int p1), .val (.ref wA), .val (.ref wO), .val (.int (0 : Int32)), .val (.int (0 : Int32)), .val (.int (1 : Int32))] [(.int (1 : Int32))]))
        exact endN X26 hx hlk (t := .boolean) hret (by simp) (hb hby at_118) (⟨rfl, N26⟩) (by decide) (by decide)
    · skip
      refine go (fun _ => XS.ifNo X0.here hx rfl (hb hby at_15) rfl ((if0 _ _).trans (feq c19).1)) ?_
      show Run p e below _ (T0.setTop (mkF m 18 #[.val (.int p0), .val (.int p1), .val (.int (1 : Int32)), .unset, .unset, .unset, .unset, .unset, .unset] []))
      refine go (fun _ => XS.iconst X0.here hx rfl (hb hby at_18)) ?_
      show Run p e below _ (T0.setTop (mkF m 19 #[.val (.int p0), .val (.int p1), .val (.int (1 : Int32)), .unset, .unset, .unset, .unset, .unset, .unset] [(.int (0 : Int32))]))
      refine go (fun _ => XS.goto X0.here hx rfl (pc0 := 19) (pc' := 23) rfl (hb hby at_19) (by decide) (by decide)) ?_
      show Run p e below _ (T0.setTop (mkF m 23 #[.val (.int p0), .val (.int p1), .val (.int (1 : Int32)), .unset, .unset, .unset, .unset, .unset, .unset] [(.int (0 : Int32))]))
      refine go (fun _ => XS.istoreN X0.here hx rfl (hb hby at_23) rfl (l' := #[.val (.int p0), .val (.int p1), .val (.int (1 : Int32)), .val (.int (0 : Int32)), .unset, .unset, .unset, .unset, .unset]) rfl) ?_
      show Run p e below _ (T0.setTop (mkF m 24 #[.val (.int p0), .val (.int p1), .val (.int (1 : Int32)), .val (.int (0 : Int32)), .unset, .unset, .unset, .unset, .unset] []))
      refine go (fun _ => XS.iloadN X0.here hx rfl (hb hby at_24) rfl) ?_
      show Run p e below _ (T0.setTop (mkF m 25 #[.val (.int p0), .val (.int p1), .val (.int (1 : Int32)), .val (.int (0 : Int32)), .unset, .unset, .unset, .unset, .unset] [(.int (1 : Int32))]))
      refine go (fun _ => XS.ifNo X0.here hx rfl (hb hby at_25) rfl ((if0 _ _).trans (feq (by decide : ¬ ((1 : Int32) = 0))).1)) ?_
      show Run p e below _ (T0.setTop (mkF m 28 #[.val (.int p0), .val (.int p1), .val (.int (1 : Int32)), .val (.int (0 : Int32)), .unset, .unset, .unset, .unset, .unset] []))
      obtain ⟨T27, X27, e27, st27⟩ := getS2 X0 hx hZ hown (host := "") (Or.inl (wd hw 3 rfl)) Via.refl e0 (SwA.ext O0.2) (g := (mkF m 28 #[.val (.int p0), .val (.int p1), .val (.int (1 : Int32)), .val (.int (0 : Int32)), .unset, .unset, .unset, .unset, .unset] [])) rfl (hb hby at_28)
      refine go st27 ?_
      show Run p e below _ (T27.setTop (mkF m 31 #[.val (.int p0), .val (.int p1), .val (.int (1 : Int32)), .val (.int (0 : Int32)), .unset, .unset, .unset, .unset, .unset] [(.ref wA)]))
      refine go (fun _ => XS.goto X27.here hx rfl (pc0 := 31) (pc' := 37) rfl (hb hby at_31) (by decide) (by decide)) ?_
      show Run p e below _ (T27.setTop (mkF m 37 #[.val (.int p0), .val (.int p1), .val (.int (1 : Int32)), .val (.int (0 : Int32)), .unset, .unset, .unset, .unset, .unset] [(.ref wA)]))
      refine go (fun _ => XS.astore X27.here hx rfl (hb hby at_37) rfl rfl (l' := #[.val (.int p0), .val (.int p1), .val (.int (1 : Int32)), .val (.int (0 : Int32)), .val (.ref wA), .unset, .unset, .unset, .unset]) rfl) ?_
      show Run p e below _ (T27.setTop (mkF m 39 #[.val (.int p0), .val (.int p1), .val (.int (1 : Int32)), .val (.int (0 : Int32)), .val (.ref wA), .unset, .unset, .unset, .unset] []))
      refine go (fun _ => XS.iloadN X27.here hx rfl (hb hby at_39) rfl) ?_
      show Run p e below _ (T27.setTop (mkF m 40 #[.val (.int p0), .val (.int p1), .val (.int (1 : Int32)), .val (.int (0 : Int32)), .val (.ref wA), .unset, .unset, .unset, .unset] [(.int (1 : Int32))]))
      refine go (fun _ => XS.ifNo X27.here hx rfl (hb hby at_40) rfl ((if0 _ _).trans (feq (by decide : ¬ ((1 : Int32) = 0))).1)) ?_
      show Run p e below _ (T27.setTop (mkF m 43 #[.val (.int p0), .val (.int p1), .val (.int (1 : Int32)), .val (.int (0 : Int32)), .val (.ref wA), .unset, .unset, .unset, .unset] []))
      obtain ⟨T28, X28, e28, st28⟩ := getS2 X27 hx hZ hown (host := "") (Or.inl (wd hw 0 rfl)) Via.refl e27 (SwO.ext O0.2) (g := (mkF m 43 #[.val (.int p0), .val (.int p1), .val (.int (1 : Int32)), .val (.int (0 : Int32)), .val (.ref wA), .unset, .unset, .unset, .unset] [])) rfl (hb hby at_43)
      refine go st28 ?_
      show Run p e below _ (T28.setTop (mkF m 46 #[.val (.int p0), .val (.int p1), .val (.int (1 : Int32)), .val (.int (0 : Int32)), .val (.ref wA), .unset, .unset, .unset, .unset] [(.ref wO)]))
      refine go (fun _ => XS.goto X28.here hx rfl (pc0 := 46) (pc' := 52) rfl (hb hby at_46) (by decide) (by decide)) ?_
      show Run p e below _ (T28.setTop (mkF m 52 #[.val (.int p0), .val (.int p1), .val (.int (1 : Int32)), .val (.int (0 : Int32)), .val (.ref wA), .unset, .unset, .unset, .unset] [(.ref wO)]))
      refine go (fun _ => XS.astore X28.here hx rfl (hb hby at_52) rfl rfl (l' := #[.val (.int p0), .val (.int p1), .val (.int (1 : Int32)), .val (.int (0 : Int32)), .val (.ref wA), .val (.ref wO), .unset, .unset, .unset]) rfl) ?_
      show Run p e below _ (T28.setTop (mkF m 54 #[.val (.int p0), .val (.int p1), .val (.int (1 : Int32)), .val (.int (0 : Int32)), .val (.ref wA), .val (.ref wO), .unset, .unset, .unset] []))
      refine go (fun _ => XS.iloadN X28.here hx rfl (hb hby at_54) rfl) ?_
      show Run p e below _ (T28.setTop (mkF m 55 #[.val (.int p0), .val (.int p1), .val (.int (1 : Int32)), .val (.int (0 : Int32)), .val (.ref wA), .val (.ref wO), .unset, .unset, .unset] [(.int (1 : Int32))]))
      refine go (fun _ => XS.ifNo X28.here hx rfl (hb hby at_55) rfl ((if0 _ _).trans (feq (by decide : ¬ ((1 : Int32) = 0))).1)) ?_
      show Run p e below _ (T28.setTop (mkF m 58 #[.val (.int p0), .val (.int p1), .val (.int (1 : Int32)), .val (.int (0 : Int32)), .val (.ref wA), .val (.ref wO), .unset, .unset, .unset] []))
      refine go (fun _ => XS.iloadN X28.here hx rfl (hb hby at_58) rfl) ?_
      show Run p e below _ (T28.setTop (mkF m 59 #[.val (.int p0), .val (.int p1), .val (.int (1 : Int32)), .val (.int (0 : Int32)), .val (.ref wA), .val (.ref wO), .unset, .unset, .unset] [(.int (0 : Int32))]))
      refine go (fun _ => XS.ifNo X28.here hx rfl (hb hby at_59) rfl ((if0 _ _).trans (teq (by decide : (0 : Int32) = 0)).2)) ?_
      show Run p e below _ (T28.setTop (mkF m 62 #[.val (.int p0), .val (.int p1), .val (.int (1 : Int32)), .val (.int (0 : Int32)), .val (.ref wA), .val (.ref wO), .unset, .unset, .unset] []))
      refine go (fun _ => XS.iconst X28.here hx rfl (hb hby at_62)) ?_
      show Run p e below _ (T28.setTop (mkF m 63 #[.val (.int p0), .val (.int p1), .val (.int (1 : Int32)), .val (.int (0 : Int32)), .val (.ref wA), .val (.ref wO), .unset, .unset, .unset] [(.int (1 : Int32))]))
      refine go (fun _ => XS.goto X28.here hx rfl (pc0 := 63) (pc' := 67) rfl (hb hby at_63) (by decide) (by decide)) ?_
      show Run p e below _ (T28.setTop (mkF m 67 #[.val (.int p0), .val (.int p1), .val (.int (1 : Int32)), .val (.int (0 : Int32)), .val (.ref wA), .val (.ref wO), .unset, .unset, .unset] [(.int (1 : Int32))]))
      refine go (fun _ => XS.istore X28.here hx rfl (hb hby at_67) rfl (l' := #[.val (.int p0), .val (.int p1), .val (.int (1 : Int32)), .val (.int (0 : Int32)), .val (.ref wA), .val (.ref wO), .val (.int (1 : Int32)), .unset, .unset]) rfl) ?_
      show Run p e below _ (T28.setTop (mkF m 69 #[.val (.int p0), .val (.int p1), .val (.int (1 : Int32)), .val (.int (0 : Int32)), .val (.ref wA), .val (.ref wO), .val (.int (1 : Int32)), .unset, .unset] []))
      refine go (fun _ => XS.goto X28.here hx rfl (pc0 := 69) (pc' := 83) rfl (hb hby at_69) (by decide) (by decide)) ?_
      show Run p e below _ (T28.setTop (mkF m 83 #[.val (.int p0), .val (.int p1), .val (.int (1 : Int32)), .val (.int (0 : Int32)), .val (.ref wA), .val (.ref wO), .val (.int (1 : Int32)), .unset, .unset] []))
      refine go (fun _ => XS.aload X28.here hx rfl (hb hby at_83) rfl rfl) ?_
      show Run p e below _ (T28.setTop (mkF m 85 #[.val (.int p0), .val (.int p1), .val (.int (1 : Int32)), .val (.int (0 : Int32)), .val (.ref wA), .val (.ref wO), .val (.int (1 : Int32)), .unset, .unset] [(.ref wA)]))
      refine go (fun _ => XS.iloadN X28.here hx rfl (hb hby at_85) rfl) ?_
      show Run p e below _ (T28.setTop (mkF m 86 #[.val (.int p0), .val (.int p1), .val (.int (1 : Int32)), .val (.int (0 : Int32)), .val (.ref wA), .val (.ref wO), .val (.int (1 : Int32)), .unset, .unset] [(.int (0 : Int32)), (.ref wA)]))
      refine callVi X28 hx hZ hown (wd hw 5 rfl) (wd hw 6 rfl) (notFace_of_selects (args := #[]) (mvT hZ (wd hw 8 rfl))) (wd hw 8 rfl) (wd hw 7 rfl) (wd hw 9 rfl) (wd hw 1 rfl) (by decide) e28 (EwA.ext O0.2) (argsL := [(.int (0 : Int32))]) (rest := []) (rm_ra l Z a0 hw [] wA (0 : Int32) wA wO h0 n0 O0 SwA SwO) (W := 0) (by decide) (by decide) (by decide) (by decide) (by rw [hml]; rfl) (lenOf pd_0 rfl) rfl (by decide) (hb hby at_86) ?_
      intro v29 T29 L29 h29 X29 e29 q29
      obtain ⟨rv, n29, k29⟩ := q29
      replace rv : v29 = some (.int (1 : Int32)) := by simpa [hAO, hAO.symm] using rv
      subst rv
      have e29 := e29.trans k29
      have N29 := Fr.app N0 n29
      show Run p e below _ (T29.setTop (mkF m 89 #[.val (.int p0), .val (.int p1), .val (.int (1 : Int32)), .val (.int (0 : Int32)), .val (.ref wA), .val (.ref wO), .val (.int (1 : Int32)), .unset, .unset] [(.int (1 : Int32))]))
      refine go (fun _ => XS.istore X29.here hx rfl (hb hby at_89) rfl (l' := #[.val (.int p0), .val (.int p1), .val (.int (1 : Int32)), .val (.int (0 : Int32)), .val (.ref wA), .val (.ref wO), .val (.int (1 : Int32)), .val (.int (1 : Int32)), .unset]) rfl) ?_
      show Run p e below _ (T29.setTop (mkF m 91 #[.val (.int p0), .val (.int p1), .val (.int (1 : Int32)), .val (.int (0 : Int32)), .val (.ref wA), .val (.ref wO), .val (.int (1 : Int32)), .val (.int (1 : Int32)), .unset] []))
      refine go (fun _ => XS.aload X29.here hx rfl (hb hby at_91) rfl rfl) ?_
      show Run p e below _ (T29.setTop (mkF m 93 #[.val (.int p0), .val (.int p1), .val (.int (1 : Int32)), .val (.int (0 : Int32)), .val (.ref wA), .val (.ref wO), .val (.int (1 : Int32)), .val (.int (1 : Int32)), .unset] [(.ref wO)]))
      refine go (fun _ => XS.iloadN X29.here hx rfl (hb hby at_93) rfl) ?_
      show Run p e below _ (T29.setTop (mkF m 94 #[.val (.int p0), .val (.int p1), .val (.int (1 : Int32)), .val (.int (0 : Int32)), .val (.ref wA), .val (.ref wO), .val (.int (1 : Int32)), .val (.int (1 : Int32)), .unset] [(.int (0 : Int32)), (.ref wO)]))
      refine callVi X29 hx hZ hown (wd hw 5 rfl) (wd hw 6 rfl) (notFace_of_selects (args := #[]) (mvT hZ (wd hw 8 rfl))) (wd hw 8 rfl) (wd hw 7 rfl) (wd hw 9 rfl) (wd hw 1 rfl) (by decide) e29 (EwO.ext O0.2) (argsL := [(.int (0 : Int32))]) (rest := []) (rm_ra l Z a0 hw [] wO (0 : Int32) wA wO h0 n0 O0 SwA SwO) (W := 0) (by decide) (by decide) (by decide) (by decide) (by rw [hml]; rfl) (lenOf pd_0 rfl) rfl (by decide) (hb hby at_94) ?_
      intro v30 T30 L30 h30 X30 e30 q30
      obtain ⟨rv, n30, k30⟩ := q30
      replace rv : v30 = some (.int (0 : Int32)) := by simpa [hAO, hAO.symm] using rv
      subst rv
      have e30 := e30.trans k30
      have N30 := Fr.app N29 n30
      show Run p e below _ (T30.setTop (mkF m 97 #[.val (.int p0), .val (.int p1), .val (.int (1 : Int32)), .val (.int (0 : Int32)), .val (.ref wA), .val (.ref wO), .val (.int (1 : Int32)), .val (.int (1 : Int32)), .unset] [(.int (0 : Int32))]))
      refine go (fun _ => XS.istore X30.here hx rfl (hb hby at_97) rfl (l' := #[.val (.int p0), .val (.int p1), .val (.int (1 : Int32)), .val (.int (0 : Int32)), .val (.ref wA), .val (.ref wO), .val (.int (1 : Int32)), .val (.int (1 : Int32)), .val (.int (0 : Int32))]) rfl) ?_
      show Run p e below _ (T30.setTop (mkF m 99 #[.val (.int p0), .val (.int p1), .val (.int (1 : Int32)), .val (.int (0 : Int32)), .val (.ref wA), .val (.ref wO), .val (.int (1 : Int32)), .val (.int (1 : Int32)), .val (.int (0 : Int32))] []))
      refine go (fun _ => XS.iload X30.here hx rfl (hb hby at_99) rfl) ?_
      show Run p e below _ (T30.setTop (mkF m 101 #[.val (.int p0), .val (.int p1), .val (.int (1 : Int32)), .val (.int (0 : Int32)), .val (.ref wA), .val (.ref wO), .val (.int (1 : Int32)), .val (.int (1 : Int32)), .val (.int (0 : Int32))] [(.int (1 : Int32))]))
      refine go (fun _ => XS.iload X30.here hx rfl (hb hby at_101) rfl) ?_
      show Run p e below _ (T30.setTop (mkF m 103 #[.val (.int p0), .val (.int p1), .val (.int (1 : Int32)), .val (.int (0 : Int32)), .val (.ref wA), .val (.ref wO), .val (.int (1 : Int32)), .val (.int (1 : Int32)), .val (.int (0 : Int32))] [(.int (1 : Int32)), (.int (1 : Int32))]))
      refine go (fun _ => XS.icmpNo X30.here hx rfl (hb hby at_103) rfl (teq (by decide : (1 : Int32) = 1)).2) ?_
      show Run p e below _ (T30.setTop (mkF m 106 #[.val (.int p0), .val (.int p1), .val (.int (1 : Int32)), .val (.int (0 : Int32)), .val (.ref wA), .val (.ref wO), .val (.int (1 : Int32)), .val (.int (1 : Int32)), .val (.int (0 : Int32))] []))
      refine go (fun _ => XS.iload X30.here hx rfl (hb hby at_106) rfl) ?_
      show Run p e below _ (T30.setTop (mkF m 108 #[.val (.int p0), .val (.int p1), .val (.int (1 : Int32)), .val (.int (0 : Int32)), .val (.ref wA), .val (.ref wO), .val (.int (1 : Int32)), .val (.int (1 : Int32)), .val (.int (0 : Int32))] [(.int (0 : Int32))]))
      refine go (fun _ => XS.iload X30.here hx rfl (hb hby at_108) rfl) ?_
      show Run p e below _ (T30.setTop (mkF m 110 #[.val (.int p0), .val (.int p1), .val (.int (1 : Int32)), .val (.int (0 : Int32)), .val (.ref wA), .val (.ref wO), .val (.int (1 : Int32)), .val (.int (1 : Int32)), .val (.int (0 : Int32))] [(.int (1 : Int32)), (.int (0 : Int32))]))
      refine go (fun _ => XS.icmpNo X30.here hx rfl (hb hby at_110) rfl (feq (by decide : ¬ ((0 : Int32) = 1))).1) ?_
      show Run p e below _ (T30.setTop (mkF m 113 #[.val (.int p0), .val (.int p1), .val (.int (1 : Int32)), .val (.int (0 : Int32)), .val (.ref wA), .val (.ref wO), .val (.int (1 : Int32)), .val (.int (1 : Int32)), .val (.int (0 : Int32))] []))
      refine go (fun _ => XS.iconst X30.here hx rfl (hb hby at_113)) ?_
      show Run p e below _ (T30.setTop (mkF m 114 #[.val (.int p0), .val (.int p1), .val (.int (1 : Int32)), .val (.int (0 : Int32)), .val (.ref wA), .val (.ref wO), .val (.int (1 : Int32)), .val (.int (1 : Int32)), .val (.int (0 : Int32))] [(.int (1 : Int32))]))
      refine go (fun _ => XS.goto X30.here hx rfl (pc0 := 114) (pc' := 118) rfl (hb hby at_114) (by decide) (by decide)) ?_
      show Run p e below _ (T30.setTop (mkF m 118 #[.val (.int p0), .val (.int p1), .val (.int (1 : Int32)), .val (.int (0 : Int32)), .val (.ref wA), .val (.ref wO), .val (.int (1 : Int32)), .val (.int (1 : Int32)), .val (.int (0 : Int32))] [(.int (1 : Int32))]))
      exact endN X30 hx hlk (t := .boolean) hret (by simp) (hb hby at_118) (⟨rfl, N30⟩) (by decide) (by decide)
set_option maxRecDepth 65536 in
set_option maxHeartbeats 40000000 in
theorem comes_1 {Post : Tables → Env → Array Value → State → Outcome → State → Prop} (hpost : ∀ tb e args s v u, (limb_1_1.after args s (.returned v) u = true ∧ limb_1_2.after args s (.returned v) u = true ∧ True) → FrameEnd s (.returned v) u (Jvm.fieldLocs frame_1_writes args s ++ Jvm.arrayLocs frame_1_arrays args s ++ Jvm.staticLocs frame_1_statics s) 0 0 → Post tb e args s (.returned v) u) :
    ArmFor flags0 classFile x code maxLocals ret World_1 tables_1 room_1 Calls_1 rest_1 Pre_1 Post := by
  intro l hfl _ _ p e ha hc hk s m args below hf hA hF happ hP
  obtain ⟨hcalls, hrest, hpre⟩ := hP
  obtain ⟨-, -, -, hnamed, -, -, -, hat⟩ := (Spec.applies_iff hf).mp happ
  obtain ⟨hg, hn⟩ := and_e (Cond.before_iff.mp (show (Jvm.Cond.and given_1 narrow_1).before args s = true from hpre))
  obtain ⟨h1, hg⟩ := and_e hg
  obtain ⟨g0, hg⟩ := and_e hg
  have g1 := hg
  obtain ⟨w0, w1, rfl⟩ : ∃ w0 w1 : Value, args = #[w0, w1] := by
    have hs : args.size = 2 := by simpa [Cond.value, given_1] using h1
    obtain ⟨L⟩ := args
    match L, hs with
    | [w0, w1], _ => exact ⟨w0, w1, rfl⟩
  have hw := fun d (hd : d ∈ tables_1) => atoms_spec (ws := Jvm.Cond.code x code maxLocals ret :: tables_1) hat d (List.mem_cons_of_mem _ hd)
  have hfit : Fit s := fun {y c} hc i hi => by
    obtain ⟨ha, rfl⟩ := Array.getElem?_eq_some_iff.mp hc
    have q := List.all_eq_true.mp ((Array.all_eq_true_iff_forall_mem.mp hF) _ (Array.getElem_mem ha)) i (List.mem_range.mpr hi)
    simpa [Array.getElem?_eq_getElem hi] using q
  obtain ⟨i0, ev0⟩ := is_v g0
  obtain rfl : w0 = (.int i0) := Option.some.inj ev0
  obtain ⟨i1, ev1⟩ := is_v g1
  obtain rfl : w1 = (.int i1) := Option.some.inj ev1
  obtain ⟨k0, hn⟩ := and_e hn
  obtain ⟨k1, hn⟩ := and_e hn
  obtain ⟨k2, hn⟩ := and_e hn
  have k3 := hn
  obtain ⟨wO, evwO, SwO, EwO⟩ := sta_exa (n := "OR") (wd hw 1 rfl) (wd hw 2 rfl) k0
  obtain ⟨wA, evwA, SwA, EwA⟩ := sta_exa (n := "AND") (wd hw 1 rfl) (wd hw 4 rfl) k1
  have FwO := fld_int evwO k2
  have FwA := fld_int evwA k3
  obtain ⟨n, o, h1, h2, h3, _, L, rfl, ⟨rfl, N⟩, hq⟩ := rmlaw l s _ hw tables_1 i0 i1 wA wO s.heap s.heap.size (Old.start s) SwA SwO EwA EwO (Fld.ne FwA FwO (by decide)) p e ha hc hk s m _ below hf ((Spec.applies_iff_loose hf).mp happ).1 ⟨rfl, State.Warmed39.refl s, rfl⟩ trivial
  refine ⟨n, _, h1, h2, h3, hpost _ _ _ _ _ _ ⟨Cond.after_iff.mpr rfl, Cond.after_iff.mpr (eq_i res_at (Term.int_eval (1)) rfl), trivial⟩ ⟨hq.1, hq.2.1, (hq.2.2.sift fun y hy => Or.inr (N y hy)).mono (by decide) (by decide)⟩⟩
theorem main_1_1 : Claimed_1_1 := comes_1 fun _ _ _ _ _ _ h hF => ⟨h.1, hF⟩
theorem main_1_2 : Claimed_1_2 := comes_1 fun _ _ _ _ _ _ h hF => ⟨h.2.1, hF⟩
end Jvm.Pilot.@@N@@
namespace Jvm.Pilot.@@N@@
open Jvm Jvm.ClassFile Sem Op Lib Jvm.Free Jvm.Stand Jvm.Pilot.@@N@@.Jvm.D
/-! MADE BY PROGRAM (witnessworld.py) out of the Statement's table words and the real class files: 12 classes; the members and pool entries that the words name. The judged class is class 1, her method 1. -/
namespace start1
open Jvm.ClassFile
def u (s : String) : CpInfo := .utf8 (stringToUtf16 s)
/-- a pool by its gaps: so many unusable entries, then the entry; so many at the end -/
def gap : Nat → List CpInfo → List CpInfo
  | 0, r => r
  | n + 1, r => .unusable :: gap n r
def poolList (es : List (Nat × CpInfo)) (last : Nat) : List CpInfo := es.foldr (fun e r => gap e.1 (e.2 :: r)) (gap last [])
def pool (es : List (Nat × CpInfo)) (last : Nat) : Array CpInfo := ⟨poolList es last⟩
def fileOf (pool : Array CpInfo) (this : Nat) (attrs : Array Attribute := #[]) (ms : Array MethodInfo := #[]) (fl : Nat := 33) (sup : Nat := 0) (ifs : Array Nat := #[]) (fds : Array FieldInfo := #[]) : ClassFile where
  minorVersion := 0
  majorVersion := 65
  constantPool := pool
  accessFlags := fl
  thisClass := this
  superClass := sup
  interfaces := ifs
  fields := fds
  methods := ms
  attributes := attrs
def plain (name : String) (sup : Option ClassId) : Class where
  name := name
  kind := .ordinary
  loader := none
  accessFlags := 33
  super := sup
  interfaces := #[]
  cf := none
  fields := #[]
  methods := #[]
  instanceTypes := #[]
  staticTypes := #[]
  resolved := #[]
  callSites := []
  init := .initialized
  statics := none
  mirror := none

def pool0 : Array CpInfo := pool [(5, u "<init>"), (0, u "()V"), (1, .class_ 10), (1, u "java/lang/Object")] 113

def k0m0 : Method := { name := "<init>", desc := "()V", sig := { parameters := [], returnType := none }, accessFlags := 1, code := none }
/-- java/lang/Object -/
def k0 : Class := { plain "java/lang/Object" none with
  accessFlags := 33
  interfaces := #[]
  cf := some (fileOf pool0 8 #[] #[{ accessFlags := 1, nameIndex := 5, descriptorIndex := 6, attributes := #[] }] 33 0 #[] #[])
  fields := #[]
  methods := #[k0m0]
  instanceTypes := #[]
  staticTypes := #[]
  resolved := Array.replicate 124 none
  statics := none }

def pool1 : Array CpInfo := pool [(2, .class_ 4), (1, u "java/lang/Object"), (0, u "<init>"), (0, u "()V"), (0, .fieldref 8 9), (0, .class_ 10), (0, .nameAndType 11 12), (0, u "com/example/pipewright/pipewright/core/AndOr$Condition"), (0, u "AND"), (0, u "Lcom/example/pipewright/pipewright/core/AndOr$Condition;"), (0, .fieldref 8 14), (0, .nameAndType 15 12), (0, u "OR"), (0, .methodref 8 17), (0, .nameAndType 18 19), (0, u "runsAfter"), (0, u "(I)Z"), (0, .class_ 21), (0, u "com/example/pipewright/pipewright/core/AndOrConditionRunsAfterPinLaw"), (2, u "law"), (0, u "(II)Z")] 7

def k1m0 : Method := { name := "<init>", desc := "()V", sig := { parameters := [], returnType := none }, accessFlags := 2, code := none }
def k1c1 : Code := { maxStack := 2, maxLocals := 9, code := code, exceptionTable := #[], attributes := #[] }
def k1m1 : Method := { name := "law", desc := "(II)Z", sig := { parameters := [.int, .int], returnType := some .boolean }, accessFlags := 9, code := some k1c1 }
/-- com/example/pipewright/pipewright/core/AndOrConditionRunsAfterPinLaw -/
def k1 : Class := { plain "com/example/pipewright/pipewright/core/AndOrConditionRunsAfterPinLaw" (some 0) with
  accessFlags := 49
  interfaces := #[]
  cf := some (fileOf pool1 20 #[] #[{ accessFlags := 2, nameIndex := 5, descriptorIndex := 6, attributes := #[] }, { accessFlags := 9, nameIndex := 24, descriptorIndex := 25, attributes := #[] }] 49 2 #[] #[])
  fields := #[]
  methods := #[k1m0, k1m1]
  instanceTypes := #[]
  staticTypes := #[]
  resolved := Array.replicate 33 none
  statics := none }

def pool2 : Array CpInfo := pool [(1, .class_ 2), (0, u "java/lang/constant/Constable"), (0, .class_ 4), (0, u "java/lang/Object")] 6

/-- java/lang/constant/Constable -/
def k2 : Class := { plain "java/lang/constant/Constable" (some 0) with
  accessFlags := 1537
  interfaces := #[]
  cf := some (fileOf pool2 1 #[] #[] 1537 3 #[] #[])
  fields := #[]
  methods := #[]
  instanceTypes := #[]
  staticTypes := #[]
  resolved := Array.replicate 11 none
  statics := none }

def pool3 : Array CpInfo := pool [(1, .class_ 2), (0, u "java/lang/Comparable"), (0, .class_ 4), (0, u "java/lang/Object")] 7

/-- java/lang/Comparable -/
def k3 : Class := { plain "java/lang/Comparable" (some 0) with
  accessFlags := 1537
  interfaces := #[]
  cf := some (fileOf pool3 1 #[] #[] 1537 3 #[] #[])
  fields := #[]
  methods := #[]
  instanceTypes := #[]
  staticTypes := #[]
  resolved := Array.replicate 12 none
  statics := none }

def pool4 : Array CpInfo := pool [(1, .class_ 2), (0, u "java/io/Serializable"), (0, .class_ 4), (0, u "java/lang/Object")] 2

/-- java/io/Serializable -/
def k4 : Class := { plain "java/io/Serializable" (some 0) with
  accessFlags := 1537
  interfaces := #[]
  cf := some (fileOf pool4 1 #[] #[] 1537 3 #[] #[])
  fields := #[]
  methods := #[]
  instanceTypes := #[]
  staticTypes := #[]
  resolved := Array.replicate 7 none
  statics := none }

def pool5 : Array CpInfo := pool [(2, .class_ 4), (1, u "java/lang/Enum"), (0, u "name"), (0, u "Ljava/lang/String;"), (2, u "ordinal"), (0, u "I"), (1, .class_ 14), (1, u "java/lang/Object"), (4, u "hash"), (86, .class_ 108), (1, u "java/lang/Enum$EnumDesc"), (2, .class_ 112), (0, u "java/lang/constant/Constable"), (0, .class_ 114), (0, u "java/lang/Comparable"), (0, .class_ 116), (0, u "java/io/Serializable")] 87

/-- java/lang/Enum -/
def k5 : Class := { plain "java/lang/Enum" (some 0) with
  accessFlags := 1057
  interfaces := #[2, 3, 4]
  cf := some (fileOf pool5 2 #[.nestMembers #[106]] #[] 1057 12 #[111, 113, 115] #[{ accessFlags := 18, nameIndex := 5, descriptorIndex := 6, attributes := #[] }, { accessFlags := 18, nameIndex := 9, descriptorIndex := 10, attributes := #[] }, { accessFlags := 2, nameIndex := 19, descriptorIndex := 10, attributes := #[] }])
  fields := #[{ name := "name", type := (.object "java/lang/String"), accessFlags := 18, slot := 0, constantValue := 0 }, { name := "ordinal", type := .int, accessFlags := 18, slot := 1, constantValue := 0 }, { name := "hash", type := .int, accessFlags := 2, slot := 2, constantValue := 0 }]
  methods := #[]
  instanceTypes := #[(.object "java/lang/String"), .int, .int]
  staticTypes := #[]
  resolved := Array.replicate 204 none
  statics := none }

def pool6 : Array CpInfo := pool [(1, .class_ 2), (0, u "com/example/pipewright/pipewright/core/AndOr$Condition"), (0, .fieldref 1 4), (0, .nameAndType 5 6), (0, u "AND"), (0, u "Lcom/example/pipewright/pipewright/core/AndOr$Condition;"), (2, u "OR"), (2, u "$VALUES"), (0, u "[Lcom/example/pipewright/pipewright/core/AndOr$Condition;"), (6, .class_ 22), (1, u "java/lang/Enum"), (20, u "runsAfter"), (0, u "(I)Z"), (6, .class_ 52), (0, u "com/example/pipewright/pipewright/core/AndOr")] 2

def k6c0 : Code := { maxStack := 3, maxLocals := 2, code := prog_37_method_4_code, exceptionTable := #[], attributes := #[] }
def k6m0 : Method := { name := "runsAfter", desc := "(I)Z", sig := { parameters := [.int], returnType := some .boolean }, accessFlags := 1, code := some k6c0 }
/-- com/example/pipewright/pipewright/core/AndOr$Condition -/
def k6 : Class := { plain "com/example/pipewright/pipewright/core/AndOr$Condition" (some 5) with
  accessFlags := 16433
  interfaces := #[]
  cf := some (fileOf pool6 1 #[.nestHost 51] #[{ accessFlags := 1, nameIndex := 43, descriptorIndex := 44, attributes := #[] }] 16433 20 #[] #[{ accessFlags := 16409, nameIndex := 5, descriptorIndex := 6, attributes := #[] }, { accessFlags := 16409, nameIndex := 9, descriptorIndex := 6, attributes := #[] }, { accessFlags := 4122, nameIndex := 12, descriptorIndex := 13, attributes := #[] }])
  fields := #[{ name := "AND", type := (.object "com/example/pipewright/pipewright/core/AndOr$Condition"), accessFlags := 16409, slot := 0, constantValue := 0 }, { name := "OR", type := (.object "com/example/pipewright/pipewright/core/AndOr$Condition"), accessFlags := 16409, slot := 1, constantValue := 0 }, { name := "$VALUES", type := (.array (.object "com/example/pipewright/pipewright/core/AndOr$Condition")), accessFlags := 4122, slot := 2, constantValue := 0 }]
  methods := #[k6m0]
  instanceTypes := #[(.object "java/lang/String"), .int, .int]
  staticTypes := #[(.object "com/example/pipewright/pipewright/core/AndOr$Condition"), (.object "com/example/pipewright/pipewright/core/AndOr$Condition"), (.array (.object "com/example/pipewright/pipewright/core/AndOr$Condition"))]
  resolved := Array.replicate 55 none
  statics := some 0 }

def pool7 : Array CpInfo := pool [(1, u "java/lang/Cloneable"), (0, .class_ 1), (0, u "java/lang/Object"), (0, .class_ 3)] 3

/-- java/lang/Cloneable -/
def k7 : Class := { plain "java/lang/Cloneable" (some 0) with
  accessFlags := 1537
  interfaces := #[]
  cf := some (fileOf pool7 2 #[] #[] 1537 4 #[] #[])
  fields := #[]
  methods := #[]
  instanceTypes := #[]
  staticTypes := #[]
  resolved := Array.replicate 8 none
  statics := none }

/-- the primitive byte -/
def k8 : Class := { plain "byte" none with kind := .primitive 'B', accessFlags := 0x411 }
/-- [B -/
def k9 : Class := { plain "[B" (some 0) with kind := .array 8 .byte, interfaces := #[7, 4], accessFlags := 1041 }

/-- the primitive int -/
def k10 : Class := { plain "int" none with kind := .primitive 'I', accessFlags := 0x411 }
/-- [I -/
def k11 : Class := { plain "[I" (some 0) with kind := .array 10 .int, interfaces := #[7, 4], accessFlags := 1041 }

def heap : Heap := #[{ cls := 6, slots := #[.ref 1, .ref 2, .null], vm := .statics 6 },
  { cls := 6, slots := #[.null, .int 0, .int 0], vm := .none },
  { cls := 6, slots := #[.null, .int 1, .int 0], vm := .none }]
def classes : Array Class := #[k0, k1, k2, k3, k4, k5, k6, k7, k8, k9, k10, k11]
def interned : List (Array UInt16 × Addr) := []
def slotsUsed : Nat := 9
def theMethod : MethodId := ⟨1, 1⟩
def args0 : Array Value := #[.int 1, .int 2]
def aboutOver (below : List Frame) : State where
  vm := { classes := classes, interned := interned.toArray }
  heap := heap
  slotsUsed := slotsUsed
  threads := #[{ frames := .invoking theMethod args0 :: below }]
def below0 : List Frame := [.native { method := ⟨0, 0⟩, args := #[] }]
def about1 : State := aboutOver below0
def p0 : Program := .bare "" "" ""
def e0 : Env := launch0.env 0 0 0
theorem w_frames : about1.frames = Frame.invoking theMethod args0 :: below0 := rfl
set_option maxRecDepth 65536 in
theorem w_args : argsFit about1.vm theMethod args0 = true := by decide +kernel
set_option maxRecDepth 65536 in
theorem w_heap : heapFits about1 = true := by decide +kernel
set_option maxRecDepth 65536 in
theorem w_runnable : about1.curStatus? = some .runnable := by decide +kernel
set_option maxRecDepth 65536 in
theorem w_alone : about1.alone = true := by decide +kernel
set_option maxRecDepth 65536 in
theorem w_named : about1.methodNamed? x = some theMethod := by decide +kernel
set_option maxRecDepth 65536 in
theorem w_hears : about1.hears theMethod below0 = true := by decide +kernel
set_option maxRecDepth 65536 in
theorem w_ripe : about1.ripe theMethod args0 below0 = true := by decide +kernel
theorem w_running : about1.status = .running := rfl
set_option maxRecDepth 65536 in
theorem w_room : about1.hasRoom e0.platform room_1 = true :=
  launch0.hasRoom_least _ room_1 (by decide +kernel) (by decide +kernel) (by decide +kernel) (by decide +kernel) (by decide +kernel) (by decide +kernel)
theorem allAtoms_all (ts : List Jvm.Cond) (a : Array Jvm.Value) (st : Jvm.State) : (allAtoms ts).before a st = ts.all (fun c => c.before a st) := by
  induction ts with
  | nil => rfl
  | cons c t ih =>
    show (Jvm.Cond.and c (allAtoms t)).before a st = _
    rw [Jvm.Cond.before_and, ih, List.all_cons]
def words1 : List Jvm.Cond := Jvm.Cond.code x code maxLocals ret :: tables_1
/-- a 'code' word, met by the world's own term for the bytes: nothing is compared byte by byte -/
theorem code_word {y : MethodName} {bytes : ByteArray} {mx : Nat} {rt : Option FieldType} {a : Array Value} {s : State} {m : MethodId} {meth : Method} {c : Code} (h1 : s.methodNamed? y = some m) (h2 : s.vm.method? m = some meth) (h3 : meth.code = some c) (h4 : c.code = bytes)
    (h5 : (c.maxLocals == mx && c.exceptionTable.isEmpty && decide (c.maxStack ≤ mostOperands) && decide (meth.sig.returnType = rt) && !meth.locks && decide (parseMethodDescriptor y.desc = some meth.sig)) = true) : (Jvm.Cond.code y bytes mx rt).before a s = true := by
  simp only [Bool.and_eq_true, beq_iff_eq, Bool.not_eq_true', decide_eq_true_eq] at h5
  obtain ⟨⟨⟨⟨⟨g1, g2⟩, g3⟩, g4⟩, g5⟩, g6⟩ := h5
  simp [Cond.before, Cond.holds, Cond.value, h1, h2, h3, h4, g1, g2, g3, g4, g5, g6]
def isCode : Jvm.Cond → Bool
  | .code _ _ _ _ => true
  | _ => false
theorem all_split {L : List Jvm.Cond} {P : Jvm.Cond → Bool} (h1 : L.all (fun c => isCode c || P c) = true) (h2 : ∀ c ∈ L.filter isCode, P c = true) : L.all P = true := by
  refine List.all_eq_true.mpr fun c hc => ?_
  have h := List.all_eq_true.mp h1 c hc
  rcases Bool.eq_false_or_eq_true (isCode c) with hi | hi
  · exact h2 c (List.mem_filter.mpr ⟨hc, hi⟩)
  · simpa [hi] using h
set_option maxRecDepth 65536 in
theorem w_c0 : (Jvm.Cond.code x code maxLocals ret).before args0 about1 = true := code_word (m := ⟨1, 1⟩) (meth := k1m1) (c := k1c1) (by decide +kernel) rfl rfl rfl (by decide +kernel)
set_option maxRecDepth 65536 in
theorem w_c1 : (Jvm.Cond.code ({ cls := "com/example/pipewright/pipewright/core/AndOr$Condition", name := "runsAfter", desc := "(I)Z" } : Jvm.MethodName) prog_37_method_4_code (2 : Nat) (Option.some Jvm.ClassFile.FieldType.boolean)).before args0 about1 = true := code_word (m := ⟨6, 0⟩) (meth := k6m0) (c := k6c0) (by decide +kernel) rfl rfl rfl (by decide +kernel)
def codes1 : List Jvm.Cond := [Jvm.Cond.code x code maxLocals ret, Jvm.Cond.code ({ cls := "com/example/pipewright/pipewright/core/AndOr$Condition", name := "runsAfter", desc := "(I)Z" } : Jvm.MethodName) prog_37_method_4_code (2 : Nat) (Option.some Jvm.ClassFile.FieldType.boolean)]
set_option maxRecDepth 65536 in
theorem codes_eq : words1.filter isCode = codes1 := rfl
theorem w_codes : ∀ c ∈ words1.filter isCode, c.before args0 about1 = true := by
  rw [codes_eq]
  intro c hc
  simp only [codes1, List.mem_cons, List.not_mem_nil, or_false] at hc
  rcases hc with rfl | rfl
  · exact w_c0
  · exact w_c1
set_option maxRecDepth 65536 in
theorem w_t1 : words1.all (fun c => isCode c || c.before args0 about1) = true := by decide +kernel
theorem w_tables : (allAtoms (Jvm.Cond.code x code maxLocals ret :: tables_1)).before args0 about1 = true := by
  rw [allAtoms_all]
  show words1.all (fun c => c.before args0 about1) = true
  refine all_split ?_ w_codes
  rw [w_t1]
set_option maxRecDepth 65536 in
theorem w_case : (Jvm.Cond.and given_1 narrow_1).before args0 about1 = true := by decide +kernel
theorem w_applies : (headSpec (Jvm.Cond.code x code maxLocals ret :: tables_1) room_1).applies x e0.platform about1 = true :=
  (Spec.applies_iff w_frames).mpr ⟨w_running, w_runnable, w_alone, w_named, w_hears, w_ripe, w_room, w_tables⟩
theorem atStart : AtStart classFile x code maxLocals ret World_1 tables_1 room_1 Calls_1 rest_1 Pre_1 launch0 p0 e0 about1 theMethod args0 below0 :=
  ⟨lists_1, trivial, launch0.admits_env _ _ _, launch0.least_env, fairChoices_fair.cas, fairChoices_fair.clock, w_frames, w_args, w_heap, w_applies, trivial, trivial, w_case⟩
end start1
theorem witness_1 : WitnessClaimed_1 := ⟨start1.p0, start1.e0, start1.about1, start1.theMethod, start1.args0, start1.below0, start1.atStart⟩
end Jvm.Pilot.@@N@@
