import JvmDerived
import JvmDerived.Pilot.@@N@@Statement
import JvmDerived.Pilot.@@N@@Code
set_option linter.unusedVariables false
set_option linter.unusedSimpArgs false
namespace Jvm.Pilot.@@N@@
open Jvm Jvm.ClassFile Sem Op Lib Jvm.Free Jvm.Stand Jvm.LawKit Jvm.RoadKit Bundle Jvm.Pilot.@@N@@.Jvm.D
section Own
variable {p : Program} {l : Launch} {e : Env} {R : Room} {s : State} {m : MethodId} {args : Array Value} {below : List Frame} {meth : Method} {c : Code} {T : State} {locs : List Loc} {cells slots : Nat} {Z : State} {a0 : Array Value} {h : Heap}
theorem wd (hw : ∀ d ∈ tables_1, d.before a0 Z = true) (k : Nat) {d : Jvm.Cond} (q : tables_1[k]? = some d) : d.before a0 Z = true := hw d (List.mem_of_getElem? q)
theorem old_sz {n0 : Nat} (O : Old Z n0 h) : n0 ≤ h.size := O.1 ▸ O.2.1
/-- what is left to show from the state t on -/
def Run (p : Program) (e : Env) (below : List Frame) (A : Outcome → State → Prop) (t : State) : Prop := ∃ u o, Steps p.tables e below t u ∧ u.status = .running ∧ Ended u below o ∧ A o u
theorem go {A : Outcome → State → Prop} {t t' : State} (st : ∀ u, Steps p.tables e below t' u → Steps p.tables e below t u) (k : Run p e below A t') : Run p e below A t := by
  obtain ⟨u, o, k1, k2⟩ := k
  exact ⟨u, o, st u k1, k2⟩
theorem goT {A : Outcome → State → Prop} {t t' : State} (st : Steps p.tables e below t t') (k : Run p e below A t') : Run p e below A t := by
  obtain ⟨u, o, k1, k2⟩ := k
  exact ⟨u, o, st.trans k1, k2⟩
def Ends (s : State) (Q : Option Value → Heap → List Loc → Prop) (k n : Nat) (o : Outcome) (U : State) : Prop := ∃ v L, o = .returned v ∧ Q v U.heap L ∧ FrameEnd s o U L k n
def Meets (l : Launch) (y : MethodName) (bytes : ByteArray) (maxL : Nat) (ret : Option FieldType) (ws : List Jvm.Cond) (rm : Room) (Z : State) (as' : Array Value) (h0 : Heap) (Q : Option Value → Heap → List Loc → Prop) (k n : Nat) : Prop :=
  MetFree l y (head1 (Jvm.Cond.code y bytes maxL ret :: ws) rm) (fun a U => a = as' ∧ Z.Warmed39 U.vm ∧ U.heap = h0) (fun _ _ _ _ _ => True) (fun _ U o U' => ∃ v L, o = .returned v ∧ Q v U'.heap L ∧ FrameEnd U o U' L k n)
theorem enter {y : MethodName} {bytes : ByteArray} {maxL : Nat} {ret : Option FieldType} {ws : List Jvm.Cond} {rm : Room} {as' : Array Value} {h0 : Heap} {Q : Option Value → Heap → List Loc → Prop} {k n : Nat} {Ls : Array Slot} (pf : plainFor y = true) (ef : ∀ m, entryFrame m as' maxL = mkF m 0 Ls [])
    (body : ∀ (p : Program) (e : Env) (s : State) (m : MethodId) (below : List Frame) (meth : Method) (c : Code) (T : State), p.tables.exec = Jvm.exec → c.code = bytes → c.maxLocals = maxL → s.vm.findClass y.cls = some m.cls → meth.name = y.name → meth.sig.returnType = ret → meth.locks = false → Z.Warmed39 s.vm → Stand p l e rm s m as' below meth c T [] 0 0 → T.heap = h0 → Run p e below (Ends s Q k n) (T.setTop (mkF m 0 Ls []))) :
    Meets l y bytes maxL ret ws rm Z as' h0 Q k n := by
  refine MetFree.of_bodySF pf hisR ?_
  intro p e s m args below meth c s₁ Bd hml0 hP hK
  obtain ⟨rfl, hZ, hh⟩ := hP
  obtain ⟨u, o, k1, k2, k3, k4⟩ := body p e s m below meth c s₁ Bd.exec Bd.bytes hml0 (findClass_of_methodNamed Bd.named) (name_of_methodNamed Bd.named Bd.method).1 Bd.returns (BodyLoose.notSynchronized Bd) hZ (Stand.of_body Bd) (by rw [← hh, Bd.state]; rfl)
  exact ⟨u, o, castTop (ef m) k1, k2, k3, k4⟩
theorem smono (X : Stand p l e R s m args below meth c T locs cells slots) {k n : Nat} (hk : cells ≤ k) (hn : slots ≤ n) : Stand p l e R s m args below meth c T locs k n :=
  ⟨X.admits, X.cas, X.clock, X.frames, X.room, X.hears, X.method, X.code, X.here, X.tail, X.warmed, X.limits, X.bytes, X.same.mono hk hn⟩
theorem retI (X : Stand p l e R s m args below meth c T locs cells slots) (hx : p.tables.exec = Jvm.exec) {pc : Nat} {Ls : Array Slot} {z : Int32} {rest : List Value} (hret : meth.sig.returnType = some .int) (hd : decode c.code pc = .ok (.ireturn, 1)) {fs : List Frame}
    (hl : ∀ (f : JFrame) (acts : List Action), f.method = m → f.locked = none → f.entered = [] → (doReturn e (T.setTop f) acts (some (.int z))).1 = T.setFrames fs) : Steps p.tables e below (T.setTop (mkF m pc Ls (.int z :: rest))) (T.setFrames fs) :=
  retOut X hx hret rfl (Or.inl ⟨rfl, Or.inl rfl, _, rfl⟩) hd hl
theorem endI (X : Stand p l e R s m args below meth c T locs cells slots) (hx : p.tables.exec = Jvm.exec) (hlk : meth.locks = false) {Q : Option Value → Heap → List Loc → Prop} {k n pc : Nat} {Ls : Array Slot} {z : Int32} {rest : List Value} (hret : meth.sig.returnType = some .int) (hd : decode c.code pc = .ok (.ireturn, 1)) (hq : Q (some (.int z)) T.heap locs) (hk : cells ≤ k) (hn : slots ≤ n) :
    Run p e below (Ends s Q k n) (T.setTop (mkF m pc Ls (.int z :: rest))) := by
  obtain ⟨fs, hr, hrun, hended, hW, hsame⟩ := X.leave (v := some (.int z)) (fun h => by rw [hret] at h; cases h) hlk
  exact ⟨_, _, retI X hx hret hd hr, hrun, hended, _, _, rfl, hq, ⟨_, rfl⟩, hW, hsame.mono hk hn⟩
theorem endN (X : Stand p l e R s m args below meth c T locs cells slots) (hx : p.tables.exec = Jvm.exec) (hlk : meth.locks = false) {Q : Option Value → Heap → List Loc → Prop} {k n pc : Nat} {Ls : Array Slot} {z : Int32} {rest : List Value} {t : FieldType} (hret : meth.sig.returnType = some t) (ht : t = .boolean ∨ t = .byte ∨ t = .char ∨ t = .short) (hd : decode c.code pc = .ok (.ireturn, 1)) (hq : Q (some (.int (nar t z))) T.heap locs) (hk : cells ≤ k) (hn : slots ≤ n) :
    Run p e below (Ends s Q k n) (T.setTop (mkF m pc Ls (.int z :: rest))) := by
  obtain ⟨fs, hr, hrun, hended, hW, hsame⟩ := X.leave (v := some (.int (nar t z))) (fun h => by rw [hret] at h; cases h) hlk
  exact ⟨_, _, retN X hx hret ht hd hr, hrun, hended, _, _, rfl, hq, ⟨_, rfl⟩, hW, hsame.mono hk hn⟩
theorem endA (X : Stand p l e R s m args below meth c T locs cells slots) (hx : p.tables.exec = Jvm.exec) (hlk : meth.locks = false) {Q : Option Value → Heap → List Loc → Prop} {k n pc : Nat} {Ls : Array Slot} {w : Value} {rest : List Value} {t : FieldType} (hret : meth.sig.returnType = some t) (ht : t.isReference = true) (hv : w.isRef = true) (hd : decode c.code pc = .ok (.areturn, 1)) (hq : Q (some w) T.heap locs) (hk : cells ≤ k) (hn : slots ≤ n) :
    Run p e below (Ends s Q k n) (T.setTop (mkF m pc Ls (w :: rest))) := by
  obtain ⟨fs, hr, hrun, hended, hW, hsame⟩ := X.leave (v := some w) (fun h => by rw [hret] at h; cases h) hlk
  have hn' : narrow t w = w := by cases w <;> first | (cases hv; done) | (cases t <;> first | rfl | (cases ht; done))
  exact ⟨_, _, retOut X hx hret hn' (Or.inr (Or.inr (Or.inr (Or.inr ⟨rfl, ht, hv⟩)))) hd hr, hrun, hended, _, _, rfl, hq, ⟨_, rfl⟩, hW, hsame.mono hk hn⟩
theorem endJ (X : Stand p l e R s m args below meth c T locs cells slots) (hx : p.tables.exec = Jvm.exec) (hlk : meth.locks = false) {Q : Option Value → Heap → List Loc → Prop} {k n pc : Nat} {Ls : Array Slot} {z : Int64} {rest : List Value} (hret : meth.sig.returnType = some .long) (hd : decode c.code pc = .ok (.lreturn, 1)) (hq : Q (some (.long z)) T.heap locs) (hk : cells ≤ k) (hn : slots ≤ n) :
    Run p e below (Ends s Q k n) (T.setTop (mkF m pc Ls (.long z :: rest))) := by
  obtain ⟨fs, hr, hrun, hended, hW, hsame⟩ := X.leave (v := some (.long z)) (fun h => by rw [hret] at h; cases h) hlk
  exact ⟨_, _, retOut X hx hret rfl (Or.inr (Or.inl ⟨rfl, rfl, _, rfl⟩)) hd hr, hrun, hended, _, _, rfl, hq, ⟨_, rfl⟩, hW, hsame.mono hk hn⟩
theorem endD (X : Stand p l e R s m args below meth c T locs cells slots) (hx : p.tables.exec = Jvm.exec) (hlk : meth.locks = false) {Q : Option Value → Heap → List Loc → Prop} {k n pc : Nat} {Ls : Array Slot} {z : UInt64} {rest : List Value} (hret : meth.sig.returnType = some .double) (hd : decode c.code pc = .ok (.dreturn, 1)) (hq : Q (some (.double z)) T.heap locs) (hk : cells ≤ k) (hn : slots ≤ n) :
    Run p e below (Ends s Q k n) (T.setTop (mkF m pc Ls (.double z :: rest))) := by
  obtain ⟨fs, hr, hrun, hended, hW, hsame⟩ := X.leave (v := some (.double z)) (fun h => by rw [hret] at h; cases h) hlk
  exact ⟨_, _, retOut X hx hret rfl (Or.inr (Or.inr (Or.inl ⟨rfl, rfl, _, rfl⟩))) hd hr, hrun, hended, _, _, rfl, hq, ⟨_, rfl⟩, hW, hsame.mono hk hn⟩
theorem endV (X : Stand p l e R s m args below meth c T locs cells slots) (hx : p.tables.exec = Jvm.exec) (hlk : meth.locks = false) {Q : Option Value → Heap → List Loc → Prop} {k n pc : Nat} {Ls : Array Slot} (hret : meth.sig.returnType = none) (hd : decode c.code pc = .ok (.return_, 1)) (hq : Q none T.heap locs) (hk : cells ≤ k) (hn : slots ≤ n) :
    Run p e below (Ends s Q k n) (T.setTop (mkF m pc Ls [])) := by
  obtain ⟨fs, hr, hrun, hended, hW, hsame⟩ := X.leave (v := none) (fun _ => rfl) hlk
  exact ⟨_, _, X.returnOut hx hret hd hr, hrun, hended, _, _, rfl, hq, ⟨_, rfl⟩, hW, hsame.mono hk hn⟩
abbrev Pay (l : Launch) (R : Room) (p : Program) (e : Env) (below : List Frame) (s : State) (args : Array Value) (y : MethodName) (len W : Nat) (as' : Array Value) (h : Heap) (Q : Option Value → Heap → List Loc → Prop) (rc rs : Nat) : Prop :=
  Back l R p e below s args y len W (fun A a => a = as' ∧ A.U.heap = h ∧ A.cells + rc ≤ R.cells ∧ A.slots + rs ≤ R.slots) (fun A _ v B => ∃ L, Q v B.U.heap L ∧ B.locs = A.locs ++ L ∧ B.cells = A.cells + rc ∧ B.slots = A.slots + rs)
theorem Pay.more {y : MethodName} {len W rc rs rs' : Nat} {as' : Array Value} {Q : Option Value → Heap → List Loc → Prop} (hK : Pay l R p e below s args y len W as' h Q rc rs) (q : rs ≤ rs') : Pay l R p e below s args y len W as' h Q rc rs' := fun m meth c A g ig mk a X hg hsz hd hW hn hp => by
  obtain ⟨v, B, X', ⟨L, q1, q2, q3, q4⟩, st⟩ := hK m meth c A g ig mk a X hg hsz hd hW hn ⟨hp.1, hp.2.1, hp.2.2.1, Nat.le_trans (Nat.add_le_add_left q _) hp.2.2.2⟩
  exact ⟨v, (B.U, B.locs, B.cells, A.slots + rs'), smono X' (Nat.le_refl _) (by rw [q4]; exact Nat.add_le_add_left q _), ⟨L, q1, q2, q3, rfl⟩, st⟩
theorem narR {v : Value} {C : String} (h : v.isRef = true) : narrow (.object C) v = v := by cases v <;> first | rfl | (cases h; done)
theorem fitR {v : Value} {C : String} (h : v.isRef = true) : fits (.object C) v = true := by cases v <;> first | rfl | (cases h; done)
theorem callSt (X : Stand p l e R s m args below meth c T locs cells slots) (hx : p.tables.exec = Jvm.exec) (hZ : Z.Warmed39 s.vm) {own : String} {index : Nat} {y : MethodName} {bytes : ByteArray} {maxL : Nat} {ret : Option FieldType} {rm : Room} {Q : Option Value → Heap → List Loc → Prop} (hown : s.vm.findClass own = some m.cls)
    (w1 : (Jvm.Cond.methodLink own index y).before a0 Z = true) (w2 : (Jvm.Cond.static y).before a0 Z = true) (w3 : (Jvm.Cond.initialized y.cls).before a0 Z = true) (w4 : (Jvm.Cond.code y bytes maxL ret).before a0 Z = true) (hy : y.cls ≠ "java/lang/invoke/MethodHandle" ∧ y.cls ≠ "java/lang/invoke/VarHandle") (eT : T.heap = h) {argsL rest : List Value}
    (hM : Meets l y bytes maxL ret [] rm Z argsL.toArray h Q rm.cells rm.slots) {W : Nat} (hf : rm.frames + 1 ≤ R.frames) (hl : W + (maxL + 11) + rm.locals ≤ R.locals) (hc : cells + rm.cells ≤ R.cells) (hn : slots + rm.slots ≤ R.slots)
    {pc : Nat} {Ls : Array Slot} {st : List Value} (hsize : Ls.size = c.maxLocals) (hlen : ∀ sig, parseMethodDescriptor y.desc = some sig → argsL.length = sig.parameters.length) (hst : st = argsL.reverse ++ rest) (hW : (rest.map fun v => v.category).sum ≤ W) (hd : decode c.code pc = .ok (.invokestatic index, 3)) {A : Outcome → State → Prop}
    (kk : ∀ (v : Option Value) (T' : State) (L : List Loc) (h' : Heap), Stand p l e R s m args below meth c T' (locs ++ L) (cells + rm.cells) (slots + rm.slots) → T'.heap = h' → Q v h' L → Run p e below A (T'.setTop (mkF m (pc + 3) Ls (v.toList ++ rest)))) : Run p e below A (T.setTop (mkF m pc Ls st)) := by
  obtain ⟨v, _, ⟨T18, L18, k18, n18⟩, -, X18, ⟨Lc18, hQ18, l18, y18, z18⟩, st18⟩ := Jvm.LawKit.callS X hx hown (mvT hZ w1) (mvT hZ w2) (mvT hZ w3) (mvT hZ w4) hy (backOf (W := W) hM hZ w4 w3 hf hl) (g := mkF m pc Ls st) rfl hsize (argsL := argsL) (rest := rest) hlen hst (by show 2 * 0 + _ ≤ _; omega) hd (fun _ _ => ⟨rfl, eT, hc, hn⟩)
  dsimp only [Pt.U, Pt.locs, Pt.cells, Pt.slots] at X18 l18 y18 z18 st18 hQ18
  subst l18 y18 z18
  exact go st18 (kk v _ _ _ X18 rfl hQ18)
theorem callVi (X : Stand p l e R s m args below meth c T locs cells slots) (hx : p.tables.exec = Jvm.exec) (hZ : Z.Warmed39 s.vm) {own C : String} {index : Nat} {y z : MethodName} {bytes : ByteArray} {maxL : Nat} {ret : Option FieldType} {rm : Room} {Q : Option Value → Heap → List Loc → Prop} (hown : s.vm.findClass own = some m.cls)
    (w1 : (Jvm.Cond.methodLink own index y).before a0 Z = true) (w2 : (Jvm.Cond.declares y).before a0 Z = true) (nf : NotFace s y) (w5 : (Jvm.Cond.selects C y z).before a0 Z = true) (w6 : (Jvm.Cond.instanceMethod z).before a0 Z = true) (w4 : (Jvm.Cond.code z bytes maxL ret).before a0 Z = true) (w3 : (Jvm.Cond.initialized z.cls).before a0 Z = true) (hy : y.cls ≠ "java/lang/invoke/MethodHandle" ∧ y.cls ≠ "java/lang/invoke/VarHandle") (eT : T.heap = h) {a : Addr} (E : Exa Z h a C) {argsL rest : List Value}
    (hM : Meets l z bytes maxL ret [] rm Z (.ref a :: argsL).toArray h Q rm.cells rm.slots) {W : Nat} (hf : rm.frames + 1 ≤ R.frames) (hl : W + (maxL + 11) + rm.locals ≤ R.locals) (hc : cells + rm.cells ≤ R.cells) (hn : slots + rm.slots ≤ R.slots)
    {pc : Nat} {Ls : Array Slot} {st : List Value} (hsize : Ls.size = c.maxLocals) (hlen : ∀ sig, parseMethodDescriptor y.desc = some sig → argsL.length = sig.parameters.length) (hst : st = argsL.reverse ++ .ref a :: rest) (hW : (rest.map fun v => v.category).sum ≤ W) (hd : decode c.code pc = .ok (.invokevirtual index, 3)) {A : Outcome → State → Prop}
    (kk : ∀ (v : Option Value) (T' : State) (L : List Loc) (h' : Heap), Stand p l e R s m args below meth c T' (locs ++ L) (cells + rm.cells) (slots + rm.slots) → T'.heap = h' → Q v h' L → Run p e below A (T'.setTop (mkF m (pc + 3) Ls (v.toList ++ rest)))) : Run p e below A (T.setTop (mkF m pc Ls st)) := by
  obtain ⟨cq, kq, qa, qb, qc⟩ := isOf hZ eT E
  obtain ⟨v, _, ⟨T18, L18, k18, n18⟩, -, X18, ⟨Lc18, hQ18, l18, y18, z18⟩, st18⟩ := X.virtualBack hx (y := y) (z := z) hown (mvT hZ w1) (mvT hZ w2) nf (mvT hZ w5) (mvT hZ w6) hy (backOf (W := W) hM hZ w4 w3 hf hl) qa qc (g := mkF m pc Ls st) rfl hsize (Steps.refl _) (argsL := argsL) (rest := rest) hlen hst (by show 2 * 0 + _ ≤ _; omega) hd (fun _ _ => ⟨rfl, eT, hc, hn⟩)
  dsimp only [Pt.U, Pt.locs, Pt.cells, Pt.slots] at X18 l18 y18 z18 st18 hQ18
  subst l18 y18 z18
  exact goT st18 (kk v _ _ _ X18 rfl hQ18)
theorem callSp (X : Stand p l e R s m args below meth c T locs cells slots) (hx : p.tables.exec = Jvm.exec) (hZ : Z.Warmed39 s.vm) {own : String} {index : Nat} {y : MethodName} (hy1 : y.name = "<init>") {bytes : ByteArray} {maxL : Nat} {rm : Room} {Q : Option Value → Heap → List Loc → Prop} (hown : s.vm.findClass own = some m.cls)
    (w1 : (Jvm.Cond.methodLink own index y).before a0 Z = true) (w6 : (Jvm.Cond.instanceMethod y).before a0 Z = true) (w4 : (Jvm.Cond.code y bytes maxL none).before a0 Z = true) (w3 : (Jvm.Cond.initialized y.cls).before a0 Z = true) (hy : y.cls ≠ "java/lang/invoke/MethodHandle" ∧ y.cls ≠ "java/lang/invoke/VarHandle") (eT : T.heap = h) {a : Addr} {argsL rest : List Value}
    (hM : Meets l y bytes maxL none [] rm Z (.ref a :: argsL).toArray h Q rm.cells rm.slots) {W : Nat} (hf : rm.frames + 1 ≤ R.frames) (hl : W + (maxL + 11) + rm.locals ≤ R.locals) (hc : cells + rm.cells ≤ R.cells) (hn : slots + rm.slots ≤ R.slots)
    {pc : Nat} {Ls : Array Slot} {st : List Value} (hsize : Ls.size = c.maxLocals) (hlen : ∀ sig, parseMethodDescriptor y.desc = some sig → argsL.length = sig.parameters.length) (hst : st = argsL.reverse ++ .ref a :: rest) (hW : (rest.map fun v => v.category).sum ≤ W) (hd : decode c.code pc = .ok (.invokespecial index, 3)) {A : Outcome → State → Prop}
    (kk : ∀ (v : Option Value) (T' : State) (L : List Loc) (h' : Heap), Stand p l e R s m args below meth c T' (locs ++ L) (cells + rm.cells) (slots + rm.slots) → T'.heap = h' → Q v h' L → Run p e below A (T'.setTop (mkF m (pc + 3) Ls (v.toList ++ rest)))) : Run p e below A (T.setTop (mkF m pc Ls st)) := by
  obtain ⟨v, _, ⟨T18, L18, k18, n18⟩, -, X18, ⟨Lc18, hQ18, l18, y18, z18⟩, st18⟩ := X.specialBack hx (y := y) hy1 hown (mvT hZ w1) (mvT hZ w6) (mvT hZ w4) hy (backOf (W := W) hM hZ w4 w3 hf hl) (g := mkF m pc Ls st) rfl hsize (Steps.refl _) (a := a) (argsL := argsL) (rest := rest) hlen hst (by show 2 * 0 + _ ≤ _; omega) hd (fun _ _ => ⟨rfl, eT, hc, hn⟩)
  dsimp only [Pt.U, Pt.locs, Pt.cells, Pt.slots] at X18 l18 y18 z18 st18 hQ18
  subst l18 y18 z18
  exact goT st18 (kk v _ _ _ X18 rfl hQ18)
theorem callPr (X : Stand p l e R s m args below meth c T locs cells slots) (hx : p.tables.exec = Jvm.exec) (hZ : Z.Warmed39 s.vm) {own C : String} {index : Nat} {y : MethodName} {bytes : ByteArray} {maxL : Nat} {ret : Option FieldType} {rm : Room} {Q : Option Value → Heap → List Loc → Prop} (hown : s.vm.findClass own = some m.cls)
    (w1 : (Jvm.Cond.methodLink own index y).before a0 Z = true) (w2 : (Jvm.Cond.privateMethod y).before a0 Z = true) (w5 : (Jvm.Cond.selects y.cls y y).before a0 Z = true) (w6 : (Jvm.Cond.instanceMethod y).before a0 Z = true) (w4 : (Jvm.Cond.code y bytes maxL ret).before a0 Z = true) (w3 : (Jvm.Cond.initialized y.cls).before a0 Z = true) (hy : y.cls ≠ "java/lang/invoke/MethodHandle" ∧ y.cls ≠ "java/lang/invoke/VarHandle") (eT : T.heap = h) {a : Addr} (E : Exa Z h a C) {argsL rest : List Value}
    (hM : Meets l y bytes maxL ret [] rm Z (.ref a :: argsL).toArray h Q rm.cells rm.slots) {W : Nat} (hf : rm.frames + 1 ≤ R.frames) (hl : W + (maxL + 11) + rm.locals ≤ R.locals) (hc : cells + rm.cells ≤ R.cells) (hn : slots + rm.slots ≤ R.slots)
    {pc : Nat} {Ls : Array Slot} {st : List Value} (hsize : Ls.size = c.maxLocals) (hlen : ∀ sig, parseMethodDescriptor y.desc = some sig → argsL.length = sig.parameters.length) (hst : st = argsL.reverse ++ .ref a :: rest) (hW : (rest.map fun v => v.category).sum ≤ W) (hd : decode c.code pc = .ok (.invokevirtual index, 3)) {A : Outcome → State → Prop}
    (kk : ∀ (v : Option Value) (T' : State) (L : List Loc) (h' : Heap), Stand p l e R s m args below meth c T' (locs ++ L) (cells + rm.cells) (slots + rm.slots) → T'.heap = h' → Q v h' L → Run p e below A (T'.setTop (mkF m (pc + 3) Ls (v.toList ++ rest)))) : Run p e below A (T.setTop (mkF m pc Ls st)) := by
  obtain ⟨cl, hcl, hob⟩ := Exa.cell E
  obtain ⟨v, _, ⟨T18, L18, k18, n18⟩, -, X18, ⟨Lc18, hQ18, l18, y18, z18⟩, st18⟩ := X.privateBack hx (y := y) hown (mvT hZ w1) (mvT hZ w6) (mvT hZ w5) (Cond.privateMethod_at (mvP hZ w2 (args := #[]))) (mvT hZ w4) hy (backOf (W := W) hM hZ w4 w3 hf hl) (g := mkF m pc Ls st) rfl hsize (Steps.refl _) (a := a) (by rw [eT]; exact hcl) hob (argsL := argsL) (rest := rest) hlen hst (by show 2 * 0 + _ ≤ _; omega) hd (fun _ _ => ⟨rfl, eT, hc, hn⟩)
  dsimp only [Pt.U, Pt.locs, Pt.cells, Pt.slots] at X18 l18 y18 z18 st18 hQ18
  subst l18 y18 z18
  exact goT st18 (kk v _ _ _ X18 rfl hQ18)
theorem callIf (X : Stand p l e R s m args below meth c T locs cells slots) (hx : p.tables.exec = Jvm.exec) (hZ : Z.Warmed39 s.vm) {own C : String} {index count : Nat} {y z : MethodName} {bytes : ByteArray} {maxL : Nat} {ret : Option FieldType} {rm : Room} {Q : Option Value → Heap → List Loc → Prop} (hown : s.vm.findClass own = some m.cls)
    (w1 : (Jvm.Cond.methodLink own index y).before a0 Z = true) (w2 : (Jvm.Cond.declares y).before a0 Z = true) (w7 : (Jvm.Cond.interfaceMethod y.cls y.cls y.name y.desc).before a0 Z = true) (k7 : ((Jvm.Cond.interfaceMethod y.cls y.cls y.name y.desc).onTables && (Jvm.Cond.interfaceMethod y.cls y.cls y.name y.desc).keepsFace) = true) (w5 : (Jvm.Cond.selects C y z).before a0 Z = true) (w6 : (Jvm.Cond.instanceMethod z).before a0 Z = true) (w8 : (Jvm.Cond.publicMethod z).before a0 Z = true) (w9 : (Jvm.Cond.unhidden C y.name y.desc).before a0 Z = true) (w10 : (Jvm.Cond.castable C y.cls).before a0 Z = true)
    (w4 : (Jvm.Cond.code z bytes maxL ret).before a0 Z = true) (w3 : (Jvm.Cond.initialized z.cls).before a0 Z = true) (hy : y.cls ≠ "java/lang/invoke/MethodHandle" ∧ y.cls ≠ "java/lang/invoke/VarHandle") (eT : T.heap = h) {a : Addr} (E : Exa Z h a C) {argsL rest : List Value}
    (hM : Meets l z bytes maxL ret [] rm Z (.ref a :: argsL).toArray h Q rm.cells rm.slots) {W : Nat} (hf : rm.frames + 1 ≤ R.frames) (hl : W + (maxL + 11) + rm.locals ≤ R.locals) (hc : cells + rm.cells ≤ R.cells) (hn : slots + rm.slots ≤ R.slots)
    {pc : Nat} {Ls : Array Slot} {st : List Value} (hsize : Ls.size = c.maxLocals) (hlen : ∀ sig, parseMethodDescriptor y.desc = some sig → argsL.length = sig.parameters.length) (hst : st = argsL.reverse ++ .ref a :: rest) (hW : (rest.map fun v => v.category).sum ≤ W) (hd : decode c.code pc = .ok (.invokeinterface index count, 5)) {A : Outcome → State → Prop}
    (kk : ∀ (v : Option Value) (T' : State) (L : List Loc) (h' : Heap), Stand p l e R s m args below meth c T' (locs ++ L) (cells + rm.cells) (slots + rm.slots) → T'.heap = h' → Q v h' L → Run p e below A (T'.setTop (mkF m (pc + 5) Ls (v.toList ++ rest)))) : Run p e below A (T.setTop (mkF m pc Ls st)) := by
  obtain ⟨cq, kq, qa, qb, qc⟩ := isOf hZ eT E
  obtain ⟨v, _, ⟨T18, L18, k18, n18⟩, -, X18, ⟨Lc18, hQ18, l18, y18, z18⟩, st18⟩ := X.interfaceBack hx (xi := y) (y := z) hown (mvT hZ w1) (mvT hZ w2) (mvT hZ w7 k7) (mvT hZ w5) (mvT hZ w6) (mvT hZ w8) (mvT hZ w9) (mvT hZ w10) hy (backOf (W := W) hM hZ w4 w3 hf hl) qa qb qc (g := mkF m pc Ls st) rfl hsize (Steps.refl _) (argsL := argsL) (rest := rest) hlen hst (by show 2 * 0 + _ ≤ _; omega) hd (fun _ _ => ⟨rfl, eT, hc, hn⟩)
  dsimp only [Pt.U, Pt.locs, Pt.cells, Pt.slots] at X18 l18 y18 z18 st18 hQ18
  subst l18 y18 z18
  exact goT st18 (kk v _ _ _ X18 rfl hQ18)
theorem callViK (X : Stand p l e R s m args below meth c T locs cells slots) (hx : p.tables.exec = Jvm.exec) (hZ : Z.Warmed39 s.vm) {own C : String} {index : Nat} {y z : MethodName} {Q : Option Value → Heap → List Loc → Prop} (hown : s.vm.findClass own = some m.cls)
    (w1 : (Jvm.Cond.methodLink own index y).before a0 Z = true) (w2 : (Jvm.Cond.declares y).before a0 Z = true) (nf : NotFace s y) (w5 : (Jvm.Cond.selects C y z).before a0 Z = true) (w6 : (Jvm.Cond.instanceMethod z).before a0 Z = true) (hy : y.cls ≠ "java/lang/invoke/MethodHandle" ∧ y.cls ≠ "java/lang/invoke/VarHandle") (eT : T.heap = h) {a : Addr} (E : Exa Z h a C) {argsL rest : List Value}
    {rc rs W : Nat} (hK : Pay l R p e below s args z 3 W (.ref a :: argsL).toArray h Q rc rs) (hc : cells + rc ≤ R.cells) (hn : slots + rs ≤ R.slots)
    {pc : Nat} {Ls : Array Slot} {st : List Value} (hsize : Ls.size = c.maxLocals) (hlen : ∀ sig, parseMethodDescriptor y.desc = some sig → argsL.length = sig.parameters.length) (hst : st = argsL.reverse ++ .ref a :: rest) (hW : (rest.map fun v => v.category).sum ≤ W) (hd : decode c.code pc = .ok (.invokevirtual index, 3)) {A : Outcome → State → Prop}
    (kk : ∀ (v : Option Value) (T' : State) (L : List Loc) (h' : Heap), Stand p l e R s m args below meth c T' (locs ++ L) (cells + rc) (slots + rs) → T'.heap = h' → Q v h' L → Run p e below A (T'.setTop (mkF m (pc + 3) Ls (v.toList ++ rest)))) : Run p e below A (T.setTop (mkF m pc Ls st)) := by
  obtain ⟨cq, kq, qa, qb, qc⟩ := isOf hZ eT E
  obtain ⟨v, _, ⟨T18, L18, k18, n18⟩, -, X18, ⟨Lc18, hQ18, l18, y18, z18⟩, st18⟩ := X.virtualBack hx (y := y) (z := z) hown (mvT hZ w1) (mvT hZ w2) nf (mvT hZ w5) (mvT hZ w6) hy hK qa qc (g := mkF m pc Ls st) rfl hsize (Steps.refl _) (argsL := argsL) (rest := rest) hlen hst (by show 2 * 0 + _ ≤ _; omega) hd (fun _ _ => ⟨rfl, eT, hc, hn⟩)
  dsimp only [Pt.U, Pt.locs, Pt.cells, Pt.slots] at X18 l18 y18 z18 st18 hQ18
  subst l18 y18 z18
  exact goT st18 (kk v _ _ _ X18 rfl hQ18)
theorem callSpK (X : Stand p l e R s m args below meth c T locs cells slots) (hx : p.tables.exec = Jvm.exec) (hZ : Z.Warmed39 s.vm) {own : String} {index : Nat} {y : MethodName} (hy1 : y.name = "<init>") {bytes : ByteArray} {maxL : Nat} {Q : Option Value → Heap → List Loc → Prop} (hown : s.vm.findClass own = some m.cls)
    (w1 : (Jvm.Cond.methodLink own index y).before a0 Z = true) (w6 : (Jvm.Cond.instanceMethod y).before a0 Z = true) (w4 : (Jvm.Cond.code y bytes maxL none).before a0 Z = true) (hy : y.cls ≠ "java/lang/invoke/MethodHandle" ∧ y.cls ≠ "java/lang/invoke/VarHandle") (eT : T.heap = h) {a : Addr} {argsL rest : List Value}
    {rc rs W : Nat} (hK : Pay l R p e below s args y 3 W (.ref a :: argsL).toArray h Q rc rs) (hc : cells + rc ≤ R.cells) (hn : slots + rs ≤ R.slots)
    {pc : Nat} {Ls : Array Slot} {st : List Value} (hsize : Ls.size = c.maxLocals) (hlen : ∀ sig, parseMethodDescriptor y.desc = some sig → argsL.length = sig.parameters.length) (hst : st = argsL.reverse ++ .ref a :: rest) (hW : (rest.map fun v => v.category).sum ≤ W) (hd : decode c.code pc = .ok (.invokespecial index, 3)) {A : Outcome → State → Prop}
    (kk : ∀ (v : Option Value) (T' : State) (L : List Loc) (h' : Heap), Stand p l e R s m args below meth c T' (locs ++ L) (cells + rc) (slots + rs) → T'.heap = h' → Q v h' L → Run p e below A (T'.setTop (mkF m (pc + 3) Ls (v.toList ++ rest)))) : Run p e below A (T.setTop (mkF m pc Ls st)) := by
  obtain ⟨v, _, ⟨T18, L18, k18, n18⟩, -, X18, ⟨Lc18, hQ18, l18, y18, z18⟩, st18⟩ := X.specialBack hx (y := y) hy1 hown (mvT hZ w1) (mvT hZ w6) (mvT hZ w4) hy hK (g := mkF m pc Ls st) rfl hsize (Steps.refl _) (a := a) (argsL := argsL) (rest := rest) hlen hst (by show 2 * 0 + _ ≤ _; omega) hd (fun _ _ => ⟨rfl, eT, hc, hn⟩)
  dsimp only [Pt.U, Pt.locs, Pt.cells, Pt.slots] at X18 l18 y18 z18 st18 hQ18
  subst l18 y18 z18
  exact goT st18 (kk v _ _ _ X18 rfl hQ18)
/-- no subclass, by the words of the one's superclasses and of the other's 'instantiable' -/
theorem ns_root {O K : String} {n : Nat} (w : (Jvm.Cond.noSuperclass O).before a0 Z = true) (wk : (Jvm.Cond.instantiable K n).before a0 Z = true) (hn : O ≠ K) : NS Z O K := by
  obtain ⟨c, k, h1, h2, h3, -, -⟩ := Cond.noSuperclass_spec w
  obtain ⟨t, kt, g1, -⟩ := Cond.instantiable_spec wk
  have ne := ids_ne h1 g1 hn
  refine ⟨c, t, h1, g1, fun fuel => ?_⟩
  cases fuel with
  | zero => rfl
  | succ f => simp [Vm.isSubclassAux, ne, h2, h3]
theorem ns_no {C S K : String} {n : Nat} (w : (Jvm.Cond.superclass C S).before a0 Z = true) (wk : (Jvm.Cond.instantiable K n).before a0 Z = true) (q : NS Z C K) (hn : C ≠ K) : ∃ c t, Z.vm.findClass C = some c ∧ Z.vm.findClass K = some t ∧ Z.vm.assignable c t = false := by
  obtain ⟨c, t, h0, g0, n3⟩ := q
  obtain ⟨p, k, kp, h1, h2, h3, h4, h5, -, h7⟩ := Cond.superclass_spec h0 w
  obtain ⟨t', kt, g1, g2, g3, g4, -⟩ := Cond.instantiable_spec wk
  cases g0.symm.trans g1
  have ne := ids_ne h0 g0 hn
  have g5 : kt.isInterface = false := by
    cases hi : kt.isInterface with
    | false => rfl
    | true => simp [hi] at g4
  refine ⟨c, t, h0, g0, ?_⟩
  show Z.vm.assignableAux (255 + 1) c t = false
  simp [Vm.assignableAux, ne, h2, g2, h5, g3, g5, Vm.isSubclass, n3]
/-- a static that holds an object of one class, out of the case's words -/
theorem sta_exa {C n d K : String} (w1 : (Jvm.Cond.initialized C).before a0 Z = true) (w2 : (Jvm.Cond.laysStatic C n d).before a0 Z = true) (hx : (Jvm.Cond.exactly (Jvm.Term.static C n d) K).value a0 Z none Z [] = some true) :
    ∃ a, (Jvm.Term.static C n d).eval a0 Z none [] Z = some (.ref a) ∧ Sta Z Z.heap C n d (.ref a) ∧ Exa Z Z.heap a K := by
  obtain ⟨a, ev⟩ := exa_v hx
  exact ⟨a, ev, Sta.start ev (Or.inr ⟨w1, w2⟩), Exa.start ev hx⟩
theorem fld_int {t : Jvm.Term} {a : Addr} {C n d : String} {k : Int32} (ev : t.eval a0 Z none [] Z = some (.ref a)) (hq : (Jvm.Cond.eq (Jvm.Term.field t C n d) (Jvm.Term.int k)).value a0 Z none Z [] = some true) : Fld Z Z.heap a C n d (.int k) := by
  refine Fld.start ?_
  have e1 : (Jvm.Term.field t C n d).eval a0 Z none [] Z = Z.fieldOf? a C n d := fld_at ev
  have e2 : (Jvm.Term.int k).eval a0 Z none [] Z = some (.int k) := Term.int_eval k
  simp only [Cond.value, e1, e2] at hq
  cases hf : Z.fieldOf? a C n d with
  | none => simp [hf] at hq
  | some x => cases x <;> simp [hf] at hq ⊢; exact hq
end Own
theorem own_b1 (x : Int32) : B53 x.toInt64 := by
  have e := c_i2l x; have r := rng32 x
  exact ⟨by omega, by omega⟩
theorem own_a2 (x y : Int32) : (x.toInt64 + y.toInt64).toInt = x.toInt + y.toInt := by
  rw [add64 (own_b1 x) (own_b1 y), c_i2l, c_i2l]
theorem own_b2 (x y : Int32) : B53 (x.toInt64 + y.toInt64) := by
  have e := own_a2 x y; have r := rng32 x; have r' := rng32 y
  exact ⟨by omega, by omega⟩
theorem own_a3 (x y z : Int32) : (x.toInt64 + y.toInt64 + z.toInt64).toInt = x.toInt + y.toInt + z.toInt := by
  rw [add64 (own_b2 x y) (own_b1 z), own_a2, c_i2l]
theorem own_b3 (x y z : Int32) : B53 (x.toInt64 + y.toInt64 + z.toInt64) := by
  have e := own_a3 x y z; have r := rng32 x; have r' := rng32 y; have r'' := rng32 z
  exact ⟨by omega, by omega⟩
theorem own_a4 (x y z w : Int32) : (x.toInt64 + y.toInt64 + z.toInt64 + w.toInt64).toInt = x.toInt + y.toInt + z.toInt + w.toInt := by
  rw [add64 (own_b3 x y z) (own_b1 w), own_a3, c_i2l]
theorem own_b4 (x y z w : Int32) : B53 (x.toInt64 + y.toInt64 + z.toInt64 + w.toInt64) := by
  have e := own_a4 x y z w; have r := rng32 x; have r' := rng32 y; have r'' := rng32 z; have r3 := rng32 w
  exact ⟨by omega, by omega⟩
theorem own_b5 (x y z w v : Int32) : B53 (x.toInt64 + y.toInt64 + z.toInt64 + w.toInt64 + v.toInt64) := by
  have e := add64 (own_b4 x y z w) (own_b1 v)
  rw [own_a4, c_i2l] at e
  have r := rng32 x; have r' := rng32 y; have r'' := rng32 z; have r3 := rng32 w; have r4 := rng32 v
  exact ⟨by omega, by omega⟩
theorem d_j30_m1_0 : decode jdk_30_method_1_code 0 = .ok (.aload_n 0, 1) := by decide +kernel
theorem d_j30_m1_1 : decode jdk_30_method_1_code 1 = .ok (.invokespecial 1, 3) := by decide +kernel
theorem d_j30_m1_4 : decode jdk_30_method_1_code 4 = .ok (.return_, 1) := by decide +kernel
theorem pn_0 : plainName "java/lang/Record" = true := by first | (simp [plainName, overriddenIn]; done) | decide +kernel
def Q_rm_rec (a : Addr) (h0 : Heap) (n0 : Nat) (v : Option Value) (h : Heap) (L : List Loc) : Prop := v = none ∧ Fr n0 L ∧ h = h0
set_option maxRecDepth 65536 in
set_option maxHeartbeats 40000000 in
theorem rm_rec (l : Launch) (Z : State) (a0 : Array Value) (hw : ∀ d ∈ tables_1, d.before a0 Z = true) (ws : List Jvm.Cond) (a : Addr) (h0 : Heap) (n0 : Nat) (O0 : Old Z n0 h0)  :
    Meets l (⟨"java/lang/Record", "<init>", "()V"⟩ : MethodName) jdk_30_method_1_code 1 none ws ({ frames := 1, cells := 0, slots := 0, locals := 12 } : Room) Z #[(.ref a)] h0 (Q_rm_rec a h0 n0) 0 0 := by
  refine enter (Ls := #[.val (.ref a)]) (plainFor_of_name pn_0) (fun m => by first | rfl | (simp [entryFrame, mkF, argsToLocals, Value.category]; done)) ?_
  intro p e s m below meth c T0 hx hby hml hown hnm hret hlk hZ X0 e0
  have N0 := Fr.nil n0
  replace hown : s.vm.findClass "java/lang/Record" = some m.cls := hown
  show Run p e below _ (T0.setTop (mkF m 0 #[.val (.ref a)] []))
  refine go (fun _ => XS.aloadN X0.here hx rfl (hb hby d_j30_m1_0) rfl rfl) ?_
  show Run p e below _ (T0.setTop (mkF m 1 #[.val (.ref a)] [(.ref a)]))
  obtain ⟨T1, X1, e1, st1⟩ := initO X0 hx hZ hown (wd hw 11 rfl) (wd hw 12 rfl) (wd hw 13 rfl) e0 (g := (mkF m 1 #[.val (.ref a)] [(.ref a)])) rfl (by rw [hml]; rfl) rfl (hb hby d_j30_m1_1) (by decide) (W := 0) (by show 2 * 0 + _ ≤ _; exact Nat.le_of_eq rfl) (by decide)
  refine go st1 ?_
  show Run p e below _ (T1.setTop (mkF m 4 #[.val (.ref a)] []))
  exact endV X1 hx hlk hret (hb hby d_j30_m1_4) (⟨rfl, N0, e1⟩) (by decide) (by decide)
theorem d_p15_m1_0 : decode prog_15_method_1_code 0 = .ok (.aload_n 0, 1) := by decide +kernel
theorem d_p15_m1_1 : decode prog_15_method_1_code 1 = .ok (.invokespecial 1, 3) := by decide +kernel
theorem pd_0 : parseMethodDescriptor "()V" = some ⟨[], none⟩ := by decide +kernel
theorem d_p15_m1_4 : decode prog_15_method_1_code 4 = .ok (.aload_n 0, 1) := by decide +kernel
theorem d_p15_m1_5 : decode prog_15_method_1_code 5 = .ok (.dload_n 1, 1) := by decide +kernel
theorem d_p15_m1_6 : decode prog_15_method_1_code 6 = .ok (.putfield 7, 3) := by decide +kernel
theorem d_p15_m1_9 : decode prog_15_method_1_code 9 = .ok (.aload_n 0, 1) := by decide +kernel
theorem d_p15_m1_10 : decode prog_15_method_1_code 10 = .ok (.dload_n 3, 1) := by decide +kernel
theorem d_p15_m1_11 : decode prog_15_method_1_code 11 = .ok (.putfield 13, 3) := by decide +kernel
theorem d_p15_m1_14 : decode prog_15_method_1_code 14 = .ok (.aload_n 0, 1) := by decide +kernel
theorem d_p15_m1_15 : decode prog_15_method_1_code 15 = .ok (.dload 5, 2) := by decide +kernel
theorem d_p15_m1_17 : decode prog_15_method_1_code 17 = .ok (.putfield 16, 3) := by decide +kernel
theorem d_p15_m1_20 : decode prog_15_method_1_code 20 = .ok (.aload_n 0, 1) := by decide +kernel
theorem d_p15_m1_21 : decode prog_15_method_1_code 21 = .ok (.dload 7, 2) := by decide +kernel
theorem d_p15_m1_23 : decode prog_15_method_1_code 23 = .ok (.putfield 19, 3) := by decide +kernel
theorem d_p15_m1_26 : decode prog_15_method_1_code 26 = .ok (.return_, 1) := by decide +kernel
theorem pn_1 : plainName "com/example/visit_by_value/visitbyvalue/core/PageWeight" = true := by first | (simp [plainName, overriddenIn]; done) | decide +kernel
def Q_rm_init (Z : State) (a : Addr) (d1 d2 d3 d4 : UInt64) (h0 : Heap) (n0 : Nat) (v : Option Value) (h : Heap) (L : List Loc) : Prop := v = none ∧ Fr n0 L ∧ Keep h0 h [a] ∧ Exa Z h a "com/example/visit_by_value/visitbyvalue/core/PageWeight" ∧ Fld Z h a "com/example/visit_by_value/visitbyvalue/core/PageWeight" "url" "D" (.double d1) ∧ Fld Z h a "com/example/visit_by_value/visitbyvalue/core/PageWeight" "title" "D" (.double d2) ∧ Fld Z h a "com/example/visit_by_value/visitbyvalue/core/PageWeight" "body" "D" (.double d3) ∧ Fld Z h a "com/example/visit_by_value/visitbyvalue/core/PageWeight" "links" "D" (.double d4)
set_option maxRecDepth 65536 in
set_option maxHeartbeats 40000000 in
theorem rm_init (l : Launch) (Z : State) (a0 : Array Value) (hw : ∀ d ∈ tables_1, d.before a0 Z = true) (ws : List Jvm.Cond) (a : Addr) (d1 d2 d3 d4 : UInt64) (h0 : Heap) (n0 : Nat) (O0 : Old Z n0 h0) (E_a : Exa Z h0 a "com/example/visit_by_value/visitbyvalue/core/PageWeight") (F_url_a : Fld Z h0 a "com/example/visit_by_value/visitbyvalue/core/PageWeight" "url" "D" (.double (0 : UInt64))) (F_title_a : Fld Z h0 a "com/example/visit_by_value/visitbyvalue/core/PageWeight" "title" "D" (.double (0 : UInt64))) (F_body_a : Fld Z h0 a "com/example/visit_by_value/visitbyvalue/core/PageWeight" "body" "D" (.double (0 : UInt64))) (F_links_a : Fld Z h0 a "com/example/visit_by_value/visitbyvalue/core/PageWeight" "links" "D" (.double (0 : UInt64))) (g_a : n0 ≤ a) :
    Meets l (⟨"com/example/visit_by_value/visitbyvalue/core/PageWeight", "<init>", "(DDDD)V"⟩ : MethodName) prog_15_method_1_code 9 none ws ({ frames := 2, cells := 0, slots := 0, locals := 24 } : Room) Z #[(.ref a), (.double d1), (.double d2), (.double d3), (.double d4)] h0 (Q_rm_init Z a d1 d2 d3 d4 h0 n0) 0 0 := by
  refine enter (Ls := #[.val (.ref a), .val (.double d1), .second, .val (.double d2), .second, .val (.double d3), .second, .val (.double d4), .second]) (plainFor_of_name pn_1) (fun m => by first | rfl | (simp [entryFrame, mkF, argsToLocals, Value.category]; done)) ?_
  intro p e s m below meth c T0 hx hby hml hown hnm hret hlk hZ X0 e0
  have N0 := Fr.nil n0
  replace hown : s.vm.findClass "com/example/visit_by_value/visitbyvalue/core/PageWeight" = some m.cls := hown
  show Run p e below _ (T0.setTop (mkF m 0 #[.val (.ref a), .val (.double d1), .second, .val (.double d2), .second, .val (.double d3), .second, .val (.double d4), .second] []))
  have K0 := Keep.refl h0 [a]
  refine go (fun _ => XS.aloadN X0.here hx rfl (hb hby d_p15_m1_0) rfl rfl) ?_
  show Run p e below _ (T0.setTop (mkF m 1 #[.val (.ref a), .val (.double d1), .second, .val (.double d2), .second, .val (.double d3), .second, .val (.double d4), .second] [(.ref a)]))
  refine callSp X0 hx hZ rfl hown (wd hw 6 rfl) (wd hw 7 rfl) (wd hw 10 rfl) (wd hw 9 rfl) (by decide) e0 (a := a) (argsL := []) (rest := []) (rm_rec l Z a0 hw [] a h0 n0 O0) (W := 0) (by decide) (by decide) (by decide) (by decide) (by rw [hml]; rfl) (lenOf pd_0 rfl) rfl (Nat.le_of_eq rfl) (hb hby d_p15_m1_1) ?_
  intro v2 T2 L2 h2 X2 e2 q2
  obtain ⟨rfl, n2, k2⟩ := q2
  have e2 := e2.trans k2
  have N2 := Fr.app N0 n2
  show Run p e below _ (T2.setTop (mkF m 4 #[.val (.ref a), .val (.double d1), .second, .val (.double d2), .second, .val (.double d3), .second, .val (.double d4), .second] []))
  refine go (fun _ => XS.aloadN X2.here hx rfl (hb hby d_p15_m1_4) rfl rfl) ?_
  show Run p e below _ (T2.setTop (mkF m 5 #[.val (.ref a), .val (.double d1), .second, .val (.double d2), .second, .val (.double d3), .second, .val (.double d4), .second] [(.ref a)]))
  refine go (fun _ => XS.dloadN X2.here hx rfl (hb hby d_p15_m1_5) rfl) ?_
  show Run p e below _ (T2.setTop (mkF m 6 #[.val (.ref a), .val (.double d1), .second, .val (.double d2), .second, .val (.double d3), .second, .val (.double d4), .second] [(.double d1), (.ref a)]))
  obtain ⟨T3, h3, X3, e3, W3, st3⟩ := putF X2 hx hZ hown (host := "") (Or.inl (wd hw 14 rfl)) Via.refl e2 F_url_a E_a (Or.inr ⟨(wd hw 15 rfl), rfl, hnm⟩) (wd hw 1 rfl) (ty := .double) (by decide) rfl rfl (g := (mkF m 6 #[.val (.ref a), .val (.double d1), .second, .val (.double d2), .second, .val (.double d3), .second, .val (.double d4), .second] [(.double d1), (.ref a)])) rfl rfl (hb hby d_p15_m1_6)
  have O0 := O0.wr W3 g_a
  have E_a := E_a.wr W3
  have F_url_a := F_url_a.same W3
  have F_title_a := F_title_a.other W3 (Or.inr (slot_ne (Or.inr (wd hw 17 rfl)) (Or.inr (wd hw 15 rfl)) (by decide) (t := .double) (t' := .double) (by decide) (by decide)))
  have F_body_a := F_body_a.other W3 (Or.inr (slot_ne (Or.inr (wd hw 19 rfl)) (Or.inr (wd hw 15 rfl)) (by decide) (t := .double) (t' := .double) (by decide) (by decide)))
  have F_links_a := F_links_a.other W3 (Or.inr (slot_ne (Or.inr (wd hw 21 rfl)) (Or.inr (wd hw 15 rfl)) (by decide) (t := .double) (t' := .double) (by decide) (by decide)))
  have K0 := K0.wr W3 (Or.inl (by simp))
  have N3 := Fr.snoc X3 N2 g_a
  refine go st3 ?_
  show Run p e below _ (T3.setTop (mkF m 9 #[.val (.ref a), .val (.double d1), .second, .val (.double d2), .second, .val (.double d3), .second, .val (.double d4), .second] []))
  refine go (fun _ => XS.aloadN X3.here hx rfl (hb hby d_p15_m1_9) rfl rfl) ?_
  show Run p e below _ (T3.setTop (mkF m 10 #[.val (.ref a), .val (.double d1), .second, .val (.double d2), .second, .val (.double d3), .second, .val (.double d4), .second] [(.ref a)]))
  refine go (fun _ => XS.dloadN X3.here hx rfl (hb hby d_p15_m1_10) rfl) ?_
  show Run p e below _ (T3.setTop (mkF m 11 #[.val (.ref a), .val (.double d1), .second, .val (.double d2), .second, .val (.double d3), .second, .val (.double d4), .second] [(.double d2), (.ref a)]))
  obtain ⟨T4, h4, X4, e4, W4, st4⟩ := putF X3 hx hZ hown (host := "") (Or.inl (wd hw 16 rfl)) Via.refl e3 F_title_a E_a (Or.inr ⟨(wd hw 17 rfl), rfl, hnm⟩) (wd hw 1 rfl) (ty := .double) (by decide) rfl rfl (g := (mkF m 11 #[.val (.ref a), .val (.double d1), .second, .val (.double d2), .second, .val (.double d3), .second, .val (.double d4), .second] [(.double d2), (.ref a)])) rfl rfl (hb hby d_p15_m1_11)
  have O0 := O0.wr W4 g_a
  have E_a := E_a.wr W4
  have F_url_a := F_url_a.other W4 (Or.inr (slot_ne (Or.inr (wd hw 15 rfl)) (Or.inr (wd hw 17 rfl)) (by decide) (t := .double) (t' := .double) (by decide) (by decide)))
  have F_title_a := F_title_a.same W4
  have F_body_a := F_body_a.other W4 (Or.inr (slot_ne (Or.inr (wd hw 19 rfl)) (Or.inr (wd hw 17 rfl)) (by decide) (t := .double) (t' := .double) (by decide) (by decide)))
  have F_links_a := F_links_a.other W4 (Or.inr (slot_ne (Or.inr (wd hw 21 rfl)) (Or.inr (wd hw 17 rfl)) (by decide) (t := .double) (t' := .double) (by decide) (by decide)))
  have K0 := K0.wr W4 (Or.inl (by simp))
  have N4 := Fr.snoc X4 N3 g_a
  refine go st4 ?_
  show Run p e below _ (T4.setTop (mkF m 14 #[.val (.ref a), .val (.double d1), .second, .val (.double d2), .second, .val (.double d3), .second, .val (.double d4), .second] []))
  refine go (fun _ => XS.aloadN X4.here hx rfl (hb hby d_p15_m1_14) rfl rfl) ?_
  show Run p e below _ (T4.setTop (mkF m 15 #[.val (.ref a), .val (.double d1), .second, .val (.double d2), .second, .val (.double d3), .second, .val (.double d4), .second] [(.ref a)]))
  refine go (fun _ => XS.dload X4.here hx rfl (hb hby d_p15_m1_15) rfl) ?_
  show Run p e below _ (T4.setTop (mkF m 17 #[.val (.ref a), .val (.double d1), .second, .val (.double d2), .second, .val (.double d3), .second, .val (.double d4), .second] [(.double d3), (.ref a)]))
  obtain ⟨T5, h5, X5, e5, W5, st5⟩ := putF X4 hx hZ hown (host := "") (Or.inl (wd hw 18 rfl)) Via.refl e4 F_body_a E_a (Or.inr ⟨(wd hw 19 rfl), rfl, hnm⟩) (wd hw 1 rfl) (ty := .double) (by decide) rfl rfl (g := (mkF m 17 #[.val (.ref a), .val (.double d1), .second, .val (.double d2), .second, .val (.double d3), .second, .val (.double d4), .second] [(.double d3), (.ref a)])) rfl rfl (hb hby d_p15_m1_17)
  have O0 := O0.wr W5 g_a
  have E_a := E_a.wr W5
  have F_url_a := F_url_a.other W5 (Or.inr (slot_ne (Or.inr (wd hw 15 rfl)) (Or.inr (wd hw 19 rfl)) (by decide) (t := .double) (t' := .double) (by decide) (by decide)))
  have F_title_a := F_title_a.other W5 (Or.inr (slot_ne (Or.inr (wd hw 17 rfl)) (Or.inr (wd hw 19 rfl)) (by decide) (t := .double) (t' := .double) (by decide) (by decide)))
  have F_body_a := F_body_a.same W5
  have F_links_a := F_links_a.other W5 (Or.inr (slot_ne (Or.inr (wd hw 21 rfl)) (Or.inr (wd hw 19 rfl)) (by decide) (t := .double) (t' := .double) (by decide) (by decide)))
  have K0 := K0.wr W5 (Or.inl (by simp))
  have N5 := Fr.snoc X5 N4 g_a
  refine go st5 ?_
  show Run p e below _ (T5.setTop (mkF m 20 #[.val (.ref a), .val (.double d1), .second, .val (.double d2), .second, .val (.double d3), .second, .val (.double d4), .second] []))
  refine go (fun _ => XS.aloadN X5.here hx rfl (hb hby d_p15_m1_20) rfl rfl) ?_
  show Run p e below _ (T5.setTop (mkF m 21 #[.val (.ref a), .val (.double d1), .second, .val (.double d2), .second, .val (.double d3), .second, .val (.double d4), .second] [(.ref a)]))
  refine go (fun _ => XS.dload X5.here hx rfl (hb hby d_p15_m1_21) rfl) ?_
  show Run p e below _ (T5.setTop (mkF m 23 #[.val (.ref a), .val (.double d1), .second, .val (.double d2), .second, .val (.double d3), .second, .val (.double d4), .second] [(.double d4), (.ref a)]))
  obtain ⟨T6, h6, X6, e6, W6, st6⟩ := putF X5 hx hZ hown (host := "") (Or.inl (wd hw 20 rfl)) Via.refl e5 F_links_a E_a (Or.inr ⟨(wd hw 21 rfl), rfl, hnm⟩) (wd hw 1 rfl) (ty := .double) (by decide) rfl rfl (g := (mkF m 23 #[.val (.ref a), .val (.double d1), .second, .val (.double d2), .second, .val (.double d3), .second, .val (.double d4), .second] [(.double d4), (.ref a)])) rfl rfl (hb hby d_p15_m1_23)
  have O0 := O0.wr W6 g_a
  have E_a := E_a.wr W6
  have F_url_a := F_url_a.other W6 (Or.inr (slot_ne (Or.inr (wd hw 15 rfl)) (Or.inr (wd hw 21 rfl)) (by decide) (t := .double) (t' := .double) (by decide) (by decide)))
  have F_title_a := F_title_a.other W6 (Or.inr (slot_ne (Or.inr (wd hw 17 rfl)) (Or.inr (wd hw 21 rfl)) (by decide) (t := .double) (t' := .double) (by decide) (by decide)))
  have F_body_a := F_body_a.other W6 (Or.inr (slot_ne (Or.inr (wd hw 19 rfl)) (Or.inr (wd hw 21 rfl)) (by decide) (t := .double) (t' := .double) (by decide) (by decide)))
  have F_links_a := F_links_a.same W6
  have K0 := K0.wr W6 (Or.inl (by simp))
  have N6 := Fr.snoc X6 N5 g_a
  refine go st6 ?_
  show Run p e below _ (T6.setTop (mkF m 26 #[.val (.ref a), .val (.double d1), .second, .val (.double d2), .second, .val (.double d3), .second, .val (.double d4), .second] []))
  exact endV X6 hx hlk hret (hb hby d_p15_m1_26) (by rw [e6]; exact ⟨rfl, N6, K0, E_a, F_url_a, F_title_a, F_body_a, F_links_a⟩) (by decide) (by decide)
theorem d_p15_m2_0 : decode prog_15_method_2_code 0 = .ok (.aload_n 0, 1) := by decide +kernel
theorem d_p15_m2_1 : decode prog_15_method_2_code 1 = .ok (.getfield 7, 3) := by decide +kernel
theorem d_p15_m2_4 : decode prog_15_method_2_code 4 = .ok (.aload_n 0, 1) := by decide +kernel
theorem d_p15_m2_5 : decode prog_15_method_2_code 5 = .ok (.getfield 13, 3) := by decide +kernel
theorem d_p15_m2_8 : decode prog_15_method_2_code 8 = .ok (.dadd, 1) := by decide +kernel
theorem d_p15_m2_9 : decode prog_15_method_2_code 9 = .ok (.aload_n 0, 1) := by decide +kernel
theorem d_p15_m2_10 : decode prog_15_method_2_code 10 = .ok (.getfield 16, 3) := by decide +kernel
theorem d_p15_m2_13 : decode prog_15_method_2_code 13 = .ok (.dadd, 1) := by decide +kernel
theorem d_p15_m2_14 : decode prog_15_method_2_code 14 = .ok (.aload_n 0, 1) := by decide +kernel
theorem d_p15_m2_15 : decode prog_15_method_2_code 15 = .ok (.getfield 19, 3) := by decide +kernel
theorem d_p15_m2_18 : decode prog_15_method_2_code 18 = .ok (.dadd, 1) := by decide +kernel
theorem d_p15_m2_19 : decode prog_15_method_2_code 19 = .ok (.dreturn, 1) := by decide +kernel
def Q_rm_tot (a : Addr) (p1 p2 p3 p4 : Int32) (h0 : Heap) (n0 : Nat) (v : Option Value) (h : Heap) (L : List Loc) : Prop := v = some (.double (FP.l2d (p1.toInt64 + p2.toInt64 + p3.toInt64 + p4.toInt64))) ∧ Fr n0 L ∧ h = h0
set_option maxRecDepth 65536 in
set_option maxHeartbeats 40000000 in
theorem rm_tot (l : Launch) (Z : State) (a0 : Array Value) (hw : ∀ d ∈ tables_1, d.before a0 Z = true) (ws : List Jvm.Cond) (a : Addr) (p1 p2 p3 p4 : Int32) (h0 : Heap) (n0 : Nat) (O0 : Old Z n0 h0) (E_a : Exa Z h0 a "com/example/visit_by_value/visitbyvalue/core/PageWeight") (F_url_a : Fld Z h0 a "com/example/visit_by_value/visitbyvalue/core/PageWeight" "url" "D" (.double (FP.l2d p1.toInt64))) (F_title_a : Fld Z h0 a "com/example/visit_by_value/visitbyvalue/core/PageWeight" "title" "D" (.double (FP.l2d p2.toInt64))) (F_body_a : Fld Z h0 a "com/example/visit_by_value/visitbyvalue/core/PageWeight" "body" "D" (.double (FP.l2d p3.toInt64))) (F_links_a : Fld Z h0 a "com/example/visit_by_value/visitbyvalue/core/PageWeight" "links" "D" (.double (FP.l2d p4.toInt64))) :
    Meets l (⟨"com/example/visit_by_value/visitbyvalue/core/PageWeight", "total", "()D"⟩ : MethodName) prog_15_method_2_code 1 (some .double) ws ({ frames := 0, cells := 0, slots := 0, locals := 0 } : Room) Z #[(.ref a)] h0 (Q_rm_tot a p1 p2 p3 p4 h0 n0) 0 0 := by
  refine enter (Ls := #[.val (.ref a)]) (plainFor_of_name pn_1) (fun m => by first | rfl | (simp [entryFrame, mkF, argsToLocals, Value.category]; done)) ?_
  intro p e s m below meth c T0 hx hby hml hown hnm hret hlk hZ X0 e0
  have N0 := Fr.nil n0
  replace hown : s.vm.findClass "com/example/visit_by_value/visitbyvalue/core/PageWeight" = some m.cls := hown
  show Run p e below _ (T0.setTop (mkF m 0 #[.val (.ref a)] []))
  refine go (fun _ => XS.aloadN X0.here hx rfl (hb hby d_p15_m2_0) rfl rfl) ?_
  show Run p e below _ (T0.setTop (mkF m 1 #[.val (.ref a)] [(.ref a)]))
  obtain ⟨T7, X7, e7, st7⟩ := getF X0 hx hZ hown (host := "") (Or.inl (wd hw 14 rfl)) Via.refl e0 F_url_a (g := (mkF m 1 #[.val (.ref a)] [(.ref a)])) rfl rfl (hb hby d_p15_m2_1)
  refine go st7 ?_
  show Run p e below _ (T7.setTop (mkF m 4 #[.val (.ref a)] [(.double (FP.l2d p1.toInt64))]))
  refine go (fun _ => XS.aloadN X7.here hx rfl (hb hby d_p15_m2_4) rfl rfl) ?_
  show Run p e below _ (T7.setTop (mkF m 5 #[.val (.ref a)] [(.ref a), (.double (FP.l2d p1.toInt64))]))
  obtain ⟨T8, X8, e8, st8⟩ := getF X7 hx hZ hown (host := "") (Or.inl (wd hw 16 rfl)) Via.refl e7 F_title_a (g := (mkF m 5 #[.val (.ref a)] [(.ref a), (.double (FP.l2d p1.toInt64))])) rfl rfl (hb hby d_p15_m2_5)
  refine go st8 ?_
  show Run p e below _ (T8.setTop (mkF m 8 #[.val (.ref a)] [(.double (FP.l2d p2.toInt64)), (.double (FP.l2d p1.toInt64))]))
  refine go (fun _ => XS.daddS X8.here hx rfl (hb hby d_p15_m2_8) rfl (nn_w (dadd_w (own_b1 p1) (own_b1 p2))) (dadd_w (own_b1 p1) (own_b1 p2))) ?_
  show Run p e below _ (T8.setTop (mkF m 9 #[.val (.ref a)] [(.double (FP.l2d (p1.toInt64 + p2.toInt64)))]))
  refine go (fun _ => XS.aloadN X8.here hx rfl (hb hby d_p15_m2_9) rfl rfl) ?_
  show Run p e below _ (T8.setTop (mkF m 10 #[.val (.ref a)] [(.ref a), (.double (FP.l2d (p1.toInt64 + p2.toInt64)))]))
  obtain ⟨T9, X9, e9, st9⟩ := getF X8 hx hZ hown (host := "") (Or.inl (wd hw 18 rfl)) Via.refl e8 F_body_a (g := (mkF m 10 #[.val (.ref a)] [(.ref a), (.double (FP.l2d (p1.toInt64 + p2.toInt64)))])) rfl rfl (hb hby d_p15_m2_10)
  refine go st9 ?_
  show Run p e below _ (T9.setTop (mkF m 13 #[.val (.ref a)] [(.double (FP.l2d p3.toInt64)), (.double (FP.l2d (p1.toInt64 + p2.toInt64)))]))
  refine go (fun _ => XS.daddS X9.here hx rfl (hb hby d_p15_m2_13) rfl (nn_w (dadd_w (own_b2 p1 p2) (own_b1 p3))) (dadd_w (own_b2 p1 p2) (own_b1 p3))) ?_
  show Run p e below _ (T9.setTop (mkF m 14 #[.val (.ref a)] [(.double (FP.l2d (p1.toInt64 + p2.toInt64 + p3.toInt64)))]))
  refine go (fun _ => XS.aloadN X9.here hx rfl (hb hby d_p15_m2_14) rfl rfl) ?_
  show Run p e below _ (T9.setTop (mkF m 15 #[.val (.ref a)] [(.ref a), (.double (FP.l2d (p1.toInt64 + p2.toInt64 + p3.toInt64)))]))
  obtain ⟨T10, X10, e10, st10⟩ := getF X9 hx hZ hown (host := "") (Or.inl (wd hw 20 rfl)) Via.refl e9 F_links_a (g := (mkF m 15 #[.val (.ref a)] [(.ref a), (.double (FP.l2d (p1.toInt64 + p2.toInt64 + p3.toInt64)))])) rfl rfl (hb hby d_p15_m2_15)
  refine go st10 ?_
  show Run p e below _ (T10.setTop (mkF m 18 #[.val (.ref a)] [(.double (FP.l2d p4.toInt64)), (.double (FP.l2d (p1.toInt64 + p2.toInt64 + p3.toInt64)))]))
  refine go (fun _ => XS.daddS X10.here hx rfl (hb hby d_p15_m2_18) rfl (nn_w (dadd_w (own_b3 p1 p2 p3) (own_b1 p4))) (dadd_w (own_b3 p1 p2 p3) (own_b1 p4))) ?_
  show Run p e below _ (T10.setTop (mkF m 19 #[.val (.ref a)] [(.double (FP.l2d (p1.toInt64 + p2.toInt64 + p3.toInt64 + p4.toInt64)))]))
  exact endD X10 hx hlk hret (hb hby d_p15_m2_19) (⟨rfl, N0, e10⟩) (by decide) (by decide)
theorem d_p15_m3_0 : decode prog_15_method_3_code 0 = .ok (.aload_n 0, 1) := by decide +kernel
theorem d_p15_m3_1 : decode prog_15_method_3_code 1 = .ok (.invokevirtual 22, 3) := by decide +kernel
theorem pd_1 : parseMethodDescriptor "()D" = some ⟨[], some .double⟩ := by decide +kernel
theorem d_p15_m3_4 : decode prog_15_method_3_code 4 = .ok (.dload_n 1, 1) := by decide +kernel
theorem d_p15_m3_5 : decode prog_15_method_3_code 5 = .ok (.dcmp .l, 1) := by decide +kernel
theorem d_p15_m3_6 : decode prog_15_method_3_code 6 = .ok (.ifCond .le 7, 3) := by decide +kernel
theorem d_p15_m3_9 : decode prog_15_method_3_code 9 = .ok (.iconst 1, 1) := by decide +kernel
theorem d_p15_m3_10 : decode prog_15_method_3_code 10 = .ok (.goto 4, 3) := by decide +kernel
theorem d_p15_m3_14 : decode prog_15_method_3_code 14 = .ok (.ireturn, 1) := by decide +kernel
theorem d_p15_m3_13 : decode prog_15_method_3_code 13 = .ok (.iconst 0, 1) := by decide +kernel
def Q_rm_exc (a : Addr) (p1 p2 p3 p4 : Int32) (t : Int64) (h0 : Heap) (n0 : Nat) (v : Option Value) (h : Heap) (L : List Loc) : Prop := v = some (.int (if t < p1.toInt64 + p2.toInt64 + p3.toInt64 + p4.toInt64 then 1 else 0)) ∧ Fr n0 L ∧ h = h0
set_option maxRecDepth 65536 in
set_option maxHeartbeats 40000000 in
theorem rm_exc (l : Launch) (Z : State) (a0 : Array Value) (hw : ∀ d ∈ tables_1, d.before a0 Z = true) (ws : List Jvm.Cond) (a : Addr) (p1 p2 p3 p4 : Int32) (t : Int64) (h0 : Heap) (n0 : Nat) (O0 : Old Z n0 h0) (E_a : Exa Z h0 a "com/example/visit_by_value/visitbyvalue/core/PageWeight") (F_url_a : Fld Z h0 a "com/example/visit_by_value/visitbyvalue/core/PageWeight" "url" "D" (.double (FP.l2d p1.toInt64))) (F_title_a : Fld Z h0 a "com/example/visit_by_value/visitbyvalue/core/PageWeight" "title" "D" (.double (FP.l2d p2.toInt64))) (F_body_a : Fld Z h0 a "com/example/visit_by_value/visitbyvalue/core/PageWeight" "body" "D" (.double (FP.l2d p3.toInt64))) (F_links_a : Fld Z h0 a "com/example/visit_by_value/visitbyvalue/core/PageWeight" "links" "D" (.double (FP.l2d p4.toInt64))) (ht : B53 t) :
    Meets l (⟨"com/example/visit_by_value/visitbyvalue/core/PageWeight", "exceeds", "(D)Z"⟩ : MethodName) prog_15_method_3_code 3 (some .boolean) ws ({ frames := 1, cells := 0, slots := 0, locals := 12 } : Room) Z #[(.ref a), (.double (FP.l2d t))] h0 (Q_rm_exc a p1 p2 p3 p4 t h0 n0) 0 0 := by
  refine enter (Ls := #[.val (.ref a), .val (.double (FP.l2d t)), .second]) (plainFor_of_name pn_1) (fun m => by first | rfl | (simp [entryFrame, mkF, argsToLocals, Value.category]; done)) ?_
  intro p e s m below meth c T0 hx hby hml hown hnm hret hlk hZ X0 e0
  have N0 := Fr.nil n0
  replace hown : s.vm.findClass "com/example/visit_by_value/visitbyvalue/core/PageWeight" = some m.cls := hown
  show Run p e below _ (T0.setTop (mkF m 0 #[.val (.ref a), .val (.double (FP.l2d t)), .second] []))
  refine go (fun _ => XS.aloadN X0.here hx rfl (hb hby d_p15_m3_0) rfl rfl) ?_
  show Run p e below _ (T0.setTop (mkF m 1 #[.val (.ref a), .val (.double (FP.l2d t)), .second] [(.ref a)]))
  refine callVi X0 hx hZ hown (wd hw 27 rfl) (wd hw 28 rfl) (notFace_of_selects (args := #[]) (mvT hZ (wd hw 30 rfl))) (wd hw 30 rfl) (wd hw 29 rfl) (wd hw 31 rfl) (wd hw 2 rfl) (by decide) e0 E_a (argsL := []) (rest := []) (rm_tot l Z a0 hw [] a p1 p2 p3 p4 h0 n0 O0 E_a F_url_a F_title_a F_body_a F_links_a) (W := 0) (by decide) (by decide) (by decide) (by decide) (by rw [hml]; rfl) (lenOf pd_1 rfl) rfl (Nat.le_of_eq rfl) (hb hby d_p15_m3_1) ?_
  intro v11 T11 L11 h11 X11 e11 q11
  obtain ⟨rv, n11, k11⟩ := q11
  replace rv : v11 = some (.double (FP.l2d (p1.toInt64 + p2.toInt64 + p3.toInt64 + p4.toInt64))) := rv
  subst rv
  have e11 := e11.trans k11
  have N11 := Fr.app N0 n11
  show Run p e below _ (T11.setTop (mkF m 4 #[.val (.ref a), .val (.double (FP.l2d t)), .second] [(.double (FP.l2d (p1.toInt64 + p2.toInt64 + p3.toInt64 + p4.toInt64)))]))
  refine go (fun _ => XS.dloadN X11.here hx rfl (hb hby d_p15_m3_4) rfl) ?_
  show Run p e below _ (T11.setTop (mkF m 5 #[.val (.ref a), .val (.double (FP.l2d t)), .second] [(.double (FP.l2d t)), (.double (FP.l2d (p1.toInt64 + p2.toInt64 + p3.toInt64 + p4.toInt64)))]))
  refine go (fun _ => XS.dcmpS X11.here hx rfl (hb hby d_p15_m3_5) rfl (dcmpV_w (own_b4 p1 p2 p3 p4) ht .l)) ?_
  show Run p e below _ (T11.setTop (mkF m 6 #[.val (.ref a), .val (.double (FP.l2d t)), .second] [(.int (lcmpW (p1.toInt64 + p2.toInt64 + p3.toInt64 + p4.toInt64) t))]))
  by_cases c12 : 0 < (lcmpW (p1.toInt64 + p2.toInt64 + p3.toInt64 + p4.toInt64) t)
  · skip
    refine go (fun _ => XS.ifNo X11.here hx rfl (hb hby d_p15_m3_6) rfl ((if0 _ _).trans (tlt c12).2.2.2)) ?_
    show Run p e below _ (T11.setTop (mkF m 9 #[.val (.ref a), .val (.double (FP.l2d t)), .second] []))
    refine go (fun _ => XS.iconst X11.here hx rfl (hb hby d_p15_m3_9)) ?_
    show Run p e below _ (T11.setTop (mkF m 10 #[.val (.ref a), .val (.double (FP.l2d t)), .second] [(.int (1 : Int32))]))
    refine go (fun _ => XS.goto X11.here hx rfl (pc0 := 10) (pc' := 14) rfl (hb hby d_p15_m3_10) (by decide) (by decide)) ?_
    show Run p e below _ (T11.setTop (mkF m 14 #[.val (.ref a), .val (.double (FP.l2d t)), .second] [(.int (1 : Int32))]))
    rw [lw_gt] at c12
    exact endN X11 hx hlk (t := .boolean) hret (by simp) (hb hby d_p15_m3_14) (⟨by rw [if_pos c12]; rfl, N11, e11⟩) (by decide) (by decide)
  · skip
    refine go (fun _ => XS.ifYes X11.here hx rfl (pc0 := 6) (pc' := 13) rfl (hb hby d_p15_m3_6) rfl ((if0 _ _).trans (flt c12).2.2.2) (by decide) (by decide)) ?_
    show Run p e below _ (T11.setTop (mkF m 13 #[.val (.ref a), .val (.double (FP.l2d t)), .second] []))
    refine go (fun _ => XS.iconst X11.here hx rfl (hb hby d_p15_m3_13)) ?_
    show Run p e below _ (T11.setTop (mkF m 14 #[.val (.ref a), .val (.double (FP.l2d t)), .second] [(.int (0 : Int32))]))
    rw [lw_gt] at c12
    exact endN X11 hx hlk (t := .boolean) hret (by simp) (hb hby d_p15_m3_14) (⟨by rw [if_neg c12]; rfl, N11, e11⟩) (by decide) (by decide)
theorem pd_2 : parseMethodDescriptor "(DDDD)V" = some ⟨[.double, .double, .double, .double], none⟩ := by decide +kernel
theorem pd_3 : parseMethodDescriptor "(D)Z" = some ⟨[.double], some .boolean⟩ := by decide +kernel
theorem pn_2 : plainName "com/example/visit_by_value/visitbyvalue/core/PageWeightExceedsPinLaw" = true := by first | (simp [plainName, overriddenIn]; done) | decide +kernel
def Q_rmlaw (p0 p1 p2 p3 p4 p5 : Int32) (h0 : Heap) (n0 : Nat) (v : Option Value) (h : Heap) (L : List Loc) : Prop := v = some (.int 1) ∧ Fr n0 L
set_option maxRecDepth 65536 in
set_option maxHeartbeats 40000000 in
theorem rmlaw (l : Launch) (Z : State) (a0 : Array Value) (hw : ∀ d ∈ tables_1, d.before a0 Z = true) (ws : List Jvm.Cond) (p0 p1 p2 p3 p4 p5 : Int32) (h0 : Heap) (n0 : Nat) (O0 : Old Z n0 h0)  :
    Meets l x code maxLocals ret ws room_1 Z #[(.int p0), (.int p1), (.int p2), (.int p3), (.int p4), (.int p5)] h0 (Q_rmlaw p0 p1 p2 p3 p4 p5 h0 n0) 16 128 := by
  refine enter (Ls := #[.val (.int p0), .val (.int p1), .val (.int p2), .val (.int p3), .val (.int p4), .val (.int p5), .unset, .unset, .unset, .unset, .unset, .unset]) (plainFor_of_name pn_2) (fun m => by first | rfl | (simp [entryFrame, mkF, argsToLocals, Value.category]; done)) ?_
  intro p e s m below meth c T0 hx hby hml hown hnm hret hlk hZ X0 e0
  have N0 := Fr.nil n0
  replace hown : s.vm.findClass "com/example/visit_by_value/visitbyvalue/core/PageWeightExceedsPinLaw" = some m.cls := hown
  show Run p e below _ (T0.setTop (mkF m 0 #[.val (.int p0), .val (.int p1), .val (.int p2), .val (.int p3), .val (.int p4), .val (.int p5), .unset, .unset, .unset, .unset, .unset, .unset] []))
  refine go (fun _ => XS.iloadN X0.here hx rfl (hb hby at_0) rfl) ?_
  show Run p e below _ (T0.setTop (mkF m 1 #[.val (.int p0), .val (.int p1), .val (.int p2), .val (.int p3), .val (.int p4), .val (.int p5), .unset, .unset, .unset, .unset, .unset, .unset] [(.int p0)]))
  refine go (fun _ => XS.i2l X0.here hx rfl (hb hby at_1) rfl) ?_
  show Run p e below _ (T0.setTop (mkF m 2 #[.val (.int p0), .val (.int p1), .val (.int p2), .val (.int p3), .val (.int p4), .val (.int p5), .unset, .unset, .unset, .unset, .unset, .unset] [(.long (p0.toInt64))]))
  refine go (fun _ => XS.iloadN X0.here hx rfl (hb hby at_2) rfl) ?_
  show Run p e below _ (T0.setTop (mkF m 3 #[.val (.int p0), .val (.int p1), .val (.int p2), .val (.int p3), .val (.int p4), .val (.int p5), .unset, .unset, .unset, .unset, .unset, .unset] [(.int p1), (.long (p0.toInt64))]))
  refine go (fun _ => XS.i2l X0.here hx rfl (hb hby at_3) rfl) ?_
  show Run p e below _ (T0.setTop (mkF m 4 #[.val (.int p0), .val (.int p1), .val (.int p2), .val (.int p3), .val (.int p4), .val (.int p5), .unset, .unset, .unset, .unset, .unset, .unset] [(.long (p1.toInt64)), (.long (p0.toInt64))]))
  refine go (fun _ => XS.ladd X0.here hx rfl (hb hby at_4) rfl) ?_
  show Run p e below _ (T0.setTop (mkF m 5 #[.val (.int p0), .val (.int p1), .val (.int p2), .val (.int p3), .val (.int p4), .val (.int p5), .unset, .unset, .unset, .unset, .unset, .unset] [(.long ((p0.toInt64) + (p1.toInt64)))]))
  refine go (fun _ => XS.iloadN X0.here hx rfl (hb hby at_5) rfl) ?_
  show Run p e below _ (T0.setTop (mkF m 6 #[.val (.int p0), .val (.int p1), .val (.int p2), .val (.int p3), .val (.int p4), .val (.int p5), .unset, .unset, .unset, .unset, .unset, .unset] [(.int p2), (.long ((p0.toInt64) + (p1.toInt64)))]))
  refine go (fun _ => XS.i2l X0.here hx rfl (hb hby at_6) rfl) ?_
  show Run p e below _ (T0.setTop (mkF m 7 #[.val (.int p0), .val (.int p1), .val (.int p2), .val (.int p3), .val (.int p4), .val (.int p5), .unset, .unset, .unset, .unset, .unset, .unset] [(.long (p2.toInt64)), (.long ((p0.toInt64) + (p1.toInt64)))]))
  refine go (fun _ => XS.ladd X0.here hx rfl (hb hby at_7) rfl) ?_
  show Run p e below _ (T0.setTop (mkF m 8 #[.val (.int p0), .val (.int p1), .val (.int p2), .val (.int p3), .val (.int p4), .val (.int p5), .unset, .unset, .unset, .unset, .unset, .unset] [(.long (((p0.toInt64) + (p1.toInt64)) + (p2.toInt64)))]))
  refine go (fun _ => XS.iloadN X0.here hx rfl (hb hby at_8) rfl) ?_
  show Run p e below _ (T0.setTop (mkF m 9 #[.val (.int p0), .val (.int p1), .val (.int p2), .val (.int p3), .val (.int p4), .val (.int p5), .unset, .unset, .unset, .unset, .unset, .unset] [(.int p3), (.long (((p0.toInt64) + (p1.toInt64)) + (p2.toInt64)))]))
  refine go (fun _ => XS.i2l X0.here hx rfl (hb hby at_9) rfl) ?_
  show Run p e below _ (T0.setTop (mkF m 10 #[.val (.int p0), .val (.int p1), .val (.int p2), .val (.int p3), .val (.int p4), .val (.int p5), .unset, .unset, .unset, .unset, .unset, .unset] [(.long (p3.toInt64)), (.long (((p0.toInt64) + (p1.toInt64)) + (p2.toInt64)))]))
  refine go (fun _ => XS.ladd X0.here hx rfl (hb hby at_10) rfl) ?_
  show Run p e below _ (T0.setTop (mkF m 11 #[.val (.int p0), .val (.int p1), .val (.int p2), .val (.int p3), .val (.int p4), .val (.int p5), .unset, .unset, .unset, .unset, .unset, .unset] [(.long ((((p0.toInt64) + (p1.toInt64)) + (p2.toInt64)) + (p3.toInt64)))]))
  refine go (fun _ => XS.lstore X0.here hx rfl (hb hby at_11) rfl (l' := #[.val (.int p0), .val (.int p1), .val (.int p2), .val (.int p3), .val (.int p4), .val (.int p5), .val (.long ((((p0.toInt64) + (p1.toInt64)) + (p2.toInt64)) + (p3.toInt64))), .second, .unset, .unset, .unset, .unset]) rfl) ?_
  show Run p e below _ (T0.setTop (mkF m 13 #[.val (.int p0), .val (.int p1), .val (.int p2), .val (.int p3), .val (.int p4), .val (.int p5), .val (.long ((((p0.toInt64) + (p1.toInt64)) + (p2.toInt64)) + (p3.toInt64))), .second, .unset, .unset, .unset, .unset] []))
  refine go (fun _ => XS.iload X0.here hx rfl (hb hby at_13) rfl) ?_
  show Run p e below _ (T0.setTop (mkF m 15 #[.val (.int p0), .val (.int p1), .val (.int p2), .val (.int p3), .val (.int p4), .val (.int p5), .val (.long ((((p0.toInt64) + (p1.toInt64)) + (p2.toInt64)) + (p3.toInt64))), .second, .unset, .unset, .unset, .unset] [(.int p5)]))
  refine go (fun _ => XS.iconst X0.here hx rfl (hb hby at_15)) ?_
  show Run p e below _ (T0.setTop (mkF m 16 #[.val (.int p0), .val (.int p1), .val (.int p2), .val (.int p3), .val (.int p4), .val (.int p5), .val (.long ((((p0.toInt64) + (p1.toInt64)) + (p2.toInt64)) + (p3.toInt64))), .second, .unset, .unset, .unset, .unset] [(.int (1 : Int32)), (.int p5)]))
  refine go (fun _ => XS.iand X0.here hx rfl (hb hby at_16) rfl) ?_
  show Run p e below _ (T0.setTop (mkF m 17 #[.val (.int p0), .val (.int p1), .val (.int p2), .val (.int p3), .val (.int p4), .val (.int p5), .val (.long ((((p0.toInt64) + (p1.toInt64)) + (p2.toInt64)) + (p3.toInt64))), .second, .unset, .unset, .unset, .unset] [(.int (p5 &&& (1 : Int32)))]))
  have J38 : ∀ (T13 : State) (L13 : List Loc) (X13 : Stand p l e room_1 s m #[(.int p0), (.int p1), (.int p2), (.int p3), (.int p4), (.int p5)] below meth c T13 L13 0 0) (e13 : T13.heap = h0) (N13 : Fr n0 L13) (t : Int64)  (ht : B53 t), Run p e below (Ends s (Q_rmlaw p0 p1 p2 p3 p4 p5 h0 n0) 16 128) (T13.setTop (mkF m 38 #[.val (.int p0), .val (.int p1), .val (.int p2), .val (.int p3), .val (.int p4), .val (.int p5), .val (.long ((((p0.toInt64) + (p1.toInt64)) + (p2.toInt64)) + (p3.toInt64))), .second, .val (.long t), .second, .unset, .unset] [])) := by
    intro T13 L13 X13 e13 N13 t  ht
    obtain ⟨T14, h14, X14, e14, E14, A14, D14, -, st14⟩ := newO X13 hx hZ hown (wd hw 0 rfl) (wd hw 1 rfl) (wd hw 2 rfl) e13 (g := (mkF m 38 #[.val (.int p0), .val (.int p1), .val (.int p2), .val (.int p3), .val (.int p4), .val (.int p5), .val (.long ((((p0.toInt64) + (p1.toInt64)) + (p2.toInt64)) + (p3.toInt64))), .second, .val (.long t), .second, .unset, .unset] [])) rfl (hb hby at_38) (by decide) (by decide)
    obtain ⟨b14, y14⟩ : ∃ z, z = h0.size := ⟨_, rfl⟩
    rw [← y14] at A14 D14 st14
    have g_b14 : n0 ≤ b14 := y14.symm ▸ old_sz O0
    have O0 := O0.ext E14
    have E_b14 := A14
    have F_url_b14 : Fld Z h14 b14 "com/example/visit_by_value/visitbyvalue/core/PageWeight" "url" "D" (.double (0 : UInt64)) := D14 (Or.inr (wd hw 15 rfl)) (ty := .double) (by decide)
    have F_title_b14 : Fld Z h14 b14 "com/example/visit_by_value/visitbyvalue/core/PageWeight" "title" "D" (.double (0 : UInt64)) := D14 (Or.inr (wd hw 17 rfl)) (ty := .double) (by decide)
    have F_body_b14 : Fld Z h14 b14 "com/example/visit_by_value/visitbyvalue/core/PageWeight" "body" "D" (.double (0 : UInt64)) := D14 (Or.inr (wd hw 19 rfl)) (ty := .double) (by decide)
    have F_links_b14 : Fld Z h14 b14 "com/example/visit_by_value/visitbyvalue/core/PageWeight" "links" "D" (.double (0 : UInt64)) := D14 (Or.inr (wd hw 21 rfl)) (ty := .double) (by decide)
    refine go st14 ?_
    show Run p e below _ (T14.setTop (mkF m 41 #[.val (.int p0), .val (.int p1), .val (.int p2), .val (.int p3), .val (.int p4), .val (.int p5), .val (.long ((((p0.toInt64) + (p1.toInt64)) + (p2.toInt64)) + (p3.toInt64))), .second, .val (.long t), .second, .unset, .unset] [(.ref b14)]))
    refine go (fun _ => XS.dup X14.here hx rfl (hb hby at_41) rfl rfl) ?_
    show Run p e below _ (T14.setTop (mkF m 42 #[.val (.int p0), .val (.int p1), .val (.int p2), .val (.int p3), .val (.int p4), .val (.int p5), .val (.long ((((p0.toInt64) + (p1.toInt64)) + (p2.toInt64)) + (p3.toInt64))), .second, .val (.long t), .second, .unset, .unset] [(.ref b14), (.ref b14)]))
    refine go (fun _ => XS.iloadN X14.here hx rfl (hb hby at_42) rfl) ?_
    show Run p e below _ (T14.setTop (mkF m 43 #[.val (.int p0), .val (.int p1), .val (.int p2), .val (.int p3), .val (.int p4), .val (.int p5), .val (.long ((((p0.toInt64) + (p1.toInt64)) + (p2.toInt64)) + (p3.toInt64))), .second, .val (.long t), .second, .unset, .unset] [(.int p0), (.ref b14), (.ref b14)]))
    refine go (fun _ => XS.i2dS X14.here hx rfl (hb hby at_43) rfl (i2d_w p0)) ?_
    show Run p e below _ (T14.setTop (mkF m 44 #[.val (.int p0), .val (.int p1), .val (.int p2), .val (.int p3), .val (.int p4), .val (.int p5), .val (.long ((((p0.toInt64) + (p1.toInt64)) + (p2.toInt64)) + (p3.toInt64))), .second, .val (.long t), .second, .unset, .unset] [(.double (FP.l2d p0.toInt64)), (.ref b14), (.ref b14)]))
    refine go (fun _ => XS.iloadN X14.here hx rfl (hb hby at_44) rfl) ?_
    show Run p e below _ (T14.setTop (mkF m 45 #[.val (.int p0), .val (.int p1), .val (.int p2), .val (.int p3), .val (.int p4), .val (.int p5), .val (.long ((((p0.toInt64) + (p1.toInt64)) + (p2.toInt64)) + (p3.toInt64))), .second, .val (.long t), .second, .unset, .unset] [(.int p1), (.double (FP.l2d p0.toInt64)), (.ref b14), (.ref b14)]))
    refine go (fun _ => XS.i2dS X14.here hx rfl (hb hby at_45) rfl (i2d_w p1)) ?_
    show Run p e below _ (T14.setTop (mkF m 46 #[.val (.int p0), .val (.int p1), .val (.int p2), .val (.int p3), .val (.int p4), .val (.int p5), .val (.long ((((p0.toInt64) + (p1.toInt64)) + (p2.toInt64)) + (p3.toInt64))), .second, .val (.long t), .second, .unset, .unset] [(.double (FP.l2d p1.toInt64)), (.double (FP.l2d p0.toInt64)), (.ref b14), (.ref b14)]))
    refine go (fun _ => XS.iloadN X14.here hx rfl (hb hby at_46) rfl) ?_
    show Run p e below _ (T14.setTop (mkF m 47 #[.val (.int p0), .val (.int p1), .val (.int p2), .val (.int p3), .val (.int p4), .val (.int p5), .val (.long ((((p0.toInt64) + (p1.toInt64)) + (p2.toInt64)) + (p3.toInt64))), .second, .val (.long t), .second, .unset, .unset] [(.int p2), (.double (FP.l2d p1.toInt64)), (.double (FP.l2d p0.toInt64)), (.ref b14), (.ref b14)]))
    refine go (fun _ => XS.i2dS X14.here hx rfl (hb hby at_47) rfl (i2d_w p2)) ?_
    show Run p e below _ (T14.setTop (mkF m 48 #[.val (.int p0), .val (.int p1), .val (.int p2), .val (.int p3), .val (.int p4), .val (.int p5), .val (.long ((((p0.toInt64) + (p1.toInt64)) + (p2.toInt64)) + (p3.toInt64))), .second, .val (.long t), .second, .unset, .unset] [(.double (FP.l2d p2.toInt64)), (.double (FP.l2d p1.toInt64)), (.double (FP.l2d p0.toInt64)), (.ref b14), (.ref b14)]))
    refine go (fun _ => XS.iloadN X14.here hx rfl (hb hby at_48) rfl) ?_
    show Run p e below _ (T14.setTop (mkF m 49 #[.val (.int p0), .val (.int p1), .val (.int p2), .val (.int p3), .val (.int p4), .val (.int p5), .val (.long ((((p0.toInt64) + (p1.toInt64)) + (p2.toInt64)) + (p3.toInt64))), .second, .val (.long t), .second, .unset, .unset] [(.int p3), (.double (FP.l2d p2.toInt64)), (.double (FP.l2d p1.toInt64)), (.double (FP.l2d p0.toInt64)), (.ref b14), (.ref b14)]))
    refine go (fun _ => XS.i2dS X14.here hx rfl (hb hby at_49) rfl (i2d_w p3)) ?_
    show Run p e below _ (T14.setTop (mkF m 50 #[.val (.int p0), .val (.int p1), .val (.int p2), .val (.int p3), .val (.int p4), .val (.int p5), .val (.long ((((p0.toInt64) + (p1.toInt64)) + (p2.toInt64)) + (p3.toInt64))), .second, .val (.long t), .second, .unset, .unset] [(.double (FP.l2d p3.toInt64)), (.double (FP.l2d p2.toInt64)), (.double (FP.l2d p1.toInt64)), (.double (FP.l2d p0.toInt64)), (.ref b14), (.ref b14)]))
    refine callSp X14 hx hZ rfl hown (wd hw 3 rfl) (wd hw 4 rfl) (wd hw 5 rfl) (wd hw 2 rfl) (by decide) e14 (a := b14) (argsL := [(.double (FP.l2d p0.toInt64)), (.double (FP.l2d p1.toInt64)), (.double (FP.l2d p2.toInt64)), (.double (FP.l2d p3.toInt64))]) (rest := [(.ref b14)]) (rm_init l Z a0 hw [] b14 (FP.l2d p0.toInt64) (FP.l2d p1.toInt64) (FP.l2d p2.toInt64) (FP.l2d p3.toInt64) h14 n0 O0 E_b14 F_url_b14 F_title_b14 F_body_b14 F_links_b14 g_b14) (W := 1) (by decide) (by decide) (by decide) (by decide) (by rw [hml]; rfl) (lenOf pd_2 rfl) rfl (Nat.le_of_eq rfl) (hb hby at_50) ?_
    intro v15 T15 L15 h15 X15 e15 q15
    obtain ⟨rfl, n15, K15, E_b14, F_url_b14, F_title_b14, F_body_b14, F_links_b14⟩ := q15
    have O0 := O0.keep K15 (allS g_b14 all0)
    have N15 := Fr.app N13 n15
    show Run p e below _ (T15.setTop (mkF m 53 #[.val (.int p0), .val (.int p1), .val (.int p2), .val (.int p3), .val (.int p4), .val (.int p5), .val (.long ((((p0.toInt64) + (p1.toInt64)) + (p2.toInt64)) + (p3.toInt64))), .second, .val (.long t), .second, .unset, .unset] [(.ref b14)]))
    refine go (fun _ => XS.astore X15.here hx rfl (hb hby at_53) rfl rfl (l' := #[.val (.int p0), .val (.int p1), .val (.int p2), .val (.int p3), .val (.int p4), .val (.int p5), .val (.long ((((p0.toInt64) + (p1.toInt64)) + (p2.toInt64)) + (p3.toInt64))), .second, .val (.long t), .second, .val (.ref b14), .unset]) rfl) ?_
    show Run p e below _ (T15.setTop (mkF m 55 #[.val (.int p0), .val (.int p1), .val (.int p2), .val (.int p3), .val (.int p4), .val (.int p5), .val (.long ((((p0.toInt64) + (p1.toInt64)) + (p2.toInt64)) + (p3.toInt64))), .second, .val (.long t), .second, .val (.ref b14), .unset] []))
    refine go (fun _ => XS.aload X15.here hx rfl (hb hby at_55) rfl rfl) ?_
    show Run p e below _ (T15.setTop (mkF m 57 #[.val (.int p0), .val (.int p1), .val (.int p2), .val (.int p3), .val (.int p4), .val (.int p5), .val (.long ((((p0.toInt64) + (p1.toInt64)) + (p2.toInt64)) + (p3.toInt64))), .second, .val (.long t), .second, .val (.ref b14), .unset] [(.ref b14)]))
    refine go (fun _ => XS.lload X15.here hx rfl (hb hby at_57) rfl) ?_
    show Run p e below _ (T15.setTop (mkF m 59 #[.val (.int p0), .val (.int p1), .val (.int p2), .val (.int p3), .val (.int p4), .val (.int p5), .val (.long ((((p0.toInt64) + (p1.toInt64)) + (p2.toInt64)) + (p3.toInt64))), .second, .val (.long t), .second, .val (.ref b14), .unset] [(.long t), (.ref b14)]))
    refine go (fun _ => XS.l2dS X15.here hx rfl (hb hby at_59) rfl rfl) ?_
    show Run p e below _ (T15.setTop (mkF m 60 #[.val (.int p0), .val (.int p1), .val (.int p2), .val (.int p3), .val (.int p4), .val (.int p5), .val (.long ((((p0.toInt64) + (p1.toInt64)) + (p2.toInt64)) + (p3.toInt64))), .second, .val (.long t), .second, .val (.ref b14), .unset] [(.double (FP.l2d t)), (.ref b14)]))
    refine callVi X15 hx hZ hown (wd hw 22 rfl) (wd hw 23 rfl) (notFace_of_selects (args := #[]) (mvT hZ (wd hw 25 rfl))) (wd hw 25 rfl) (wd hw 24 rfl) (wd hw 26 rfl) (wd hw 2 rfl) (by decide) e15 E_b14 (argsL := [(.double (FP.l2d t))]) (rest := []) (rm_exc l Z a0 hw [] b14 p0 p1 p2 p3 t h15 n0 O0 E_b14 F_url_b14 F_title_b14 F_body_b14 F_links_b14 ht) (W := 0) (by decide) (by decide) (by decide) (by decide) (by rw [hml]; rfl) (lenOf pd_3 rfl) rfl (Nat.le_of_eq rfl) (hb hby at_60) ?_
    intro v16 T16 L16 h16 X16 e16 q16
    obtain ⟨rv, n16, k16⟩ := q16
    replace rv : v16 = some (.int (if t < ((((p0.toInt64) + (p1.toInt64)) + (p2.toInt64)) + (p3.toInt64)) then 1 else 0)) := rv
    subst rv
    have e16 := e16.trans k16
    have N16 := Fr.app N15 n16
    show Run p e below _ (T16.setTop (mkF m 63 #[.val (.int p0), .val (.int p1), .val (.int p2), .val (.int p3), .val (.int p4), .val (.int p5), .val (.long ((((p0.toInt64) + (p1.toInt64)) + (p2.toInt64)) + (p3.toInt64))), .second, .val (.long t), .second, .val (.ref b14), .unset] [(.int (if t < ((((p0.toInt64) + (p1.toInt64)) + (p2.toInt64)) + (p3.toInt64)) then 1 else 0))]))
    refine go (fun _ => XS.istore X16.here hx rfl (hb hby at_63) rfl (l' := #[.val (.int p0), .val (.int p1), .val (.int p2), .val (.int p3), .val (.int p4), .val (.int p5), .val (.long ((((p0.toInt64) + (p1.toInt64)) + (p2.toInt64)) + (p3.toInt64))), .second, .val (.long t), .second, .val (.ref b14), .val (.int (if t < ((((p0.toInt64) + (p1.toInt64)) + (p2.toInt64)) + (p3.toInt64)) then 1 else 0))]) rfl) ?_
    show Run p e below _ (T16.setTop (mkF m 65 #[.val (.int p0), .val (.int p1), .val (.int p2), .val (.int p3), .val (.int p4), .val (.int p5), .val (.long ((((p0.toInt64) + (p1.toInt64)) + (p2.toInt64)) + (p3.toInt64))), .second, .val (.long t), .second, .val (.ref b14), .val (.int (if t < ((((p0.toInt64) + (p1.toInt64)) + (p2.toInt64)) + (p3.toInt64)) then 1 else 0))] []))
    refine go (fun _ => XS.iload X16.here hx rfl (hb hby at_65) rfl) ?_
    show Run p e below _ (T16.setTop (mkF m 67 #[.val (.int p0), .val (.int p1), .val (.int p2), .val (.int p3), .val (.int p4), .val (.int p5), .val (.long ((((p0.toInt64) + (p1.toInt64)) + (p2.toInt64)) + (p3.toInt64))), .second, .val (.long t), .second, .val (.ref b14), .val (.int (if t < ((((p0.toInt64) + (p1.toInt64)) + (p2.toInt64)) + (p3.toInt64)) then 1 else 0))] [(.int (if t < ((((p0.toInt64) + (p1.toInt64)) + (p2.toInt64)) + (p3.toInt64)) then 1 else 0))]))
    refine go (fun _ => XS.lload X16.here hx rfl (hb hby at_67) rfl) ?_
    show Run p e below _ (T16.setTop (mkF m 69 #[.val (.int p0), .val (.int p1), .val (.int p2), .val (.int p3), .val (.int p4), .val (.int p5), .val (.long ((((p0.toInt64) + (p1.toInt64)) + (p2.toInt64)) + (p3.toInt64))), .second, .val (.long t), .second, .val (.ref b14), .val (.int (if t < ((((p0.toInt64) + (p1.toInt64)) + (p2.toInt64)) + (p3.toInt64)) then 1 else 0))] [(.long ((((p0.toInt64) + (p1.toInt64)) + (p2.toInt64)) + (p3.toInt64))), (.int (if t < ((((p0.toInt64) + (p1.toInt64)) + (p2.toInt64)) + (p3.toInt64)) then 1 else 0))]))
    refine go (fun _ => XS.lload X16.here hx rfl (hb hby at_69) rfl) ?_
    show Run p e below _ (T16.setTop (mkF m 71 #[.val (.int p0), .val (.int p1), .val (.int p2), .val (.int p3), .val (.int p4), .val (.int p5), .val (.long ((((p0.toInt64) + (p1.toInt64)) + (p2.toInt64)) + (p3.toInt64))), .second, .val (.long t), .second, .val (.ref b14), .val (.int (if t < ((((p0.toInt64) + (p1.toInt64)) + (p2.toInt64)) + (p3.toInt64)) then 1 else 0))] [(.long t), (.long ((((p0.toInt64) + (p1.toInt64)) + (p2.toInt64)) + (p3.toInt64))), (.int (if t < ((((p0.toInt64) + (p1.toInt64)) + (p2.toInt64)) + (p3.toInt64)) then 1 else 0))]))
    refine go (fun _ => XS.lcmp X16.here hx rfl (hb hby at_71) rfl) ?_
    show Run p e below _ (T16.setTop (mkF m 72 #[.val (.int p0), .val (.int p1), .val (.int p2), .val (.int p3), .val (.int p4), .val (.int p5), .val (.long ((((p0.toInt64) + (p1.toInt64)) + (p2.toInt64)) + (p3.toInt64))), .second, .val (.long t), .second, .val (.ref b14), .val (.int (if t < ((((p0.toInt64) + (p1.toInt64)) + (p2.toInt64)) + (p3.toInt64)) then 1 else 0))] [(.int (lcmpW ((((p0.toInt64) + (p1.toInt64)) + (p2.toInt64)) + (p3.toInt64)) t)), (.int (if t < ((((p0.toInt64) + (p1.toInt64)) + (p2.toInt64)) + (p3.toInt64)) then 1 else 0))]))
    by_cases c17 : 0 < (lcmpW ((((p0.toInt64) + (p1.toInt64)) + (p2.toInt64)) + (p3.toInt64)) t)
    · skip
      refine go (fun _ => XS.ifNo X16.here hx rfl (hb hby at_72) rfl ((if0 _ _).trans (tlt c17).2.2.2)) ?_
      show Run p e below _ (T16.setTop (mkF m 75 #[.val (.int p0), .val (.int p1), .val (.int p2), .val (.int p3), .val (.int p4), .val (.int p5), .val (.long ((((p0.toInt64) + (p1.toInt64)) + (p2.toInt64)) + (p3.toInt64))), .second, .val (.long t), .second, .val (.ref b14), .val (.int (if t < ((((p0.toInt64) + (p1.toInt64)) + (p2.toInt64)) + (p3.toInt64)) then 1 else 0))] [(.int (if t < ((((p0.toInt64) + (p1.toInt64)) + (p2.toInt64)) + (p3.toInt64)) then 1 else 0))]))
      refine go (fun _ => XS.iconst X16.here hx rfl (hb hby at_75)) ?_
      show Run p e below _ (T16.setTop (mkF m 76 #[.val (.int p0), .val (.int p1), .val (.int p2), .val (.int p3), .val (.int p4), .val (.int p5), .val (.long ((((p0.toInt64) + (p1.toInt64)) + (p2.toInt64)) + (p3.toInt64))), .second, .val (.long t), .second, .val (.ref b14), .val (.int (if t < ((((p0.toInt64) + (p1.toInt64)) + (p2.toInt64)) + (p3.toInt64)) then 1 else 0))] [(.int (1 : Int32)), (.int (if t < ((((p0.toInt64) + (p1.toInt64)) + (p2.toInt64)) + (p3.toInt64)) then 1 else 0))]))
      refine go (fun _ => XS.goto X16.here hx rfl (pc0 := 76) (pc' := 80) rfl (hb hby at_76) (by decide) (by decide)) ?_
      show Run p e below _ (T16.setTop (mkF m 80 #[.val (.int p0), .val (.int p1), .val (.int p2), .val (.int p3), .val (.int p4), .val (.int p5), .val (.long ((((p0.toInt64) + (p1.toInt64)) + (p2.toInt64)) + (p3.toInt64))), .second, .val (.long t), .second, .val (.ref b14), .val (.int (if t < ((((p0.toInt64) + (p1.toInt64)) + (p2.toInt64)) + (p3.toInt64)) then 1 else 0))] [(.int (1 : Int32)), (.int (if t < ((((p0.toInt64) + (p1.toInt64)) + (p2.toInt64)) + (p3.toInt64)) then 1 else 0))]))
      rw [lw_gt] at c17
      have hq : (if t < ((((p0.toInt64) + (p1.toInt64)) + (p2.toInt64)) + (p3.toInt64)) then 1 else 0) = (1 : Int32) := if_pos c17
      refine go (fun _ => XS.icmpNo X16.here hx rfl (hb hby at_80) rfl (teq hq).2) ?_
      show Run p e below _ (T16.setTop (mkF m 83 #[.val (.int p0), .val (.int p1), .val (.int p2), .val (.int p3), .val (.int p4), .val (.int p5), .val (.long ((((p0.toInt64) + (p1.toInt64)) + (p2.toInt64)) + (p3.toInt64))), .second, .val (.long t), .second, .val (.ref b14), .val (.int (if t < ((((p0.toInt64) + (p1.toInt64)) + (p2.toInt64)) + (p3.toInt64)) then 1 else 0))] []))
      refine go (fun _ => XS.iconst X16.here hx rfl (hb hby at_83)) ?_
      show Run p e below _ (T16.setTop (mkF m 84 #[.val (.int p0), .val (.int p1), .val (.int p2), .val (.int p3), .val (.int p4), .val (.int p5), .val (.long ((((p0.toInt64) + (p1.toInt64)) + (p2.toInt64)) + (p3.toInt64))), .second, .val (.long t), .second, .val (.ref b14), .val (.int (if t < ((((p0.toInt64) + (p1.toInt64)) + (p2.toInt64)) + (p3.toInt64)) then 1 else 0))] [(.int (1 : Int32))]))
      refine go (fun _ => XS.goto X16.here hx rfl (pc0 := 84) (pc' := 88) rfl (hb hby at_84) (by decide) (by decide)) ?_
      show Run p e below _ (T16.setTop (mkF m 88 #[.val (.int p0), .val (.int p1), .val (.int p2), .val (.int p3), .val (.int p4), .val (.int p5), .val (.long ((((p0.toInt64) + (p1.toInt64)) + (p2.toInt64)) + (p3.toInt64))), .second, .val (.long t), .second, .val (.ref b14), .val (.int (if t < ((((p0.toInt64) + (p1.toInt64)) + (p2.toInt64)) + (p3.toInt64)) then 1 else 0))] [(.int (1 : Int32))]))
      exact endN X16 hx hlk (t := .boolean) hret (by simp) (hb hby at_88) (⟨rfl, N16⟩) (by decide) (by decide)
    · skip
      refine go (fun _ => XS.ifYes X16.here hx rfl (pc0 := 72) (pc' := 79) rfl (hb hby at_72) rfl ((if0 _ _).trans (flt c17).2.2.2) (by decide) (by decide)) ?_
      show Run p e below _ (T16.setTop (mkF m 79 #[.val (.int p0), .val (.int p1), .val (.int p2), .val (.int p3), .val (.int p4), .val (.int p5), .val (.long ((((p0.toInt64) + (p1.toInt64)) + (p2.toInt64)) + (p3.toInt64))), .second, .val (.long t), .second, .val (.ref b14), .val (.int (if t < ((((p0.toInt64) + (p1.toInt64)) + (p2.toInt64)) + (p3.toInt64)) then 1 else 0))] [(.int (if t < ((((p0.toInt64) + (p1.toInt64)) + (p2.toInt64)) + (p3.toInt64)) then 1 else 0))]))
      refine go (fun _ => XS.iconst X16.here hx rfl (hb hby at_79)) ?_
      show Run p e below _ (T16.setTop (mkF m 80 #[.val (.int p0), .val (.int p1), .val (.int p2), .val (.int p3), .val (.int p4), .val (.int p5), .val (.long ((((p0.toInt64) + (p1.toInt64)) + (p2.toInt64)) + (p3.toInt64))), .second, .val (.long t), .second, .val (.ref b14), .val (.int (if t < ((((p0.toInt64) + (p1.toInt64)) + (p2.toInt64)) + (p3.toInt64)) then 1 else 0))] [(.int (0 : Int32)), (.int (if t < ((((p0.toInt64) + (p1.toInt64)) + (p2.toInt64)) + (p3.toInt64)) then 1 else 0))]))
      rw [lw_gt] at c17
      have hq : (if t < ((((p0.toInt64) + (p1.toInt64)) + (p2.toInt64)) + (p3.toInt64)) then 1 else 0) = (0 : Int32) := if_neg c17
      refine go (fun _ => XS.icmpNo X16.here hx rfl (hb hby at_80) rfl (teq hq).2) ?_
      show Run p e below _ (T16.setTop (mkF m 83 #[.val (.int p0), .val (.int p1), .val (.int p2), .val (.int p3), .val (.int p4), .val (.int p5), .val (.long ((((p0.toInt64) + (p1.toInt64)) + (p2.toInt64)) + (p3.toInt64))), .second, .val (.long t), .second, .val (.ref b14), .val (.int (if t < ((((p0.toInt64) + (p1.toInt64)) + (p2.toInt64)) + (p3.toInt64)) then 1 else 0))] []))
      refine go (fun _ => XS.iconst X16.here hx rfl (hb hby at_83)) ?_
      show Run p e below _ (T16.setTop (mkF m 84 #[.val (.int p0), .val (.int p1), .val (.int p2), .val (.int p3), .val (.int p4), .val (.int p5), .val (.long ((((p0.toInt64) + (p1.toInt64)) + (p2.toInt64)) + (p3.toInt64))), .second, .val (.long t), .second, .val (.ref b14), .val (.int (if t < ((((p0.toInt64) + (p1.toInt64)) + (p2.toInt64)) + (p3.toInt64)) then 1 else 0))] [(.int (1 : Int32))]))
      refine go (fun _ => XS.goto X16.here hx rfl (pc0 := 84) (pc' := 88) rfl (hb hby at_84) (by decide) (by decide)) ?_
      show Run p e below _ (T16.setTop (mkF m 88 #[.val (.int p0), .val (.int p1), .val (.int p2), .val (.int p3), .val (.int p4), .val (.int p5), .val (.long ((((p0.toInt64) + (p1.toInt64)) + (p2.toInt64)) + (p3.toInt64))), .second, .val (.long t), .second, .val (.ref b14), .val (.int (if t < ((((p0.toInt64) + (p1.toInt64)) + (p2.toInt64)) + (p3.toInt64)) then 1 else 0))] [(.int (1 : Int32))]))
      exact endN X16 hx hlk (t := .boolean) hret (by simp) (hb hby at_88) (⟨rfl, N16⟩) (by decide) (by decide)
  by_cases c18 : (p5 &&& (1 : Int32)) = 0
  · skip
    refine go (fun _ => XS.ifYes X0.here hx rfl (pc0 := 17) (pc' := 33) rfl (hb hby at_17) rfl ((if0 _ _).trans (teq c18).1) (by decide) (by decide)) ?_
    show Run p e below _ (T0.setTop (mkF m 33 #[.val (.int p0), .val (.int p1), .val (.int p2), .val (.int p3), .val (.int p4), .val (.int p5), .val (.long ((((p0.toInt64) + (p1.toInt64)) + (p2.toInt64)) + (p3.toInt64))), .second, .unset, .unset, .unset, .unset] []))
    refine go (fun _ => XS.iload X0.here hx rfl (hb hby at_33) rfl) ?_
    show Run p e below _ (T0.setTop (mkF m 35 #[.val (.int p0), .val (.int p1), .val (.int p2), .val (.int p3), .val (.int p4), .val (.int p5), .val (.long ((((p0.toInt64) + (p1.toInt64)) + (p2.toInt64)) + (p3.toInt64))), .second, .unset, .unset, .unset, .unset] [(.int p4)]))
    refine go (fun _ => XS.i2l X0.here hx rfl (hb hby at_35) rfl) ?_
    show Run p e below _ (T0.setTop (mkF m 36 #[.val (.int p0), .val (.int p1), .val (.int p2), .val (.int p3), .val (.int p4), .val (.int p5), .val (.long ((((p0.toInt64) + (p1.toInt64)) + (p2.toInt64)) + (p3.toInt64))), .second, .unset, .unset, .unset, .unset] [(.long (p4.toInt64))]))
    refine go (fun _ => XS.lstore X0.here hx rfl (hb hby at_36) rfl (l' := #[.val (.int p0), .val (.int p1), .val (.int p2), .val (.int p3), .val (.int p4), .val (.int p5), .val (.long ((((p0.toInt64) + (p1.toInt64)) + (p2.toInt64)) + (p3.toInt64))), .second, .val (.long (p4.toInt64)), .second, .unset, .unset]) rfl) ?_
    show Run p e below _ (T0.setTop (mkF m 38 #[.val (.int p0), .val (.int p1), .val (.int p2), .val (.int p3), .val (.int p4), .val (.int p5), .val (.long ((((p0.toInt64) + (p1.toInt64)) + (p2.toInt64)) + (p3.toInt64))), .second, .val (.long (p4.toInt64)), .second, .unset, .unset] []))
    exact J38 _ _ X0 e0 N0 (p4.toInt64)  (own_b1 _)
  · skip
    refine go (fun _ => XS.ifNo X0.here hx rfl (hb hby at_17) rfl ((if0 _ _).trans (feq c18).1)) ?_
    show Run p e below _ (T0.setTop (mkF m 20 #[.val (.int p0), .val (.int p1), .val (.int p2), .val (.int p3), .val (.int p4), .val (.int p5), .val (.long ((((p0.toInt64) + (p1.toInt64)) + (p2.toInt64)) + (p3.toInt64))), .second, .unset, .unset, .unset, .unset] []))
    refine go (fun _ => XS.lload X0.here hx rfl (hb hby at_20) rfl) ?_
    show Run p e below _ (T0.setTop (mkF m 22 #[.val (.int p0), .val (.int p1), .val (.int p2), .val (.int p3), .val (.int p4), .val (.int p5), .val (.long ((((p0.toInt64) + (p1.toInt64)) + (p2.toInt64)) + (p3.toInt64))), .second, .unset, .unset, .unset, .unset] [(.long ((((p0.toInt64) + (p1.toInt64)) + (p2.toInt64)) + (p3.toInt64)))]))
    refine go (fun _ => XS.iload X0.here hx rfl (hb hby at_22) rfl) ?_
    show Run p e below _ (T0.setTop (mkF m 24 #[.val (.int p0), .val (.int p1), .val (.int p2), .val (.int p3), .val (.int p4), .val (.int p5), .val (.long ((((p0.toInt64) + (p1.toInt64)) + (p2.toInt64)) + (p3.toInt64))), .second, .unset, .unset, .unset, .unset] [(.int p4), (.long ((((p0.toInt64) + (p1.toInt64)) + (p2.toInt64)) + (p3.toInt64)))]))
    refine go (fun _ => XS.iconst X0.here hx rfl (hb hby at_24)) ?_
    show Run p e below _ (T0.setTop (mkF m 25 #[.val (.int p0), .val (.int p1), .val (.int p2), .val (.int p3), .val (.int p4), .val (.int p5), .val (.long ((((p0.toInt64) + (p1.toInt64)) + (p2.toInt64)) + (p3.toInt64))), .second, .unset, .unset, .unset, .unset] [(.int (3 : Int32)), (.int p4), (.long ((((p0.toInt64) + (p1.toInt64)) + (p2.toInt64)) + (p3.toInt64)))]))
    refine go (fun _ => iremM X0 hx rfl (hb hby at_25) rfl (by decide)) ?_
    show Run p e below _ (T0.setTop (mkF m 26 #[.val (.int p0), .val (.int p1), .val (.int p2), .val (.int p3), .val (.int p4), .val (.int p5), .val (.long ((((p0.toInt64) + (p1.toInt64)) + (p2.toInt64)) + (p3.toInt64))), .second, .unset, .unset, .unset, .unset] [(.int (p4 % (3 : Int32))), (.long ((((p0.toInt64) + (p1.toInt64)) + (p2.toInt64)) + (p3.toInt64)))]))
    refine go (fun _ => XS.i2l X0.here hx rfl (hb hby at_26) rfl) ?_
    show Run p e below _ (T0.setTop (mkF m 27 #[.val (.int p0), .val (.int p1), .val (.int p2), .val (.int p3), .val (.int p4), .val (.int p5), .val (.long ((((p0.toInt64) + (p1.toInt64)) + (p2.toInt64)) + (p3.toInt64))), .second, .unset, .unset, .unset, .unset] [(.long ((p4 % (3 : Int32)).toInt64)), (.long ((((p0.toInt64) + (p1.toInt64)) + (p2.toInt64)) + (p3.toInt64)))]))
    refine go (fun _ => XS.ladd X0.here hx rfl (hb hby at_27) rfl) ?_
    show Run p e below _ (T0.setTop (mkF m 28 #[.val (.int p0), .val (.int p1), .val (.int p2), .val (.int p3), .val (.int p4), .val (.int p5), .val (.long ((((p0.toInt64) + (p1.toInt64)) + (p2.toInt64)) + (p3.toInt64))), .second, .unset, .unset, .unset, .unset] [(.long (((((p0.toInt64) + (p1.toInt64)) + (p2.toInt64)) + (p3.toInt64)) + ((p4 % (3 : Int32)).toInt64)))]))
    refine go (fun _ => XS.lstore X0.here hx rfl (hb hby at_28) rfl (l' := #[.val (.int p0), .val (.int p1), .val (.int p2), .val (.int p3), .val (.int p4), .val (.int p5), .val (.long ((((p0.toInt64) + (p1.toInt64)) + (p2.toInt64)) + (p3.toInt64))), .second, .val (.long (((((p0.toInt64) + (p1.toInt64)) + (p2.toInt64)) + (p3.toInt64)) + ((p4 % (3 : Int32)).toInt64))), .second, .unset, .unset]) rfl) ?_
    show Run p e below _ (T0.setTop (mkF m 30 #[.val (.int p0), .val (.int p1), .val (.int p2), .val (.int p3), .val (.int p4), .val (.int p5), .val (.long ((((p0.toInt64) + (p1.toInt64)) + (p2.toInt64)) + (p3.toInt64))), .second, .val (.long (((((p0.toInt64) + (p1.toInt64)) + (p2.toInt64)) + (p3.toInt64)) + ((p4 % (3 : Int32)).toInt64))), .second, .unset, .unset] []))
    refine go (fun _ => XS.goto X0.here hx rfl (pc0 := 30) (pc' := 38) rfl (hb hby at_30) (by decide) (by decide)) ?_
    show Run p e below _ (T0.setTop (mkF m 38 #[.val (.int p0), .val (.int p1), .val (.int p2), .val (.int p3), .val (.int p4), .val (.int p5), .val (.long ((((p0.toInt64) + (p1.toInt64)) + (p2.toInt64)) + (p3.toInt64))), .second, .val (.long (((((p0.toInt64) + (p1.toInt64)) + (p2.toInt64)) + (p3.toInt64)) + ((p4 % (3 : Int32)).toInt64))), .second, .unset, .unset] []))
    exact J38 _ _ X0 e0 N0 (((((p0.toInt64) + (p1.toInt64)) + (p2.toInt64)) + (p3.toInt64)) + ((p4 % (3 : Int32)).toInt64))  (own_b5 p0 p1 p2 p3 _)
set_option maxRecDepth 65536 in
set_option maxHeartbeats 40000000 in
theorem comes_1 {Post : Tables → Env → Array Value → State → Outcome → State → Prop} (hpost : ∀ tb e args s v u, (limb_1_1.after args s (.returned v) u = true ∧ limb_1_2.after args s (.returned v) u = true ∧ True) → FrameEnd s (.returned v) u (Jvm.fieldLocs frame_1_writes args s ++ Jvm.arrayLocs frame_1_arrays args s ++ Jvm.staticLocs frame_1_statics s) 16 128 → Post tb e args s (.returned v) u) :
    ArmFor flags0 classFile x code maxLocals ret World_1 tables_1 room_1 Calls_1 rest_1 Pre_1 Post := by
  intro l hfl _ _ p e ha hc hk s m args below hf hA hF happ hP
  obtain ⟨hcalls, hrest, hpre⟩ := hP
  obtain ⟨-, -, -, hnamed, -, -, -, hat⟩ := (Spec.applies_iff hf).mp happ
  obtain ⟨hg, hn⟩ := and_e (Cond.before_iff.mp (show (Jvm.Cond.and given_1 narrow_1).before args s = true from hpre))
  obtain ⟨h1, hg⟩ := and_e hg
  obtain ⟨g0, hg⟩ := and_e hg
  obtain ⟨g1, hg⟩ := and_e hg
  obtain ⟨g2, hg⟩ := and_e hg
  obtain ⟨g3, hg⟩ := and_e hg
  obtain ⟨g4, hg⟩ := and_e hg
  have g5 := hg
  obtain ⟨w0, w1, w2, w3, w4, w5, rfl⟩ : ∃ w0 w1 w2 w3 w4 w5 : Value, args = #[w0, w1, w2, w3, w4, w5] := by
    have hs : args.size = 6 := by simpa [Cond.value, given_1] using h1
    obtain ⟨L⟩ := args
    match L, hs with
    | [w0, w1, w2, w3, w4, w5], _ => exact ⟨w0, w1, w2, w3, w4, w5, rfl⟩
  have hw := fun d (hd : d ∈ tables_1) => atoms_spec (ws := Jvm.Cond.code x code maxLocals ret :: tables_1) hat d (List.mem_cons_of_mem _ hd)
  have hfit : Fit s := fun {y c} hc i hi => by
    obtain ⟨ha, rfl⟩ := Array.getElem?_eq_some_iff.mp hc
    have q := List.all_eq_true.mp ((Array.all_eq_true_iff_forall_mem.mp hF) _ (Array.getElem_mem ha)) i (List.mem_range.mpr hi)
    simpa [Array.getElem?_eq_getElem hi] using q
  obtain ⟨i0, ev0⟩ := is_v g0
  obtain rfl : w0 = (.int i0) := Option.some.inj ev0
  obtain ⟨i1, ev1⟩ := is_v g1
  obtain rfl : w1 = (.int i1) := Option.some.inj ev1
  obtain ⟨i2, ev2⟩ := is_v g2
  obtain rfl : w2 = (.int i2) := Option.some.inj ev2
  obtain ⟨i3, ev3⟩ := is_v g3
  obtain rfl : w3 = (.int i3) := Option.some.inj ev3
  obtain ⟨i4, ev4⟩ := is_v g4
  obtain rfl : w4 = (.int i4) := Option.some.inj ev4
  obtain ⟨i5, ev5⟩ := is_v g5
  obtain rfl : w5 = (.int i5) := Option.some.inj ev5
  obtain ⟨n, o, h1, h2, h3, _, L, rfl, ⟨rfl, N⟩, hq⟩ := rmlaw l s _ hw tables_1 i0 i1 i2 i3 i4 i5 s.heap s.heap.size (Old.start s) p e ha hc hk s m _ below hf ((Spec.applies_iff_loose hf).mp happ).1 ⟨rfl, State.Warmed39.refl s, rfl⟩ trivial
  refine ⟨n, _, h1, h2, h3, hpost _ _ _ _ _ _ ⟨Cond.after_iff.mpr rfl, Cond.after_iff.mpr (eq_i res_at (Term.int_eval (1)) rfl), trivial⟩ ⟨hq.1, hq.2.1, (hq.2.2.sift fun y hy => Or.inr (N y hy)).mono (by decide) (by decide)⟩⟩
theorem main_1_1 : Claimed_1_1 := comes_1 fun _ _ _ _ _ _ h hF => ⟨h.1, hF⟩
theorem main_1_2 : Claimed_1_2 := comes_1 fun _ _ _ _ _ _ h hF => ⟨h.2.1, hF⟩
end Jvm.Pilot.@@N@@
namespace Jvm.Pilot.@@N@@
open Jvm Jvm.ClassFile Sem Op Lib Jvm.Free Jvm.Stand Jvm.Pilot.@@N@@.Jvm.D
/-! MADE BY PROGRAM (witnessworld.py) out of the Statement's table words and the real class files: 10 classes; the members and pool entries that the words name. The judged class is class 1, her method 1. -/
namespace start1
open Jvm.ClassFile
def u (s : String) : CpInfo := .utf8 (stringToUtf16 s)
/-- a pool by its gaps: so many unusable entries, then the entry; so many at the end -/
def gap : Nat → List CpInfo → List CpInfo
  | 0, r => r
  | n + 1, r => .unusable :: gap n r
def poolList (es : List (Nat × CpInfo)) (last : Nat) : List CpInfo := es.foldr (fun e r => gap e.1 (e.2 :: r)) (gap last [])
def pool (es : List (Nat × CpInfo)) (last : Nat) : Array CpInfo := ⟨poolList es last⟩
def fileOf (pool : Array CpInfo) (this : Nat) (attrs : Array Attribute := #[]) (ms : Array MethodInfo := #[]) (fl : Nat := 33) (sup : Nat := 0) (ifs : Array Nat := #[]) (fds : Array FieldInfo := #[]) : ClassFile where
  minorVersion := 0
  majorVersion := 65
  constantPool := pool
  accessFlags := fl
  thisClass := this
  superClass := sup
  interfaces := ifs
  fields := fds
  methods := ms
  attributes := attrs
def plain (name : String) (sup : Option ClassId) : Class where
  name := name
  kind := .ordinary
  loader := none
  accessFlags := 33
  super := sup
  interfaces := #[]
  cf := none
  fields := #[]
  methods := #[]
  instanceTypes := #[]
  staticTypes := #[]
  resolved := #[]
  callSites := []
  init := .initialized
  statics := none
  mirror := none

def pool0 : Array CpInfo := pool [(5, u "<init>"), (0, u "()V"), (1, .class_ 10), (1, u "java/lang/Object")] 113

def k0c0 : Code := { maxStack := 0, maxLocals := 1, code := object_method_1_code, exceptionTable := #[], attributes := #[] }
def k0m0 : Method := { name := "<init>", desc := "()V", sig := { parameters := [], returnType := none }, accessFlags := 1, code := some k0c0 }
/-- java/lang/Object -/
def k0 : Class := { plain "java/lang/Object" none with
  accessFlags := 33
  interfaces := #[]
  cf := some (fileOf pool0 8 #[] #[{ accessFlags := 1, nameIndex := 5, descriptorIndex := 6, attributes := #[] }] 33 0 #[] #[])
  fields := #[]
  methods := #[k0m0]
  instanceTypes := #[]
  staticTypes := #[]
  resolved := Array.replicate 124 none
  statics := none }

def pool1 : Array CpInfo := pool [(2, .class_ 4), (1, u "java/lang/Object"), (0, u "<init>"), (0, u "()V"), (0, .class_ 8), (0, u "com/example/visit_by_value/visitbyvalue/core/PageWeight"), (0, .methodref 7 10), (0, .nameAndType 5 11), (0, u "(DDDD)V"), (0, .methodref 7 13), (0, .nameAndType 14 15), (0, u "exceeds"), (0, u "(D)Z"), (0, .class_ 17), (0, u "com/example/visit_by_value/visitbyvalue/core/PageWeightExceedsPinLaw"), (2, u "law"), (0, u "(IIIIII)Z")] 3

def k1m0 : Method := { name := "<init>", desc := "()V", sig := { parameters := [], returnType := none }, accessFlags := 1, code := none }
def k1c1 : Code := { maxStack := 10, maxLocals := 12, code := code, exceptionTable := #[], attributes := #[] }
def k1m1 : Method := { name := "law", desc := "(IIIIII)Z", sig := { parameters := [.int, .int, .int, .int, .int, .int], returnType := some .boolean }, accessFlags := 9, code := some k1c1 }
/-- com/example/visit_by_value/visitbyvalue/core/PageWeightExceedsPinLaw -/
def k1 : Class := { plain "com/example/visit_by_value/visitbyvalue/core/PageWeightExceedsPinLaw" (some 0) with
  accessFlags := 49
  interfaces := #[]
  cf := some (fileOf pool1 16 #[] #[{ accessFlags := 1, nameIndex := 5, descriptorIndex := 6, attributes := #[] }, { accessFlags := 9, nameIndex := 20, descriptorIndex := 21, attributes := #[] }] 49 2 #[] #[])
  fields := #[]
  methods := #[k1m0, k1m1]
  instanceTypes := #[]
  staticTypes := #[]
  resolved := Array.replicate 25 none
  statics := none }

def pool2 : Array CpInfo := pool [(1, .methodref 2 3), (0, .class_ 4), (0, .nameAndType 5 6), (0, u "java/lang/Object"), (0, u "<init>"), (0, u "()V"), (0, .class_ 8), (0, u "java/lang/Record")] 13

def k2c0 : Code := { maxStack := 1, maxLocals := 1, code := jdk_30_method_1_code, exceptionTable := #[], attributes := #[] }
def k2m0 : Method := { name := "<init>", desc := "()V", sig := { parameters := [], returnType := none }, accessFlags := 4, code := some k2c0 }
/-- java/lang/Record -/
def k2 : Class := { plain "java/lang/Record" (some 0) with
  accessFlags := 1057
  interfaces := #[]
  cf := some (fileOf pool2 7 #[] #[{ accessFlags := 4, nameIndex := 5, descriptorIndex := 6, attributes := #[] }] 1057 2 #[] #[])
  fields := #[]
  methods := #[k2m0]
  instanceTypes := #[]
  staticTypes := #[]
  resolved := Array.replicate 22 none
  statics := none }

def pool3 : Array CpInfo := pool [(1, .methodref 2 3), (0, .class_ 4), (0, .nameAndType 5 6), (0, u "java/lang/Record"), (0, u "<init>"), (0, u "()V"), (0, .fieldref 8 9), (0, .class_ 10), (0, .nameAndType 11 12), (0, u "com/example/visit_by_value/visitbyvalue/core/PageWeight"), (0, u "url"), (0, u "D"), (0, .fieldref 8 14), (0, .nameAndType 15 12), (0, u "title"), (0, .fieldref 8 17), (0, .nameAndType 18 12), (0, u "body"), (0, .fieldref 8 20), (0, .nameAndType 21 12), (0, u "links"), (0, .methodref 8 23), (0, .nameAndType 24 25), (0, u "total"), (0, u "()D"), (12, u "(DDDD)V"), (3, u "exceeds"), (0, u "(D)Z")] 27

def k3c0 : Code := { maxStack := 3, maxLocals := 9, code := prog_15_method_1_code, exceptionTable := #[], attributes := #[] }
def k3m0 : Method := { name := "<init>", desc := "(DDDD)V", sig := { parameters := [.double, .double, .double, .double], returnType := none }, accessFlags := 1, code := some k3c0 }
def k3c1 : Code := { maxStack := 4, maxLocals := 1, code := prog_15_method_2_code, exceptionTable := #[], attributes := #[] }
def k3m1 : Method := { name := "total", desc := "()D", sig := { parameters := [], returnType := some .double }, accessFlags := 1, code := some k3c1 }
def k3c2 : Code := { maxStack := 4, maxLocals := 3, code := prog_15_method_3_code, exceptionTable := #[], attributes := #[] }
def k3m2 : Method := { name := "exceeds", desc := "(D)Z", sig := { parameters := [.double], returnType := some .boolean }, accessFlags := 1, code := some k3c2 }
/-- com/example/visit_by_value/visitbyvalue/core/PageWeight -/
def k3 : Class := { plain "com/example/visit_by_value/visitbyvalue/core/PageWeight" (some 2) with
  accessFlags := 49
  interfaces := #[]
  cf := some (fileOf pool3 8 #[] #[{ accessFlags := 1, nameIndex := 5, descriptorIndex := 38, attributes := #[] }, { accessFlags := 1, nameIndex := 24, descriptorIndex := 25, attributes := #[] }, { accessFlags := 1, nameIndex := 42, descriptorIndex := 43, attributes := #[] }] 49 2 #[] #[{ accessFlags := 18, nameIndex := 11, descriptorIndex := 12, attributes := #[] }, { accessFlags := 18, nameIndex := 15, descriptorIndex := 12, attributes := #[] }, { accessFlags := 18, nameIndex := 18, descriptorIndex := 12, attributes := #[] }, { accessFlags := 18, nameIndex := 21, descriptorIndex := 12, attributes := #[] }])
  fields := #[{ name := "url", type := .double, accessFlags := 18, slot := 0, constantValue := 0 }, { name := "title", type := .double, accessFlags := 18, slot := 1, constantValue := 0 }, { name := "body", type := .double, accessFlags := 18, slot := 2, constantValue := 0 }, { name := "links", type := .double, accessFlags := 18, slot := 3, constantValue := 0 }]
  methods := #[k3m0, k3m1, k3m2]
  instanceTypes := #[.double, .double, .double, .double]
  staticTypes := #[]
  resolved := Array.replicate 71 none
  statics := none }

def pool4 : Array CpInfo := pool [(1, u "java/lang/Cloneable"), (0, .class_ 1), (0, u "java/lang/Object"), (0, .class_ 3)] 3

/-- java/lang/Cloneable -/
def k4 : Class := { plain "java/lang/Cloneable" (some 0) with
  accessFlags := 1537
  interfaces := #[]
  cf := some (fileOf pool4 2 #[] #[] 1537 4 #[] #[])
  fields := #[]
  methods := #[]
  instanceTypes := #[]
  staticTypes := #[]
  resolved := Array.replicate 8 none
  statics := none }

def pool5 : Array CpInfo := pool [(1, u "java/io/Serializable"), (0, .class_ 1), (0, u "java/lang/Object"), (0, .class_ 3)] 3

/-- java/io/Serializable -/
def k5 : Class := { plain "java/io/Serializable" (some 0) with
  accessFlags := 1537
  interfaces := #[]
  cf := some (fileOf pool5 2 #[] #[] 1537 4 #[] #[])
  fields := #[]
  methods := #[]
  instanceTypes := #[]
  staticTypes := #[]
  resolved := Array.replicate 8 none
  statics := none }

/-- the primitive byte -/
def k6 : Class := { plain "byte" none with kind := .primitive 'B', accessFlags := 0x411 }
/-- [B -/
def k7 : Class := { plain "[B" (some 0) with kind := .array 6 .byte, interfaces := #[4, 5], accessFlags := 1041 }

/-- the primitive int -/
def k8 : Class := { plain "int" none with kind := .primitive 'I', accessFlags := 0x411 }
/-- [I -/
def k9 : Class := { plain "[I" (some 0) with kind := .array 8 .int, interfaces := #[4, 5], accessFlags := 1041 }

def heap : Heap := #[]
def classes : Array Class := #[k0, k1, k2, k3, k4, k5, k6, k7, k8, k9]
def interned : List (Array UInt16 × Addr) := []
def slotsUsed : Nat := 0
def theMethod : MethodId := ⟨1, 1⟩
def args0 : Array Value := #[.int 1, .int 2, .int 1, .int 2, .int 0, .int 0]
def aboutOver (below : List Frame) : State where
  vm := { classes := classes, interned := interned.toArray }
  heap := heap
  slotsUsed := slotsUsed
  threads := #[{ frames := .invoking theMethod args0 :: below }]
def below0 : List Frame := [.native { method := ⟨0, 0⟩, args := #[] }]
def about1 : State := aboutOver below0
def p0 : Program := .bare "" "" ""
def e0 : Env := launch0.env 0 0 0
theorem w_frames : about1.frames = Frame.invoking theMethod args0 :: below0 := rfl
set_option maxRecDepth 65536 in
theorem w_args : argsFit about1.vm theMethod args0 = true := by decide +kernel
set_option maxRecDepth 65536 in
theorem w_heap : heapFits about1 = true := by decide +kernel
set_option maxRecDepth 65536 in
theorem w_runnable : about1.curStatus? = some .runnable := by decide +kernel
set_option maxRecDepth 65536 in
theorem w_alone : about1.alone = true := by decide +kernel
set_option maxRecDepth 65536 in
theorem w_named : about1.methodNamed? x = some theMethod := by decide +kernel
set_option maxRecDepth 65536 in
theorem w_hears : about1.hears theMethod below0 = true := by decide +kernel
set_option maxRecDepth 65536 in
theorem w_ripe : about1.ripe theMethod args0 below0 = true := by decide +kernel
theorem w_running : about1.status = .running := rfl
set_option maxRecDepth 65536 in
theorem w_room : about1.hasRoom e0.platform room_1 = true :=
  launch0.hasRoom_least _ room_1 (by decide +kernel) (by decide +kernel) (by decide +kernel) (by decide +kernel) (by decide +kernel) (by decide +kernel)
theorem allAtoms_all (ts : List Jvm.Cond) (a : Array Jvm.Value) (st : Jvm.State) : (allAtoms ts).before a st = ts.all (fun c => c.before a st) := by
  induction ts with
  | nil => rfl
  | cons c t ih =>
    show (Jvm.Cond.and c (allAtoms t)).before a st = _
    rw [Jvm.Cond.before_and, ih, List.all_cons]
def words1 : List Jvm.Cond := Jvm.Cond.code x code maxLocals ret :: tables_1
/-- a 'code' word, met by the world's own term for the bytes: nothing is compared byte by byte -/
theorem code_word {y : MethodName} {bytes : ByteArray} {mx : Nat} {rt : Option FieldType} {a : Array Value} {s : State} {m : MethodId} {meth : Method} {c : Code} (h1 : s.methodNamed? y = some m) (h2 : s.vm.method? m = some meth) (h3 : meth.code = some c) (h4 : c.code = bytes)
    (h5 : (c.maxLocals == mx && c.exceptionTable.isEmpty && decide (c.maxStack ≤ mostOperands) && decide (meth.sig.returnType = rt) && !meth.locks && decide (parseMethodDescriptor y.desc = some meth.sig)) = true) : (Jvm.Cond.code y bytes mx rt).before a s = true := by
  simp only [Bool.and_eq_true, beq_iff_eq, Bool.not_eq_true', decide_eq_true_eq] at h5
  obtain ⟨⟨⟨⟨⟨g1, g2⟩, g3⟩, g4⟩, g5⟩, g6⟩ := h5
  simp [Cond.before, Cond.holds, Cond.value, h1, h2, h3, h4, g1, g2, g3, g4, g5, g6]
def isCode : Jvm.Cond → Bool
  | .code _ _ _ _ => true
  | _ => false
theorem all_split {L : List Jvm.Cond} {P : Jvm.Cond → Bool} (h1 : L.all (fun c => isCode c || P c) = true) (h2 : ∀ c ∈ L.filter isCode, P c = true) : L.all P = true := by
  refine List.all_eq_true.mpr fun c hc => ?_
  have h := List.all_eq_true.mp h1 c hc
  rcases Bool.eq_false_or_eq_true (isCode c) with hi | hi
  · exact h2 c (List.mem_filter.mpr ⟨hc, hi⟩)
  · simpa [hi] using h
set_option maxRecDepth 65536 in
theorem w_c0 : (Jvm.Cond.code x code maxLocals ret).before args0 about1 = true := code_word (m := ⟨1, 1⟩) (meth := k1m1) (c := k1c1) (by decide +kernel) rfl rfl rfl (by decide +kernel)
set_option maxRecDepth 65536 in
theorem w_c1 : (Jvm.Cond.code ({ cls := "com/example/visit_by_value/visitbyvalue/core/PageWeight", name := "<init>", desc := "(DDDD)V" } : Jvm.MethodName) prog_15_method_1_code (9 : Nat) (Option.none : Option Jvm.ClassFile.FieldType)).before args0 about1 = true := code_word (m := ⟨3, 0⟩) (meth := k3m0) (c := k3c0) (by decide +kernel) rfl rfl rfl (by decide +kernel)
set_option maxRecDepth 65536 in
theorem w_c2 : (Jvm.Cond.code ({ cls := "java/lang/Record", name := "<init>", desc := "()V" } : Jvm.MethodName) jdk_30_method_1_code (1 : Nat) (Option.none : Option Jvm.ClassFile.FieldType)).before args0 about1 = true := code_word (m := ⟨2, 0⟩) (meth := k2m0) (c := k2c0) (by decide +kernel) rfl rfl rfl (by decide +kernel)
set_option maxRecDepth 65536 in
theorem w_c3 : (Jvm.Cond.code ({ cls := "java/lang/Object", name := "<init>", desc := "()V" } : Jvm.MethodName) object_method_1_code (1 : Nat) (Option.none : Option Jvm.ClassFile.FieldType)).before args0 about1 = true := code_word (m := ⟨0, 0⟩) (meth := k0m0) (c := k0c0) (by decide +kernel) rfl rfl rfl (by decide +kernel)
set_option maxRecDepth 65536 in
theorem w_c4 : (Jvm.Cond.code ({ cls := "com/example/visit_by_value/visitbyvalue/core/PageWeight", name := "exceeds", desc := "(D)Z" } : Jvm.MethodName) prog_15_method_3_code (3 : Nat) (Option.some Jvm.ClassFile.FieldType.boolean)).before args0 about1 = true := code_word (m := ⟨3, 2⟩) (meth := k3m2) (c := k3c2) (by decide +kernel) rfl rfl rfl (by decide +kernel)
set_option maxRecDepth 65536 in
theorem w_c5 : (Jvm.Cond.code ({ cls := "com/example/visit_by_value/visitbyvalue/core/PageWeight", name := "total", desc := "()D" } : Jvm.MethodName) prog_15_method_2_code (1 : Nat) (Option.some Jvm.ClassFile.FieldType.double)).before args0 about1 = true := code_word (m := ⟨3, 1⟩) (meth := k3m1) (c := k3c1) (by decide +kernel) rfl rfl rfl (by decide +kernel)
def codes1 : List Jvm.Cond := [Jvm.Cond.code x code maxLocals ret, Jvm.Cond.code ({ cls := "com/example/visit_by_value/visitbyvalue/core/PageWeight", name := "<init>", desc := "(DDDD)V" } : Jvm.MethodName) prog_15_method_1_code (9 : Nat) (Option.none : Option Jvm.ClassFile.FieldType), Jvm.Cond.code ({ cls := "java/lang/Record", name := "<init>", desc := "()V" } : Jvm.MethodName) jdk_30_method_1_code (1 : Nat) (Option.none : Option Jvm.ClassFile.FieldType), Jvm.Cond.code ({ cls := "java/lang/Object", name := "<init>", desc := "()V" } : Jvm.MethodName) object_method_1_code (1 : Nat) (Option.none : Option Jvm.ClassFile.FieldType), Jvm.Cond.code ({ cls := "com/example/visit_by_value/visitbyvalue/core/PageWeight", name := "exceeds", desc := "(D)Z" } : Jvm.MethodName) prog_15_method_3_code (3 : Nat) (Option.some Jvm.ClassFile.FieldType.boolean), Jvm.Cond.code ({ cls := "com/example/visit_by_value/visitbyvalue/core/PageWeight", name := "total", desc := "()D" } : Jvm.MethodName) prog_15_method_2_code (1 : Nat) (Option.some Jvm.ClassFile.FieldType.double)]
set_option maxRecDepth 65536 in
theorem codes_eq : words1.filter isCode = codes1 := rfl
theorem w_codes : ∀ c ∈ words1.filter isCode, c.before args0 about1 = true := by
  rw [codes_eq]
  intro c hc
  simp only [codes1, List.mem_cons, List.not_mem_nil, or_false] at hc
  rcases hc with rfl | rfl | rfl | rfl | rfl | rfl
  · exact w_c0
  · exact w_c1
  · exact w_c2
  · exact w_c3
  · exact w_c4
  · exact w_c5
set_option maxRecDepth 65536 in
theorem w_t1 : (words1.take 24).all (fun c => isCode c || c.before args0 about1) = true := by decide +kernel
set_option maxRecDepth 65536 in
theorem w_t2 : (words1.drop 24).all (fun c => isCode c || c.before args0 about1) = true := by decide +kernel
theorem w_tables : (allAtoms (Jvm.Cond.code x code maxLocals ret :: tables_1)).before args0 about1 = true := by
  rw [allAtoms_all]
  show words1.all (fun c => c.before args0 about1) = true
  refine all_split ?_ w_codes
  rw [← List.take_append_drop 24 words1, List.all_append, w_t1, w_t2]
  rfl
set_option maxRecDepth 65536 in
theorem w_case : (Jvm.Cond.and given_1 narrow_1).before args0 about1 = true := by decide +kernel
theorem w_applies : (headSpec (Jvm.Cond.code x code maxLocals ret :: tables_1) room_1).applies x e0.platform about1 = true :=
  (Spec.applies_iff w_frames).mpr ⟨w_running, w_runnable, w_alone, w_named, w_hears, w_ripe, w_room, w_tables⟩
theorem atStart : AtStart classFile x code maxLocals ret World_1 tables_1 room_1 Calls_1 rest_1 Pre_1 launch0 p0 e0 about1 theMethod args0 below0 :=
  ⟨lists_1, trivial, launch0.admits_env _ _ _, launch0.least_env, fairChoices_fair.cas, fairChoices_fair.clock, w_frames, w_args, w_heap, w_applies, trivial, trivial, w_case⟩
end start1
theorem witness_1 : WitnessClaimed_1 := ⟨start1.p0, start1.e0, start1.about1, start1.theMethod, start1.args0, start1.below0, start1.atStart⟩
end Jvm.Pilot.@@N@@
