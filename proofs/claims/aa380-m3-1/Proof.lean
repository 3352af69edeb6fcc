import JvmDerived
import JvmDerived.Pilot.@@N@@Statement
import JvmDerived.Pilot.@@N@@Code
set_option linter.unusedVariables false
set_option linter.unusedSimpArgs false
namespace Jvm.Pilot.@@N@@
open Jvm Jvm.ClassFile Sem Op Lib Jvm.Free Jvm.Stand Jvm.LawKit Jvm.RoadKit Bundle Jvm.Pilot.@@N@@.Jvm.D
section Own
variable {p : Program} {l : Launch} {e : Env} {R : Room} {s : State} {m : MethodId} {args : Array Value} {below : List Frame} {meth : Method} {c : Code} {T : State} {locs : List Loc} {cells slots : Nat} {Z : State} {a0 : Array Value} {h : Heap}
theorem wd (hw : ∀ d ∈ tables_1, d.before a0 Z = true) (k : Nat) {d : Jvm.Cond} (q : tables_1[k]? = some d) : d.before a0 Z = true := hw d (List.mem_of_getElem? q)
theorem old_sz {n0 : Nat} (O : Old Z n0 h) : n0 ≤ h.size := O.1 ▸ O.2.1
/-- what is left to show from the state t on -/
def Run (p : Program) (e : Env) (below : List Frame) (A : Outcome → State → Prop) (t : State) : Prop := ∃ u o, Steps p.tables e below t u ∧ u.status = .running ∧ Ended u below o ∧ A o u
theorem go {A : Outcome → State → Prop} {t t' : State} (st : ∀ u, Steps p.tables e below t' u → Steps p.tables e below t u) (k : Run p e below A t') : Run p e below A t := by
  obtain ⟨u, o, k1, k2⟩ := k
  exact ⟨u, o, st u k1, k2⟩
theorem goT {A : Outcome → State → Prop} {t t' : State} (st : Steps p.tables e below t t') (k : Run p e below A t') : Run p e below A t := by
  obtain ⟨u, o, k1, k2⟩ := k
  exact ⟨u, o, st.trans k1, k2⟩
def Ends (s : State) (Q : Option Value → Heap → List Loc → Prop) (k n : Nat) (o : Outcome) (U : State) : Prop := ∃ v L, o = .returned v ∧ Q v U.heap L ∧ FrameEnd s o U L k n
def Meets (l : Launch) (y : MethodName) (bytes : ByteArray) (maxL : Nat) (ret : Option FieldType) (ws : List Jvm.Cond) (rm : Room) (Z : State) (as' : Array Value) (h0 : Heap) (Q : Option Value → Heap → List Loc → Prop) (k n : Nat) : Prop :=
  MetFree l y (head1 (Jvm.Cond.code y bytes maxL ret :: ws) rm) (fun a U => a = as' ∧ Z.Warmed39 U.vm ∧ U.heap = h0) (fun _ _ _ _ _ => True) (fun _ U o U' => ∃ v L, o = .returned v ∧ Q v U'.heap L ∧ FrameEnd U o U' L k n)
theorem enter {y : MethodName} {bytes : ByteArray} {maxL : Nat} {ret : Option FieldType} {ws : List Jvm.Cond} {rm : Room} {as' : Array Value} {h0 : Heap} {Q : Option Value → Heap → List Loc → Prop} {k n : Nat} {Ls : Array Slot} (pf : plainFor y = true) (ef : ∀ m, entryFrame m as' maxL = mkF m 0 Ls [])
    (body : ∀ (p : Program) (e : Env) (s : State) (m : MethodId) (below : List Frame) (meth : Method) (c : Code) (T : State), p.tables.exec = Jvm.exec → c.code = bytes → c.maxLocals = maxL → s.vm.findClass y.cls = some m.cls → meth.name = y.name → meth.sig.returnType = ret → meth.locks = false → Z.Warmed39 s.vm → Stand p l e rm s m as' below meth c T [] 0 0 → T.heap = h0 → Run p e below (Ends s Q k n) (T.setTop (mkF m 0 Ls []))) :
    Meets l y bytes maxL ret ws rm Z as' h0 Q k n := by
  refine MetFree.of_bodySF pf hisR ?_
  intro p e s m args below meth c s₁ Bd hml0 hP hK
  obtain ⟨rfl, hZ, hh⟩ := hP
  obtain ⟨u, o, k1, k2, k3, k4⟩ := body p e s m below meth c s₁ Bd.exec Bd.bytes hml0 (findClass_of_methodNamed Bd.named) (name_of_methodNamed Bd.named Bd.method).1 Bd.returns (BodyLoose.notSynchronized Bd) hZ (Stand.of_body Bd) (by rw [← hh, Bd.state]; rfl)
  exact ⟨u, o, castTop (ef m) k1, k2, k3, k4⟩
theorem smono (X : Stand p l e R s m args below meth c T locs cells slots) {k n : Nat} (hk : cells ≤ k) (hn : slots ≤ n) : Stand p l e R s m args below meth c T locs k n :=
  ⟨X.admits, X.cas, X.clock, X.frames, X.room, X.hears, X.method, X.code, X.here, X.tail, X.warmed, X.limits, X.bytes, X.same.mono hk hn⟩
theorem retI (X : Stand p l e R s m args below meth c T locs cells slots) (hx : p.tables.exec = Jvm.exec) {pc : Nat} {Ls : Array Slot} {z : Int32} {rest : List Value} (hret : meth.sig.returnType = some .int) (hd : decode c.code pc = .ok (.ireturn, 1)) {fs : List Frame}
    (hl : ∀ (f : JFrame) (acts : List Action), f.method = m → f.locked = none → f.entered = [] → (doReturn e (T.setTop f) acts (some (.int z))).1 = T.setFrames fs) : Steps p.tables e below (T.setTop (mkF m pc Ls (.int z :: rest))) (T.setFrames fs) :=
  retOut X hx hret rfl (Or.inl ⟨rfl, Or.inl rfl, _, rfl⟩) hd hl
theorem endI (X : Stand p l e R s m args below meth c T locs cells slots) (hx : p.tables.exec = Jvm.exec) (hlk : meth.locks = false) {Q : Option Value → Heap → List Loc → Prop} {k n pc : Nat} {Ls : Array Slot} {z : Int32} {rest : List Value} (hret : meth.sig.returnType = some .int) (hd : decode c.code pc = .ok (.ireturn, 1)) (hq : Q (some (.int z)) T.heap locs) (hk : cells ≤ k) (hn : slots ≤ n) :
    Run p e below (Ends s Q k n) (T.setTop (mkF m pc Ls (.int z :: rest))) := by
  obtain ⟨fs, hr, hrun, hended, hW, hsame⟩ := X.leave (v := some (.int z)) (fun h => by rw [hret] at h; cases h) hlk
  exact ⟨_, _, retI X hx hret hd hr, hrun, hended, _, _, rfl, hq, ⟨_, rfl⟩, hW, hsame.mono hk hn⟩
theorem endN (X : Stand p l e R s m args below meth c T locs cells slots) (hx : p.tables.exec = Jvm.exec) (hlk : meth.locks = false) {Q : Option Value → Heap → List Loc → Prop} {k n pc : Nat} {Ls : Array Slot} {z : Int32} {rest : List Value} {t : FieldType} (hret : meth.sig.returnType = some t) (ht : t = .boolean ∨ t = .byte ∨ t = .char ∨ t = .short) (hd : decode c.code pc = .ok (.ireturn, 1)) (hq : Q (some (.int (nar t z))) T.heap locs) (hk : cells ≤ k) (hn : slots ≤ n) :
    Run p e below (Ends s Q k n) (T.setTop (mkF m pc Ls (.int z :: rest))) := by
  obtain ⟨fs, hr, hrun, hended, hW, hsame⟩ := X.leave (v := some (.int (nar t z))) (fun h => by rw [hret] at h; cases h) hlk
  exact ⟨_, _, retN X hx hret ht hd hr, hrun, hended, _, _, rfl, hq, ⟨_, rfl⟩, hW, hsame.mono hk hn⟩
theorem endA (X : Stand p l e R s m args below meth c T locs cells slots) (hx : p.tables.exec = Jvm.exec) (hlk : meth.locks = false) {Q : Option Value → Heap → List Loc → Prop} {k n pc : Nat} {Ls : Array Slot} {w : Value} {rest : List Value} {t : FieldType} (hret : meth.sig.returnType = some t) (ht : t.isReference = true) (hv : w.isRef = true) (hd : decode c.code pc = .ok (.areturn, 1)) (hq : Q (some w) T.heap locs) (hk : cells ≤ k) (hn : slots ≤ n) :
    Run p e below (Ends s Q k n) (T.setTop (mkF m pc Ls (w :: rest))) := by
  obtain ⟨fs, hr, hrun, hended, hW, hsame⟩ := X.leave (v := some w) (fun h => by rw [hret] at h; cases h) hlk
  have hn' : narrow t w = w := by cases w <;> first | (cases hv; done) | (cases t <;> first | rfl | (cases ht; done))
  exact ⟨_, _, retOut X hx hret hn' (Or.inr (Or.inr (Or.inr (Or.inr ⟨rfl, ht, hv⟩)))) hd hr, hrun, hended, _, _, rfl, hq, ⟨_, rfl⟩, hW, hsame.mono hk hn⟩
theorem endJ (X : Stand p l e R s m args below meth c T locs cells slots) (hx : p.tables.exec = Jvm.exec) (hlk : meth.locks = false) {Q : Option Value → Heap → List Loc → Prop} {k n pc : Nat} {Ls : Array Slot} {z : Int64} {rest : List Value} (hret : meth.sig.returnType = some .long) (hd : decode c.code pc = .ok (.lreturn, 1)) (hq : Q (some (.long z)) T.heap locs) (hk : cells ≤ k) (hn : slots ≤ n) :
    Run p e below (Ends s Q k n) (T.setTop (mkF m pc Ls (.long z :: rest))) := by
  obtain ⟨fs, hr, hrun, hended, hW, hsame⟩ := X.leave (v := some (.long z)) (fun h => by rw [hret] at h; cases h) hlk
  exact ⟨_, _, retOut X hx hret rfl (Or.inr (Or.inl ⟨rfl, rfl, _, rfl⟩)) hd hr, hrun, hended, _, _, rfl, hq, ⟨_, rfl⟩, hW, hsame.mono hk hn⟩
theorem endD (X : Stand p l e R s m args below meth c T locs cells slots) (hx : p.tables.exec = Jvm.exec) (hlk : meth.locks = false) {Q : Option Value → Heap → List Loc → Prop} {k n pc : Nat} {Ls : Array Slot} {z : UInt64} {rest : List Value} (hret : meth.sig.returnType = some .double) (hd : decode c.code pc = .ok (.dreturn, 1)) (hq : Q (some (.double z)) T.heap locs) (hk : cells ≤ k) (hn : slots ≤ n) :
    Run p e below (Ends s Q k n) (T.setTop (mkF m pc Ls (.double z :: rest))) := by
  obtain ⟨fs, hr, hrun, hended, hW, hsame⟩ := X.leave (v := some (.double z)) (fun h => by rw [hret] at h; cases h) hlk
  exact ⟨_, _, retOut X hx hret rfl (Or.inr (Or.inr (Or.inl ⟨rfl, rfl, _, rfl⟩))) hd hr, hrun, hended, _, _, rfl, hq, ⟨_, rfl⟩, hW, hsame.mono hk hn⟩
theorem endV (X : Stand p l e R s m args below meth c T locs cells slots) (hx : p.tables.exec = Jvm.exec) (hlk : meth.locks = false) {Q : Option Value → Heap → List Loc → Prop} {k n pc : Nat} {Ls : Array Slot} (hret : meth.sig.returnType = none) (hd : decode c.code pc = .ok (.return_, 1)) (hq : Q none T.heap locs) (hk : cells ≤ k) (hn : slots ≤ n) :
    Run p e below (Ends s Q k n) (T.setTop (mkF m pc Ls [])) := by
  obtain ⟨fs, hr, hrun, hended, hW, hsame⟩ := X.leave (v := none) (fun _ => rfl) hlk
  exact ⟨_, _, X.returnOut hx hret hd hr, hrun, hended, _, _, rfl, hq, ⟨_, rfl⟩, hW, hsame.mono hk hn⟩
abbrev Pay (l : Launch) (R : Room) (p : Program) (e : Env) (below : List Frame) (s : State) (args : Array Value) (y : MethodName) (len W : Nat) (as' : Array Value) (h : Heap) (Q : Option Value → Heap → List Loc → Prop) (rc rs : Nat) : Prop :=
  Back l R p e below s args y len W (fun A a => a = as' ∧ A.U.heap = h ∧ A.cells + rc ≤ R.cells ∧ A.slots + rs ≤ R.slots) (fun A _ v B => ∃ L, Q v B.U.heap L ∧ B.locs = A.locs ++ L ∧ B.cells = A.cells + rc ∧ B.slots = A.slots + rs)
theorem Pay.more {y : MethodName} {len W rc rs rs' : Nat} {as' : Array Value} {Q : Option Value → Heap → List Loc → Prop} (hK : Pay l R p e below s args y len W as' h Q rc rs) (q : rs ≤ rs') : Pay l R p e below s args y len W as' h Q rc rs' := fun m meth c A g ig mk a X hg hsz hd hW hn hp => by
  obtain ⟨v, B, X', ⟨L, q1, q2, q3, q4⟩, st⟩ := hK m meth c A g ig mk a X hg hsz hd hW hn ⟨hp.1, hp.2.1, hp.2.2.1, Nat.le_trans (Nat.add_le_add_left q _) hp.2.2.2⟩
  exact ⟨v, (B.U, B.locs, B.cells, A.slots + rs'), smono X' (Nat.le_refl _) (by rw [q4]; exact Nat.add_le_add_left q _), ⟨L, q1, q2, q3, rfl⟩, st⟩
theorem narR {v : Value} {C : String} (h : v.isRef = true) : narrow (.object C) v = v := by cases v <;> first | rfl | (cases h; done)
theorem fitR {v : Value} {C : String} (h : v.isRef = true) : fits (.object C) v = true := by cases v <;> first | rfl | (cases h; done)
theorem callSt (X : Stand p l e R s m args below meth c T locs cells slots) (hx : p.tables.exec = Jvm.exec) (hZ : Z.Warmed39 s.vm) {own : String} {index : Nat} {y : MethodName} {bytes : ByteArray} {maxL : Nat} {ret : Option FieldType} {rm : Room} {Q : Option Value → Heap → List Loc → Prop} (hown : s.vm.findClass own = some m.cls)
    (w1 : (Jvm.Cond.methodLink own index y).before a0 Z = true) (w2 : (Jvm.Cond.static y).before a0 Z = true) (w3 : (Jvm.Cond.initialized y.cls).before a0 Z = true) (w4 : (Jvm.Cond.code y bytes maxL ret).before a0 Z = true) (hy : y.cls ≠ "java/lang/invoke/MethodHandle" ∧ y.cls ≠ "java/lang/invoke/VarHandle") (eT : T.heap = h) {argsL rest : List Value}
    (hM : Meets l y bytes maxL ret [] rm Z argsL.toArray h Q rm.cells rm.slots) {W : Nat} (hf : rm.frames + 1 ≤ R.frames) (hl : W + (maxL + 11) + rm.locals ≤ R.locals) (hc : cells + rm.cells ≤ R.cells) (hn : slots + rm.slots ≤ R.slots)
    {pc : Nat} {Ls : Array Slot} {st : List Value} (hsize : Ls.size = c.maxLocals) (hlen : ∀ sig, parseMethodDescriptor y.desc = some sig → argsL.length = sig.parameters.length) (hst : st = argsL.reverse ++ rest) (hW : (rest.map fun v => v.category).sum ≤ W) (hd : decode c.code pc = .ok (.invokestatic index, 3)) {A : Outcome → State → Prop}
    (kk : ∀ (v : Option Value) (T' : State) (L : List Loc) (h' : Heap), Stand p l e R s m args below meth c T' (locs ++ L) (cells + rm.cells) (slots + rm.slots) → T'.heap = h' → Q v h' L → Run p e below A (T'.setTop (mkF m (pc + 3) Ls (v.toList ++ rest)))) : Run p e below A (T.setTop (mkF m pc Ls st)) := by
  obtain ⟨v, _, ⟨T18, L18, k18, n18⟩, -, X18, ⟨Lc18, hQ18, l18, y18, z18⟩, st18⟩ := Jvm.LawKit.callS X hx hown (mvT hZ w1) (mvT hZ w2) (mvT hZ w3) (mvT hZ w4) hy (backOf (W := W) hM hZ w4 w3 hf hl) (g := mkF m pc Ls st) rfl hsize (argsL := argsL) (rest := rest) hlen hst (by show 2 * 0 + _ ≤ _; omega) hd (fun _ _ => ⟨rfl, eT, hc, hn⟩)
  dsimp only [Pt.U, Pt.locs, Pt.cells, Pt.slots] at X18 l18 y18 z18 st18 hQ18
  subst l18 y18 z18
  exact go st18 (kk v _ _ _ X18 rfl hQ18)
theorem callVi (X : Stand p l e R s m args below meth c T locs cells slots) (hx : p.tables.exec = Jvm.exec) (hZ : Z.Warmed39 s.vm) {own C : String} {index : Nat} {y z : MethodName} {bytes : ByteArray} {maxL : Nat} {ret : Option FieldType} {rm : Room} {Q : Option Value → Heap → List Loc → Prop} (hown : s.vm.findClass own = some m.cls)
    (w1 : (Jvm.Cond.methodLink own index y).before a0 Z = true) (w2 : (Jvm.Cond.declares y).before a0 Z = true) (nf : NotFace s y) (w5 : (Jvm.Cond.selects C y z).before a0 Z = true) (w6 : (Jvm.Cond.instanceMethod z).before a0 Z = true) (w4 : (Jvm.Cond.code z bytes maxL ret).before a0 Z = true) (w3 : (Jvm.Cond.initialized z.cls).before a0 Z = true) (hy : y.cls ≠ "java/lang/invoke/MethodHandle" ∧ y.cls ≠ "java/lang/invoke/VarHandle") (eT : T.heap = h) {a : Addr} (E : Exa Z h a C) {argsL rest : List Value}
    (hM : Meets l z bytes maxL ret [] rm Z (.ref a :: argsL).toArray h Q rm.cells rm.slots) {W : Nat} (hf : rm.frames + 1 ≤ R.frames) (hl : W + (maxL + 11) + rm.locals ≤ R.locals) (hc : cells + rm.cells ≤ R.cells) (hn : slots + rm.slots ≤ R.slots)
    {pc : Nat} {Ls : Array Slot} {st : List Value} (hsize : Ls.size = c.maxLocals) (hlen : ∀ sig, parseMethodDescriptor y.desc = some sig → argsL.length = sig.parameters.length) (hst : st = argsL.reverse ++ .ref a :: rest) (hW : (rest.map fun v => v.category).sum ≤ W) (hd : decode c.code pc = .ok (.invokevirtual index, 3)) {A : Outcome → State → Prop}
    (kk : ∀ (v : Option Value) (T' : State) (L : List Loc) (h' : Heap), Stand p l e R s m args below meth c T' (locs ++ L) (cells + rm.cells) (slots + rm.slots) → T'.heap = h' → Q v h' L → Run p e below A (T'.setTop (mkF m (pc + 3) Ls (v.toList ++ rest)))) : Run p e below A (T.setTop (mkF m pc Ls st)) := by
  obtain ⟨cq, kq, qa, qb, qc⟩ := isOf hZ eT E
  obtain ⟨v, _, ⟨T18, L18, k18, n18⟩, -, X18, ⟨Lc18, hQ18, l18, y18, z18⟩, st18⟩ := X.virtualBack hx (y := y) (z := z) hown (mvT hZ w1) (mvT hZ w2) nf (mvT hZ w5) (mvT hZ w6) hy (backOf (W := W) hM hZ w4 w3 hf hl) qa qc (g := mkF m pc Ls st) rfl hsize (Steps.refl _) (argsL := argsL) (rest := rest) hlen hst (by show 2 * 0 + _ ≤ _; omega) hd (fun _ _ => ⟨rfl, eT, hc, hn⟩)
  dsimp only [Pt.U, Pt.locs, Pt.cells, Pt.slots] at X18 l18 y18 z18 st18 hQ18
  subst l18 y18 z18
  exact goT st18 (kk v _ _ _ X18 rfl hQ18)
theorem callSp (X : Stand p l e R s m args below meth c T locs cells slots) (hx : p.tables.exec = Jvm.exec) (hZ : Z.Warmed39 s.vm) {own : String} {index : Nat} {y : MethodName} (hy1 : y.name = "<init>") {bytes : ByteArray} {maxL : Nat} {rm : Room} {Q : Option Value → Heap → List Loc → Prop} (hown : s.vm.findClass own = some m.cls)
    (w1 : (Jvm.Cond.methodLink own index y).before a0 Z = true) (w6 : (Jvm.Cond.instanceMethod y).before a0 Z = true) (w4 : (Jvm.Cond.code y bytes maxL none).before a0 Z = true) (w3 : (Jvm.Cond.initialized y.cls).before a0 Z = true) (hy : y.cls ≠ "java/lang/invoke/MethodHandle" ∧ y.cls ≠ "java/lang/invoke/VarHandle") (eT : T.heap = h) {a : Addr} {argsL rest : List Value}
    (hM : Meets l y bytes maxL none [] rm Z (.ref a :: argsL).toArray h Q rm.cells rm.slots) {W : Nat} (hf : rm.frames + 1 ≤ R.frames) (hl : W + (maxL + 11) + rm.locals ≤ R.locals) (hc : cells + rm.cells ≤ R.cells) (hn : slots + rm.slots ≤ R.slots)
    {pc : Nat} {Ls : Array Slot} {st : List Value} (hsize : Ls.size = c.maxLocals) (hlen : ∀ sig, parseMethodDescriptor y.desc = some sig → argsL.length = sig.parameters.length) (hst : st = argsL.reverse ++ .ref a :: rest) (hW : (rest.map fun v => v.category).sum ≤ W) (hd : decode c.code pc = .ok (.invokespecial index, 3)) {A : Outcome → State → Prop}
    (kk : ∀ (v : Option Value) (T' : State) (L : List Loc) (h' : Heap), Stand p l e R s m args below meth c T' (locs ++ L) (cells + rm.cells) (slots + rm.slots) → T'.heap = h' → Q v h' L → Run p e below A (T'.setTop (mkF m (pc + 3) Ls (v.toList ++ rest)))) : Run p e below A (T.setTop (mkF m pc Ls st)) := by
  obtain ⟨v, _, ⟨T18, L18, k18, n18⟩, -, X18, ⟨Lc18, hQ18, l18, y18, z18⟩, st18⟩ := X.specialBack hx (y := y) hy1 hown (mvT hZ w1) (mvT hZ w6) (mvT hZ w4) hy (backOf (W := W) hM hZ w4 w3 hf hl) (g := mkF m pc Ls st) rfl hsize (Steps.refl _) (a := a) (argsL := argsL) (rest := rest) hlen hst (by show 2 * 0 + _ ≤ _; omega) hd (fun _ _ => ⟨rfl, eT, hc, hn⟩)
  dsimp only [Pt.U, Pt.locs, Pt.cells, Pt.slots] at X18 l18 y18 z18 st18 hQ18
  subst l18 y18 z18
  exact goT st18 (kk v _ _ _ X18 rfl hQ18)
theorem callPr (X : Stand p l e R s m args below meth c T locs cells slots) (hx : p.tables.exec = Jvm.exec) (hZ : Z.Warmed39 s.vm) {own C : String} {index : Nat} {y : MethodName} {bytes : ByteArray} {maxL : Nat} {ret : Option FieldType} {rm : Room} {Q : Option Value → Heap → List Loc → Prop} (hown : s.vm.findClass own = some m.cls)
    (w1 : (Jvm.Cond.methodLink own index y).before a0 Z = true) (w2 : (Jvm.Cond.privateMethod y).before a0 Z = true) (w5 : (Jvm.Cond.selects y.cls y y).before a0 Z = true) (w6 : (Jvm.Cond.instanceMethod y).before a0 Z = true) (w4 : (Jvm.Cond.code y bytes maxL ret).before a0 Z = true) (w3 : (Jvm.Cond.initialized y.cls).before a0 Z = true) (hy : y.cls ≠ "java/lang/invoke/MethodHandle" ∧ y.cls ≠ "java/lang/invoke/VarHandle") (eT : T.heap = h) {a : Addr} (E : Exa Z h a C) {argsL rest : List Value}
    (hM : Meets l y bytes maxL ret [] rm Z (.ref a :: argsL).toArray h Q rm.cells rm.slots) {W : Nat} (hf : rm.frames + 1 ≤ R.frames) (hl : W + (maxL + 11) + rm.locals ≤ R.locals) (hc : cells + rm.cells ≤ R.cells) (hn : slots + rm.slots ≤ R.slots)
    {pc : Nat} {Ls : Array Slot} {st : List Value} (hsize : Ls.size = c.maxLocals) (hlen : ∀ sig, parseMethodDescriptor y.desc = some sig → argsL.length = sig.parameters.length) (hst : st = argsL.reverse ++ .ref a :: rest) (hW : (rest.map fun v => v.category).sum ≤ W) (hd : decode c.code pc = .ok (.invokevirtual index, 3)) {A : Outcome → State → Prop}
    (kk : ∀ (v : Option Value) (T' : State) (L : List Loc) (h' : Heap), Stand p l e R s m args below meth c T' (locs ++ L) (cells + rm.cells) (slots + rm.slots) → T'.heap = h' → Q v h' L → Run p e below A (T'.setTop (mkF m (pc + 3) Ls (v.toList ++ rest)))) : Run p e below A (T.setTop (mkF m pc Ls st)) := by
  obtain ⟨cl, hcl, hob⟩ := Exa.cell E
  obtain ⟨v, _, ⟨T18, L18, k18, n18⟩, -, X18, ⟨Lc18, hQ18, l18, y18, z18⟩, st18⟩ := X.privateBack hx (y := y) hown (mvT hZ w1) (mvT hZ w6) (mvT hZ w5) (Cond.privateMethod_at (mvP hZ w2 (args := #[]))) (mvT hZ w4) hy (backOf (W := W) hM hZ w4 w3 hf hl) (g := mkF m pc Ls st) rfl hsize (Steps.refl _) (a := a) (by rw [eT]; exact hcl) hob (argsL := argsL) (rest := rest) hlen hst (by show 2 * 0 + _ ≤ _; omega) hd (fun _ _ => ⟨rfl, eT, hc, hn⟩)
  dsimp only [Pt.U, Pt.locs, Pt.cells, Pt.slots] at X18 l18 y18 z18 st18 hQ18
  subst l18 y18 z18
  exact goT st18 (kk v _ _ _ X18 rfl hQ18)
theorem callIf (X : Stand p l e R s m args below meth c T locs cells slots) (hx : p.tables.exec = Jvm.exec) (hZ : Z.Warmed39 s.vm) {own C : String} {index count : Nat} {y z : MethodName} {bytes : ByteArray} {maxL : Nat} {ret : Option FieldType} {rm : Room} {Q : Option Value → Heap → List Loc → Prop} (hown : s.vm.findClass own = some m.cls)
    (w1 : (Jvm.Cond.methodLink own index y).before a0 Z = true) (w2 : (Jvm.Cond.declares y).before a0 Z = true) (w7 : (Jvm.Cond.interfaceMethod y.cls y.cls y.name y.desc).before a0 Z = true) (k7 : ((Jvm.Cond.interfaceMethod y.cls y.cls y.name y.desc).onTables && (Jvm.Cond.interfaceMethod y.cls y.cls y.name y.desc).keepsFace) = true) (w5 : (Jvm.Cond.selects C y z).before a0 Z = true) (w6 : (Jvm.Cond.instanceMethod z).before a0 Z = true) (w8 : (Jvm.Cond.publicMethod z).before a0 Z = true) (w9 : (Jvm.Cond.unhidden C y.name y.desc).before a0 Z = true) (w10 : (Jvm.Cond.castable C y.cls).before a0 Z = true)
    (w4 : (Jvm.Cond.code z bytes maxL ret).before a0 Z = true) (w3 : (Jvm.Cond.initialized z.cls).before a0 Z = true) (hy : y.cls ≠ "java/lang/invoke/MethodHandle" ∧ y.cls ≠ "java/lang/invoke/VarHandle") (eT : T.heap = h) {a : Addr} (E : Exa Z h a C) {argsL rest : List Value}
    (hM : Meets l z bytes maxL ret [] rm Z (.ref a :: argsL).toArray h Q rm.cells rm.slots) {W : Nat} (hf : rm.frames + 1 ≤ R.frames) (hl : W + (maxL + 11) + rm.locals ≤ R.locals) (hc : cells + rm.cells ≤ R.cells) (hn : slots + rm.slots ≤ R.slots)
    {pc : Nat} {Ls : Array Slot} {st : List Value} (hsize : Ls.size = c.maxLocals) (hlen : ∀ sig, parseMethodDescriptor y.desc = some sig → argsL.length = sig.parameters.length) (hst : st = argsL.reverse ++ .ref a :: rest) (hW : (rest.map fun v => v.category).sum ≤ W) (hd : decode c.code pc = .ok (.invokeinterface index count, 5)) {A : Outcome → State → Prop}
    (kk : ∀ (v : Option Value) (T' : State) (L : List Loc) (h' : Heap), Stand p l e R s m args below meth c T' (locs ++ L) (cells + rm.cells) (slots + rm.slots) → T'.heap = h' → Q v h' L → Run p e below A (T'.setTop (mkF m (pc + 5) Ls (v.toList ++ rest)))) : Run p e below A (T.setTop (mkF m pc Ls st)) := by
  obtain ⟨cq, kq, qa, qb, qc⟩ := isOf hZ eT E
  obtain ⟨v, _, ⟨T18, L18, k18, n18⟩, -, X18, ⟨Lc18, hQ18, l18, y18, z18⟩, st18⟩ := X.interfaceBack hx (xi := y) (y := z) hown (mvT hZ w1) (mvT hZ w2) (mvT hZ w7 k7) (mvT hZ w5) (mvT hZ w6) (mvT hZ w8) (mvT hZ w9) (mvT hZ w10) hy (backOf (W := W) hM hZ w4 w3 hf hl) qa qb qc (g := mkF m pc Ls st) rfl hsize (Steps.refl _) (argsL := argsL) (rest := rest) hlen hst (by show 2 * 0 + _ ≤ _; omega) hd (fun _ _ => ⟨rfl, eT, hc, hn⟩)
  dsimp only [Pt.U, Pt.locs, Pt.cells, Pt.slots] at X18 l18 y18 z18 st18 hQ18
  subst l18 y18 z18
  exact goT st18 (kk v _ _ _ X18 rfl hQ18)
theorem callViK (X : Stand p l e R s m args below meth c T locs cells slots) (hx : p.tables.exec = Jvm.exec) (hZ : Z.Warmed39 s.vm) {own C : String} {index : Nat} {y z : MethodName} {Q : Option Value → Heap → List Loc → Prop} (hown : s.vm.findClass own = some m.cls)
    (w1 : (Jvm.Cond.methodLink own index y).before a0 Z = true) (w2 : (Jvm.Cond.declares y).before a0 Z = true) (nf : NotFace s y) (w5 : (Jvm.Cond.selects C y z).before a0 Z = true) (w6 : (Jvm.Cond.instanceMethod z).before a0 Z = true) (hy : y.cls ≠ "java/lang/invoke/MethodHandle" ∧ y.cls ≠ "java/lang/invoke/VarHandle") (eT : T.heap = h) {a : Addr} (E : Exa Z h a C) {argsL rest : List Value}
    {rc rs W : Nat} (hK : Pay l R p e below s args z 3 W (.ref a :: argsL).toArray h Q rc rs) (hc : cells + rc ≤ R.cells) (hn : slots + rs ≤ R.slots)
    {pc : Nat} {Ls : Array Slot} {st : List Value} (hsize : Ls.size = c.maxLocals) (hlen : ∀ sig, parseMethodDescriptor y.desc = some sig → argsL.length = sig.parameters.length) (hst : st = argsL.reverse ++ .ref a :: rest) (hW : (rest.map fun v => v.category).sum ≤ W) (hd : decode c.code pc = .ok (.invokevirtual index, 3)) {A : Outcome → State → Prop}
    (kk : ∀ (v : Option Value) (T' : State) (L : List Loc) (h' : Heap), Stand p l e R s m args below meth c T' (locs ++ L) (cells + rc) (slots + rs) → T'.heap = h' → Q v h' L → Run p e below A (T'.setTop (mkF m (pc + 3) Ls (v.toList ++ rest)))) : Run p e below A (T.setTop (mkF m pc Ls st)) := by
  obtain ⟨cq, kq, qa, qb, qc⟩ := isOf hZ eT E
  obtain ⟨v, _, ⟨T18, L18, k18, n18⟩, -, X18, ⟨Lc18, hQ18, l18, y18, z18⟩, st18⟩ := X.virtualBack hx (y := y) (z := z) hown (mvT hZ w1) (mvT hZ w2) nf (mvT hZ w5) (mvT hZ w6) hy hK qa qc (g := mkF m pc Ls st) rfl hsize (Steps.refl _) (argsL := argsL) (rest := rest) hlen hst (by show 2 * 0 + _ ≤ _; omega) hd (fun _ _ => ⟨rfl, eT, hc, hn⟩)
  dsimp only [Pt.U, Pt.locs, Pt.cells, Pt.slots] at X18 l18 y18 z18 st18 hQ18
  subst l18 y18 z18
  exact goT st18 (kk v _ _ _ X18 rfl hQ18)
theorem callSpK (X : Stand p l e R s m args below meth c T locs cells slots) (hx : p.tables.exec = Jvm.exec) (hZ : Z.Warmed39 s.vm) {own : String} {index : Nat} {y : MethodName} (hy1 : y.name = "<init>") {bytes : ByteArray} {maxL : Nat} {Q : Option Value → Heap → List Loc → Prop} (hown : s.vm.findClass own = some m.cls)
    (w1 : (Jvm.Cond.methodLink own index y).before a0 Z = true) (w6 : (Jvm.Cond.instanceMethod y).before a0 Z = true) (w4 : (Jvm.Cond.code y bytes maxL none).before a0 Z = true) (hy : y.cls ≠ "java/lang/invoke/MethodHandle" ∧ y.cls ≠ "java/lang/invoke/VarHandle") (eT : T.heap = h) {a : Addr} {argsL rest : List Value}
    {rc rs W : Nat} (hK : Pay l R p e below s args y 3 W (.ref a :: argsL).toArray h Q rc rs) (hc : cells + rc ≤ R.cells) (hn : slots + rs ≤ R.slots)
    {pc : Nat} {Ls : Array Slot} {st : List Value} (hsize : Ls.size = c.maxLocals) (hlen : ∀ sig, parseMethodDescriptor y.desc = some sig → argsL.length = sig.parameters.length) (hst : st = argsL.reverse ++ .ref a :: rest) (hW : (rest.map fun v => v.category).sum ≤ W) (hd : decode c.code pc = .ok (.invokespecial index, 3)) {A : Outcome → State → Prop}
    (kk : ∀ (v : Option Value) (T' : State) (L : List Loc) (h' : Heap), Stand p l e R s m args below meth c T' (locs ++ L) (cells + rc) (slots + rs) → T'.heap = h' → Q v h' L → Run p e below A (T'.setTop (mkF m (pc + 3) Ls (v.toList ++ rest)))) : Run p e below A (T.setTop (mkF m pc Ls st)) := by
  obtain ⟨v, _, ⟨T18, L18, k18, n18⟩, -, X18, ⟨Lc18, hQ18, l18, y18, z18⟩, st18⟩ := X.specialBack hx (y := y) hy1 hown (mvT hZ w1) (mvT hZ w6) (mvT hZ w4) hy hK (g := mkF m pc Ls st) rfl hsize (Steps.refl _) (a := a) (argsL := argsL) (rest := rest) hlen hst (by show 2 * 0 + _ ≤ _; omega) hd (fun _ _ => ⟨rfl, eT, hc, hn⟩)
  dsimp only [Pt.U, Pt.locs, Pt.cells, Pt.slots] at X18 l18 y18 z18 st18 hQ18
  subst l18 y18 z18
  exact goT st18 (kk v _ _ _ X18 rfl hQ18)
/-- no subclass, by the words of the one's superclasses and of the other's 'instantiable' -/
theorem ns_root {O K : String} {n : Nat} (w : (Jvm.Cond.noSuperclass O).before a0 Z = true) (wk : (Jvm.Cond.instantiable K n).before a0 Z = true) (hn : O ≠ K) : NS Z O K := by
  obtain ⟨c, k, h1, h2, h3, -, -⟩ := Cond.noSuperclass_spec w
  obtain ⟨t, kt, g1, -⟩ := Cond.instantiable_spec wk
  have ne := ids_ne h1 g1 hn
  refine ⟨c, t, h1, g1, fun fuel => ?_⟩
  cases fuel with
  | zero => rfl
  | succ f => simp [Vm.isSubclassAux, ne, h2, h3]
theorem ns_no {C S K : String} {n : Nat} (w : (Jvm.Cond.superclass C S).before a0 Z = true) (wk : (Jvm.Cond.instantiable K n).before a0 Z = true) (q : NS Z C K) (hn : C ≠ K) : ∃ c t, Z.vm.findClass C = some c ∧ Z.vm.findClass K = some t ∧ Z.vm.assignable c t = false := by
  obtain ⟨c, t, h0, g0, n3⟩ := q
  obtain ⟨p, k, kp, h1, h2, h3, h4, h5, -, h7⟩ := Cond.superclass_spec h0 w
  obtain ⟨t', kt, g1, g2, g3, g4, -⟩ := Cond.instantiable_spec wk
  cases g0.symm.trans g1
  have ne := ids_ne h0 g0 hn
  have g5 : kt.isInterface = false := by
    cases hi : kt.isInterface with
    | false => rfl
    | true => simp [hi] at g4
  refine ⟨c, t, h0, g0, ?_⟩
  show Z.vm.assignableAux (255 + 1) c t = false
  simp [Vm.assignableAux, ne, h2, g2, h5, g3, g5, Vm.isSubclass, n3]
/-- a static that holds an object of one class, out of the case's words -/
theorem sta_exa {C n d K : String} (w1 : (Jvm.Cond.initialized C).before a0 Z = true) (w2 : (Jvm.Cond.laysStatic C n d).before a0 Z = true) (hx : (Jvm.Cond.exactly (Jvm.Term.static C n d) K).value a0 Z none Z [] = some true) :
    ∃ a, (Jvm.Term.static C n d).eval a0 Z none [] Z = some (.ref a) ∧ Sta Z Z.heap C n d (.ref a) ∧ Exa Z Z.heap a K := by
  obtain ⟨a, ev⟩ := exa_v hx
  exact ⟨a, ev, Sta.start ev (Or.inr ⟨w1, w2⟩), Exa.start ev hx⟩
theorem fld_int {t : Jvm.Term} {a : Addr} {C n d : String} {k : Int32} (ev : t.eval a0 Z none [] Z = some (.ref a)) (hq : (Jvm.Cond.eq (Jvm.Term.field t C n d) (Jvm.Term.int k)).value a0 Z none Z [] = some true) : Fld Z Z.heap a C n d (.int k) := by
  refine Fld.start ?_
  have e1 : (Jvm.Term.field t C n d).eval a0 Z none [] Z = Z.fieldOf? a C n d := fld_at ev
  have e2 : (Jvm.Term.int k).eval a0 Z none [] Z = some (.int k) := Term.int_eval k
  simp only [Cond.value, e1, e2] at hq
  cases hf : Z.fieldOf? a C n d with
  | none => simp [hf] at hq
  | some x => cases x <;> simp [hf] at hq ⊢; exact hq
end Own
def ofV (p1 p2 : Int32) (wN wL wR wB : Addr) : Addr := if p1 = 0 then (if p2 = 0 then wN else wR) else (if p2 = 0 then wL else wB)
theorem d_p58_m4_0 : decode prog_58_method_4_code 0 = .ok (.iload_n 0, 1) := by decide +kernel
theorem d_p58_m4_1 : decode prog_58_method_4_code 1 = .ok (.ifCond .eq 20, 3) := by decide +kernel
theorem d_p58_m4_21 : decode prog_58_method_4_code 21 = .ok (.iload_n 1, 1) := by decide +kernel
theorem d_p58_m4_22 : decode prog_58_method_4_code 22 = .ok (.ifCond .eq 9, 3) := by decide +kernel
theorem d_p58_m4_31 : decode prog_58_method_4_code 31 = .ok (.getstatic 3, 3) := by decide +kernel
theorem d_p58_m4_34 : decode prog_58_method_4_code 34 = .ok (.astore_n 2, 1) := by decide +kernel
theorem d_p58_m4_35 : decode prog_58_method_4_code 35 = .ok (.aload_n 2, 1) := by decide +kernel
theorem d_p58_m4_36 : decode prog_58_method_4_code 36 = .ok (.areturn, 1) := by decide +kernel
theorem d_p58_m4_25 : decode prog_58_method_4_code 25 = .ok (.getstatic 10, 3) := by decide +kernel
theorem d_p58_m4_28 : decode prog_58_method_4_code 28 = .ok (.goto 6, 3) := by decide +kernel
theorem d_p58_m4_4 : decode prog_58_method_4_code 4 = .ok (.iload_n 1, 1) := by decide +kernel
theorem d_p58_m4_5 : decode prog_58_method_4_code 5 = .ok (.ifCond .eq 9, 3) := by decide +kernel
theorem d_p58_m4_14 : decode prog_58_method_4_code 14 = .ok (.getstatic 7, 3) := by decide +kernel
theorem d_p58_m4_17 : decode prog_58_method_4_code 17 = .ok (.astore_n 2, 1) := by decide +kernel
theorem d_p58_m4_18 : decode prog_58_method_4_code 18 = .ok (.goto 17, 3) := by decide +kernel
theorem d_p58_m4_8 : decode prog_58_method_4_code 8 = .ok (.getstatic 13, 3) := by decide +kernel
theorem d_p58_m4_11 : decode prog_58_method_4_code 11 = .ok (.goto 6, 3) := by decide +kernel
theorem pn_0 : plainName "nearcast/engine/ListWork$Moved" = true := by first | (simp [plainName, overriddenIn]; done) | decide +kernel
def Q_rm_of (p1 p2 : Int32) (wN wL wR wB : Addr) (h0 : Heap) (n0 : Nat) (v : Option Value) (h : Heap) (L : List Loc) : Prop := v = some (.ref (ofV p1 p2 wN wL wR wB)) ∧ Fr n0 L ∧ h = h0
set_option maxRecDepth 65536 in
set_option maxHeartbeats 40000000 in
theorem rm_of (l : Launch) (Z : State) (a0 : Array Value) (hw : ∀ d ∈ tables_1, d.before a0 Z = true) (ws : List Jvm.Cond) (p1 p2 : Int32) (wN wL wR wB : Addr) (h0 : Heap) (n0 : Nat) (O0 : Old Z n0 h0) (SwN : Sta Z Z.heap "nearcast/engine/ListWork$Moved" "NOTHING" "Lnearcast/engine/ListWork$Moved;" (.ref wN)) (SwL : Sta Z Z.heap "nearcast/engine/ListWork$Moved" "LIST" "Lnearcast/engine/ListWork$Moved;" (.ref wL)) (SwR : Sta Z Z.heap "nearcast/engine/ListWork$Moved" "REGION" "Lnearcast/engine/ListWork$Moved;" (.ref wR)) (SwB : Sta Z Z.heap "nearcast/engine/ListWork$Moved" "LIST_AND_REGION" "Lnearcast/engine/ListWork$Moved;" (.ref wB)) :
    Meets l (⟨"nearcast/engine/ListWork$Moved", "of", "(ZZ)Lnearcast/engine/ListWork$Moved;"⟩ : MethodName) prog_58_method_4_code 3 (some (.object "nearcast/engine/ListWork$Moved")) ws ({ frames := 0, cells := 0, slots := 0, locals := 0 } : Room) Z #[(.int p1), (.int p2)] h0 (Q_rm_of p1 p2 wN wL wR wB h0 n0) 0 0 := by
  refine enter (Ls := #[.val (.int p1), .val (.int p2), .unset]) (plainFor_of_name pn_0) (fun m => by first | rfl | (simp [entryFrame, mkF, argsToLocals, Value.category]; done)) ?_
  intro p e s m below meth c T0 hx hby hml hown hnm hret hlk hZ X0 e0
  have N0 := Fr.nil n0
  replace hown : s.vm.findClass "nearcast/engine/ListWork$Moved" = some m.cls := hown
  show Run p e below _ (T0.setTop (mkF m 0 #[.val (.int p1), .val (.int p2), .unset] []))
  refine go (fun _ => XS.iloadN X0.here hx rfl (hb hby d_p58_m4_0) rfl) ?_
  show Run p e below _ (T0.setTop (mkF m 1 #[.val (.int p1), .val (.int p2), .unset] [(.int p1)]))
  by_cases c1 : p1 = 0
  · skip
    refine go (fun _ => XS.ifYes X0.here hx rfl (pc0 := 1) (pc' := 21) rfl (hb hby d_p58_m4_1) rfl ((if0 _ _).trans (teq c1).1) (by decide) (by decide)) ?_
    show Run p e below _ (T0.setTop (mkF m 21 #[.val (.int p1), .val (.int p2), .unset] []))
    refine go (fun _ => XS.iloadN X0.here hx rfl (hb hby d_p58_m4_21) rfl) ?_
    show Run p e below _ (T0.setTop (mkF m 22 #[.val (.int p1), .val (.int p2), .unset] [(.int p2)]))
    by_cases c2 : p2 = 0
    · skip
      refine go (fun _ => XS.ifYes X0.here hx rfl (pc0 := 22) (pc' := 31) rfl (hb hby d_p58_m4_22) rfl ((if0 _ _).trans (teq c2).1) (by decide) (by decide)) ?_
      show Run p e below _ (T0.setTop (mkF m 31 #[.val (.int p1), .val (.int p2), .unset] []))
      obtain ⟨T3, X3, e3, st3⟩ := getS2 X0 hx hZ hown (host := "") (Or.inl (wd hw 20 rfl)) Via.refl e0 (SwN.ext O0.2) (g := (mkF m 31 #[.val (.int p1), .val (.int p2), .unset] [])) rfl (hb hby d_p58_m4_31)
      refine go st3 ?_
      show Run p e below _ (T3.setTop (mkF m 34 #[.val (.int p1), .val (.int p2), .unset] [(.ref wN)]))
      refine go (fun _ => XS.astoreN X3.here hx rfl (hb hby d_p58_m4_34) rfl rfl (l' := #[.val (.int p1), .val (.int p2), .val (.ref wN)]) rfl) ?_
      show Run p e below _ (T3.setTop (mkF m 35 #[.val (.int p1), .val (.int p2), .val (.ref wN)] []))
      refine go (fun _ => XS.aloadN X3.here hx rfl (hb hby d_p58_m4_35) rfl rfl) ?_
      show Run p e below _ (T3.setTop (mkF m 36 #[.val (.int p1), .val (.int p2), .val (.ref wN)] [(.ref wN)]))
      exact endA X3 hx hlk (w := (.ref wN)) hret rfl rfl (hb hby d_p58_m4_36) (⟨by simp [ofV, c1, c2], N0, e3⟩) (by decide) (by decide)
    · skip
      refine go (fun _ => XS.ifNo X0.here hx rfl (hb hby d_p58_m4_22) rfl ((if0 _ _).trans (feq c2).1)) ?_
      show Run p e below _ (T0.setTop (mkF m 25 #[.val (.int p1), .val (.int p2), .unset] []))
      obtain ⟨T4, X4, e4, st4⟩ := getS2 X0 hx hZ hown (host := "") (Or.inl (wd hw 4 rfl)) Via.refl e0 (SwR.ext O0.2) (g := (mkF m 25 #[.val (.int p1), .val (.int p2), .unset] [])) rfl (hb hby d_p58_m4_25)
      refine go st4 ?_
      show Run p e below _ (T4.setTop (mkF m 28 #[.val (.int p1), .val (.int p2), .unset] [(.ref wR)]))
      refine go (fun _ => XS.goto X4.here hx rfl (pc0 := 28) (pc' := 34) rfl (hb hby d_p58_m4_28) (by decide) (by decide)) ?_
      show Run p e below _ (T4.setTop (mkF m 34 #[.val (.int p1), .val (.int p2), .unset] [(.ref wR)]))
      refine go (fun _ => XS.astoreN X4.here hx rfl (hb hby d_p58_m4_34) rfl rfl (l' := #[.val (.int p1), .val (.int p2), .val (.ref wR)]) rfl) ?_
      show Run p e below _ (T4.setTop (mkF m 35 #[.val (.int p1), .val (.int p2), .val (.ref wR)] []))
      refine go (fun _ => XS.aloadN X4.here hx rfl (hb hby d_p58_m4_35) rfl rfl) ?_
      show Run p e below _ (T4.setTop (mkF m 36 #[.val (.int p1), .val (.int p2), .val (.ref wR)] [(.ref wR)]))
      exact endA X4 hx hlk (w := (.ref wR)) hret rfl rfl (hb hby d_p58_m4_36) (⟨by simp [ofV, c1, c2], N0, e4⟩) (by decide) (by decide)
  · skip
    refine go (fun _ => XS.ifNo X0.here hx rfl (hb hby d_p58_m4_1) rfl ((if0 _ _).trans (feq c1).1)) ?_
    show Run p e below _ (T0.setTop (mkF m 4 #[.val (.int p1), .val (.int p2), .unset] []))
    refine go (fun _ => XS.iloadN X0.here hx rfl (hb hby d_p58_m4_4) rfl) ?_
    show Run p e below _ (T0.setTop (mkF m 5 #[.val (.int p1), .val (.int p2), .unset] [(.int p2)]))
    by_cases c5 : p2 = 0
    · skip
      refine go (fun _ => XS.ifYes X0.here hx rfl (pc0 := 5) (pc' := 14) rfl (hb hby d_p58_m4_5) rfl ((if0 _ _).trans (teq c5).1) (by decide) (by decide)) ?_
      show Run p e below _ (T0.setTop (mkF m 14 #[.val (.int p1), .val (.int p2), .unset] []))
      obtain ⟨T6, X6, e6, st6⟩ := getS2 X0 hx hZ hown (host := "") (Or.inl (wd hw 11 rfl)) Via.refl e0 (SwL.ext O0.2) (g := (mkF m 14 #[.val (.int p1), .val (.int p2), .unset] [])) rfl (hb hby d_p58_m4_14)
      refine go st6 ?_
      show Run p e below _ (T6.setTop (mkF m 17 #[.val (.int p1), .val (.int p2), .unset] [(.ref wL)]))
      refine go (fun _ => XS.astoreN X6.here hx rfl (hb hby d_p58_m4_17) rfl rfl (l' := #[.val (.int p1), .val (.int p2), .val (.ref wL)]) rfl) ?_
      show Run p e below _ (T6.setTop (mkF m 18 #[.val (.int p1), .val (.int p2), .val (.ref wL)] []))
      refine go (fun _ => XS.goto X6.here hx rfl (pc0 := 18) (pc' := 35) rfl (hb hby d_p58_m4_18) (by decide) (by decide)) ?_
      show Run p e below _ (T6.setTop (mkF m 35 #[.val (.int p1), .val (.int p2), .val (.ref wL)] []))
      refine go (fun _ => XS.aloadN X6.here hx rfl (hb hby d_p58_m4_35) rfl rfl) ?_
      show Run p e below _ (T6.setTop (mkF m 36 #[.val (.int p1), .val (.int p2), .val (.ref wL)] [(.ref wL)]))
      exact endA X6 hx hlk (w := (.ref wL)) hret rfl rfl (hb hby d_p58_m4_36) (⟨by simp [ofV, c1, c5], N0, e6⟩) (by decide) (by decide)
    · skip
      refine go (fun _ => XS.ifNo X0.here hx rfl (hb hby d_p58_m4_5) rfl ((if0 _ _).trans (feq c5).1)) ?_
      show Run p e below _ (T0.setTop (mkF m 8 #[.val (.int p1), .val (.int p2), .unset] []))
      obtain ⟨T7, X7, e7, st7⟩ := getS2 X0 hx hZ hown (host := "") (Or.inl (wd hw 13 rfl)) Via.refl e0 (SwB.ext O0.2) (g := (mkF m 8 #[.val (.int p1), .val (.int p2), .unset] [])) rfl (hb hby d_p58_m4_8)
      refine go st7 ?_
      show Run p e below _ (T7.setTop (mkF m 11 #[.val (.int p1), .val (.int p2), .unset] [(.ref wB)]))
      refine go (fun _ => XS.goto X7.here hx rfl (pc0 := 11) (pc' := 17) rfl (hb hby d_p58_m4_11) (by decide) (by decide)) ?_
      show Run p e below _ (T7.setTop (mkF m 17 #[.val (.int p1), .val (.int p2), .unset] [(.ref wB)]))
      refine go (fun _ => XS.astoreN X7.here hx rfl (hb hby d_p58_m4_17) rfl rfl (l' := #[.val (.int p1), .val (.int p2), .val (.ref wB)]) rfl) ?_
      show Run p e below _ (T7.setTop (mkF m 18 #[.val (.int p1), .val (.int p2), .val (.ref wB)] []))
      refine go (fun _ => XS.goto X7.here hx rfl (pc0 := 18) (pc' := 35) rfl (hb hby d_p58_m4_18) (by decide) (by decide)) ?_
      show Run p e below _ (T7.setTop (mkF m 35 #[.val (.int p1), .val (.int p2), .val (.ref wB)] []))
      refine go (fun _ => XS.aloadN X7.here hx rfl (hb hby d_p58_m4_35) rfl rfl) ?_
      show Run p e below _ (T7.setTop (mkF m 36 #[.val (.int p1), .val (.int p2), .val (.ref wB)] [(.ref wB)]))
      exact endA X7 hx hlk (w := (.ref wB)) hret rfl rfl (hb hby d_p58_m4_36) (⟨by simp [ofV, c1, c5], N0, e7⟩) (by decide) (by decide)
theorem d_p58_m5_0 : decode prog_58_method_5_code 0 = .ok (.aload_n 0, 1) := by decide +kernel
theorem d_p58_m5_1 : decode prog_58_method_5_code 1 = .ok (.getstatic 7, 3) := by decide +kernel
theorem d_p58_m5_4 : decode prog_58_method_5_code 4 = .ok (.if_acmp .eq 10, 3) := by decide +kernel
theorem d_p58_m5_14 : decode prog_58_method_5_code 14 = .ok (.iconst 1, 1) := by decide +kernel
theorem d_p58_m5_15 : decode prog_58_method_5_code 15 = .ok (.goto 4, 3) := by decide +kernel
theorem d_p58_m5_19 : decode prog_58_method_5_code 19 = .ok (.ireturn, 1) := by decide +kernel
theorem d_p58_m5_7 : decode prog_58_method_5_code 7 = .ok (.aload_n 0, 1) := by decide +kernel
theorem d_p58_m5_8 : decode prog_58_method_5_code 8 = .ok (.getstatic 13, 3) := by decide +kernel
theorem d_p58_m5_11 : decode prog_58_method_5_code 11 = .ok (.if_acmp .ne 7, 3) := by decide +kernel
theorem d_p58_m5_18 : decode prog_58_method_5_code 18 = .ok (.iconst 0, 1) := by decide +kernel
def Q_rm_changedList (a wN wL wR wB : Addr) (h0 : Heap) (n0 : Nat) (v : Option Value) (h : Heap) (L : List Loc) : Prop := v = some (.int (if a = wL ∨ a = wB then 1 else 0)) ∧ Fr n0 L ∧ h = h0
set_option maxRecDepth 65536 in
set_option maxHeartbeats 40000000 in
theorem rm_changedList (l : Launch) (Z : State) (a0 : Array Value) (hw : ∀ d ∈ tables_1, d.before a0 Z = true) (ws : List Jvm.Cond) (a wN wL wR wB : Addr) (h0 : Heap) (n0 : Nat) (O0 : Old Z n0 h0) (SwN : Sta Z Z.heap "nearcast/engine/ListWork$Moved" "NOTHING" "Lnearcast/engine/ListWork$Moved;" (.ref wN)) (SwL : Sta Z Z.heap "nearcast/engine/ListWork$Moved" "LIST" "Lnearcast/engine/ListWork$Moved;" (.ref wL)) (SwR : Sta Z Z.heap "nearcast/engine/ListWork$Moved" "REGION" "Lnearcast/engine/ListWork$Moved;" (.ref wR)) (SwB : Sta Z Z.heap "nearcast/engine/ListWork$Moved" "LIST_AND_REGION" "Lnearcast/engine/ListWork$Moved;" (.ref wB)) :
    Meets l (⟨"nearcast/engine/ListWork$Moved", "changedList", "()Z"⟩ : MethodName) prog_58_method_5_code 1 (some .boolean) ws ({ frames := 0, cells := 0, slots := 0, locals := 0 } : Room) Z #[(.ref a)] h0 (Q_rm_changedList a wN wL wR wB h0 n0) 0 0 := by
  refine enter (Ls := #[.val (.ref a)]) (plainFor_of_name pn_0) (fun m => by first | rfl | (simp [entryFrame, mkF, argsToLocals, Value.category]; done)) ?_
  intro p e s m below meth c T0 hx hby hml hown hnm hret hlk hZ X0 e0
  have N0 := Fr.nil n0
  replace hown : s.vm.findClass "nearcast/engine/ListWork$Moved" = some m.cls := hown
  show Run p e below _ (T0.setTop (mkF m 0 #[.val (.ref a)] []))
  refine go (fun _ => XS.aloadN X0.here hx rfl (hb hby d_p58_m5_0) rfl rfl) ?_
  show Run p e below _ (T0.setTop (mkF m 1 #[.val (.ref a)] [(.ref a)]))
  obtain ⟨T8, X8, e8, st8⟩ := getS2 X0 hx hZ hown (host := "") (Or.inl (wd hw 11 rfl)) Via.refl e0 (SwL.ext O0.2) (g := (mkF m 1 #[.val (.ref a)] [(.ref a)])) rfl (hb hby d_p58_m5_1)
  refine go st8 ?_
  show Run p e below _ (T8.setTop (mkF m 4 #[.val (.ref a)] [(.ref wL), (.ref a)]))
  by_cases c9 : a = wL
  · skip
    refine go (fun _ => acmp X8 hx rfl (x := (.ref a)) (y := (.ref wL)) rfl rfl (pc0 := 4) (pc' := 14) (same := true) rfl (hb hby d_p58_m5_4) rfl (by simp [c9]) (by decide) (by decide)) ?_
    show Run p e below _ (T8.setTop (mkF m 14 #[.val (.ref a)] []))
    refine go (fun _ => XS.iconst X8.here hx rfl (hb hby d_p58_m5_14)) ?_
    show Run p e below _ (T8.setTop (mkF m 15 #[.val (.ref a)] [(.int (1 : Int32))]))
    refine go (fun _ => XS.goto X8.here hx rfl (pc0 := 15) (pc' := 19) rfl (hb hby d_p58_m5_15) (by decide) (by decide)) ?_
    show Run p e below _ (T8.setTop (mkF m 19 #[.val (.ref a)] [(.int (1 : Int32))]))
    exact endN X8 hx hlk (t := .boolean) hret (by simp) (hb hby d_p58_m5_19) (⟨by rw [if_pos (by simp [c9])]; rfl, N0, e8⟩) (by decide) (by decide)
  · skip
    refine go (fun _ => acmp X8 hx rfl (x := (.ref a)) (y := (.ref wL)) rfl rfl (pc0 := 4) (pc' := 7) (same := false) rfl (hb hby d_p58_m5_4) rfl (by simp [c9]) (by decide) (by decide)) ?_
    show Run p e below _ (T8.setTop (mkF m 7 #[.val (.ref a)] []))
    refine go (fun _ => XS.aloadN X8.here hx rfl (hb hby d_p58_m5_7) rfl rfl) ?_
    show Run p e below _ (T8.setTop (mkF m 8 #[.val (.ref a)] [(.ref a)]))
    obtain ⟨T10, X10, e10, st10⟩ := getS2 X8 hx hZ hown (host := "") (Or.inl (wd hw 13 rfl)) Via.refl e8 (SwB.ext O0.2) (g := (mkF m 8 #[.val (.ref a)] [(.ref a)])) rfl (hb hby d_p58_m5_8)
    refine go st10 ?_
    show Run p e below _ (T10.setTop (mkF m 11 #[.val (.ref a)] [(.ref wB), (.ref a)]))
    by_cases c11 : a = wB
    · skip
      refine go (fun _ => acmp X10 hx rfl (x := (.ref a)) (y := (.ref wB)) rfl rfl (pc0 := 11) (pc' := 14) (same := true) rfl (hb hby d_p58_m5_11) rfl (by simp [c11]) (by decide) (by decide)) ?_
      show Run p e below _ (T10.setTop (mkF m 14 #[.val (.ref a)] []))
      refine go (fun _ => XS.iconst X10.here hx rfl (hb hby d_p58_m5_14)) ?_
      show Run p e below _ (T10.setTop (mkF m 15 #[.val (.ref a)] [(.int (1 : Int32))]))
      refine go (fun _ => XS.goto X10.here hx rfl (pc0 := 15) (pc' := 19) rfl (hb hby d_p58_m5_15) (by decide) (by decide)) ?_
      show Run p e below _ (T10.setTop (mkF m 19 #[.val (.ref a)] [(.int (1 : Int32))]))
      exact endN X10 hx hlk (t := .boolean) hret (by simp) (hb hby d_p58_m5_19) (⟨by rw [if_pos (by simp [c9, c11])]; rfl, N0, e10⟩) (by decide) (by decide)
    · skip
      refine go (fun _ => acmp X10 hx rfl (x := (.ref a)) (y := (.ref wB)) rfl rfl (pc0 := 11) (pc' := 18) (same := false) rfl (hb hby d_p58_m5_11) rfl (by simp [c11]) (by decide) (by decide)) ?_
      show Run p e below _ (T10.setTop (mkF m 18 #[.val (.ref a)] []))
      refine go (fun _ => XS.iconst X10.here hx rfl (hb hby d_p58_m5_18)) ?_
      show Run p e below _ (T10.setTop (mkF m 19 #[.val (.ref a)] [(.int (0 : Int32))]))
      exact endN X10 hx hlk (t := .boolean) hret (by simp) (hb hby d_p58_m5_19) (⟨by rw [if_neg (by simp [c9, c11])]; rfl, N0, e10⟩) (by decide) (by decide)
theorem d_p58_m6_0 : decode prog_58_method_6_code 0 = .ok (.aload_n 0, 1) := by decide +kernel
theorem d_p58_m6_1 : decode prog_58_method_6_code 1 = .ok (.getstatic 10, 3) := by decide +kernel
theorem d_p58_m6_4 : decode prog_58_method_6_code 4 = .ok (.if_acmp .eq 10, 3) := by decide +kernel
theorem d_p58_m6_14 : decode prog_58_method_6_code 14 = .ok (.iconst 1, 1) := by decide +kernel
theorem d_p58_m6_15 : decode prog_58_method_6_code 15 = .ok (.goto 4, 3) := by decide +kernel
theorem d_p58_m6_19 : decode prog_58_method_6_code 19 = .ok (.ireturn, 1) := by decide +kernel
theorem d_p58_m6_7 : decode prog_58_method_6_code 7 = .ok (.aload_n 0, 1) := by decide +kernel
theorem d_p58_m6_8 : decode prog_58_method_6_code 8 = .ok (.getstatic 13, 3) := by decide +kernel
theorem d_p58_m6_11 : decode prog_58_method_6_code 11 = .ok (.if_acmp .ne 7, 3) := by decide +kernel
theorem d_p58_m6_18 : decode prog_58_method_6_code 18 = .ok (.iconst 0, 1) := by decide +kernel
def Q_rm_changedRegion (a wN wL wR wB : Addr) (h0 : Heap) (n0 : Nat) (v : Option Value) (h : Heap) (L : List Loc) : Prop := v = some (.int (if a = wR ∨ a = wB then 1 else 0)) ∧ Fr n0 L ∧ h = h0
set_option maxRecDepth 65536 in
set_option maxHeartbeats 40000000 in
theorem rm_changedRegion (l : Launch) (Z : State) (a0 : Array Value) (hw : ∀ d ∈ tables_1, d.before a0 Z = true) (ws : List Jvm.Cond) (a wN wL wR wB : Addr) (h0 : Heap) (n0 : Nat) (O0 : Old Z n0 h0) (SwN : Sta Z Z.heap "nearcast/engine/ListWork$Moved" "NOTHING" "Lnearcast/engine/ListWork$Moved;" (.ref wN)) (SwL : Sta Z Z.heap "nearcast/engine/ListWork$Moved" "LIST" "Lnearcast/engine/ListWork$Moved;" (.ref wL)) (SwR : Sta Z Z.heap "nearcast/engine/ListWork$Moved" "REGION" "Lnearcast/engine/ListWork$Moved;" (.ref wR)) (SwB : Sta Z Z.heap "nearcast/engine/ListWork$Moved" "LIST_AND_REGION" "Lnearcast/engine/ListWork$Moved;" (.ref wB)) :
    Meets l (⟨"nearcast/engine/ListWork$Moved", "changedRegion", "()Z"⟩ : MethodName) prog_58_method_6_code 1 (some .boolean) ws ({ frames := 0, cells := 0, slots := 0, locals := 0 } : Room) Z #[(.ref a)] h0 (Q_rm_changedRegion a wN wL wR wB h0 n0) 0 0 := by
  refine enter (Ls := #[.val (.ref a)]) (plainFor_of_name pn_0) (fun m => by first | rfl | (simp [entryFrame, mkF, argsToLocals, Value.category]; done)) ?_
  intro p e s m below meth c T0 hx hby hml hown hnm hret hlk hZ X0 e0
  have N0 := Fr.nil n0
  replace hown : s.vm.findClass "nearcast/engine/ListWork$Moved" = some m.cls := hown
  show Run p e below _ (T0.setTop (mkF m 0 #[.val (.ref a)] []))
  refine go (fun _ => XS.aloadN X0.here hx rfl (hb hby d_p58_m6_0) rfl rfl) ?_
  show Run p e below _ (T0.setTop (mkF m 1 #[.val (.ref a)] [(.ref a)]))
  obtain ⟨T12, X12, e12, st12⟩ := getS2 X0 hx hZ hown (host := "") (Or.inl (wd hw 4 rfl)) Via.refl e0 (SwR.ext O0.2) (g := (mkF m 1 #[.val (.ref a)] [(.ref a)])) rfl (hb hby d_p58_m6_1)
  refine go st12 ?_
  show Run p e below _ (T12.setTop (mkF m 4 #[.val (.ref a)] [(.ref wR), (.ref a)]))
  by_cases c13 : a = wR
  · skip
    refine go (fun _ => acmp X12 hx rfl (x := (.ref a)) (y := (.ref wR)) rfl rfl (pc0 := 4) (pc' := 14) (same := true) rfl (hb hby d_p58_m6_4) rfl (by simp [c13]) (by decide) (by decide)) ?_
    show Run p e below _ (T12.setTop (mkF m 14 #[.val (.ref a)] []))
    refine go (fun _ => XS.iconst X12.here hx rfl (hb hby d_p58_m6_14)) ?_
    show Run p e below _ (T12.setTop (mkF m 15 #[.val (.ref a)] [(.int (1 : Int32))]))
    refine go (fun _ => XS.goto X12.here hx rfl (pc0 := 15) (pc' := 19) rfl (hb hby d_p58_m6_15) (by decide) (by decide)) ?_
    show Run p e below _ (T12.setTop (mkF m 19 #[.val (.ref a)] [(.int (1 : Int32))]))
    exact endN X12 hx hlk (t := .boolean) hret (by simp) (hb hby d_p58_m6_19) (⟨by rw [if_pos (by simp [c13])]; rfl, N0, e12⟩) (by decide) (by decide)
  · skip
    refine go (fun _ => acmp X12 hx rfl (x := (.ref a)) (y := (.ref wR)) rfl rfl (pc0 := 4) (pc' := 7) (same := false) rfl (hb hby d_p58_m6_4) rfl (by simp [c13]) (by decide) (by decide)) ?_
    show Run p e below _ (T12.setTop (mkF m 7 #[.val (.ref a)] []))
    refine go (fun _ => XS.aloadN X12.here hx rfl (hb hby d_p58_m6_7) rfl rfl) ?_
    show Run p e below _ (T12.setTop (mkF m 8 #[.val (.ref a)] [(.ref a)]))
    obtain ⟨T14, X14, e14, st14⟩ := getS2 X12 hx hZ hown (host := "") (Or.inl (wd hw 13 rfl)) Via.refl e12 (SwB.ext O0.2) (g := (mkF m 8 #[.val (.ref a)] [(.ref a)])) rfl (hb hby d_p58_m6_8)
    refine go st14 ?_
    show Run p e below _ (T14.setTop (mkF m 11 #[.val (.ref a)] [(.ref wB), (.ref a)]))
    by_cases c15 : a = wB
    · skip
      refine go (fun _ => acmp X14 hx rfl (x := (.ref a)) (y := (.ref wB)) rfl rfl (pc0 := 11) (pc' := 14) (same := true) rfl (hb hby d_p58_m6_11) rfl (by simp [c15]) (by decide) (by decide)) ?_
      show Run p e below _ (T14.setTop (mkF m 14 #[.val (.ref a)] []))
      refine go (fun _ => XS.iconst X14.here hx rfl (hb hby d_p58_m6_14)) ?_
      show Run p e below _ (T14.setTop (mkF m 15 #[.val (.ref a)] [(.int (1 : Int32))]))
      refine go (fun _ => XS.goto X14.here hx rfl (pc0 := 15) (pc' := 19) rfl (hb hby d_p58_m6_15) (by decide) (by decide)) ?_
      show Run p e below _ (T14.setTop (mkF m 19 #[.val (.ref a)] [(.int (1 : Int32))]))
      exact endN X14 hx hlk (t := .boolean) hret (by simp) (hb hby d_p58_m6_19) (⟨by rw [if_pos (by simp [c13, c15])]; rfl, N0, e14⟩) (by decide) (by decide)
    · skip
      refine go (fun _ => acmp X14 hx rfl (x := (.ref a)) (y := (.ref wB)) rfl rfl (pc0 := 11) (pc' := 18) (same := false) rfl (hb hby d_p58_m6_11) rfl (by simp [c15]) (by decide) (by decide)) ?_
      show Run p e below _ (T14.setTop (mkF m 18 #[.val (.ref a)] []))
      refine go (fun _ => XS.iconst X14.here hx rfl (hb hby d_p58_m6_18)) ?_
      show Run p e below _ (T14.setTop (mkF m 19 #[.val (.ref a)] [(.int (0 : Int32))]))
      exact endN X14 hx hlk (t := .boolean) hret (by simp) (hb hby d_p58_m6_19) (⟨by rw [if_neg (by simp [c13, c15])]; rfl, N0, e14⟩) (by decide) (by decide)
theorem pd_0 : parseMethodDescriptor "(ZZ)Lnearcast/engine/ListWork$Moved;" = some ⟨[.boolean, .boolean], some (.object "nearcast/engine/ListWork$Moved")⟩ := by decide +kernel
theorem pd_1 : parseMethodDescriptor "()Z" = some ⟨[], some .boolean⟩ := by decide +kernel
theorem pn_1 : plainName "nearcast/engine/MovedOfPinLaw" = true := by first | (simp [plainName, overriddenIn]; done) | decide +kernel
def Q_rmlaw (p0 p1 : Int32) (wN wL wR wB : Addr) (h0 : Heap) (n0 : Nat) (v : Option Value) (h : Heap) (L : List Loc) : Prop := v = some (.int 1) ∧ Fr n0 L
set_option maxRecDepth 65536 in
set_option maxHeartbeats 40000000 in
theorem rmlaw (l : Launch) (Z : State) (a0 : Array Value) (hw : ∀ d ∈ tables_1, d.before a0 Z = true) (ws : List Jvm.Cond) (p0 p1 : Int32) (wN wL wR wB : Addr) (h0 : Heap) (n0 : Nat) (O0 : Old Z n0 h0) (SwN : Sta Z Z.heap "nearcast/engine/ListWork$Moved" "NOTHING" "Lnearcast/engine/ListWork$Moved;" (.ref wN)) (SwL : Sta Z Z.heap "nearcast/engine/ListWork$Moved" "LIST" "Lnearcast/engine/ListWork$Moved;" (.ref wL)) (SwR : Sta Z Z.heap "nearcast/engine/ListWork$Moved" "REGION" "Lnearcast/engine/ListWork$Moved;" (.ref wR)) (SwB : Sta Z Z.heap "nearcast/engine/ListWork$Moved" "LIST_AND_REGION" "Lnearcast/engine/ListWork$Moved;" (.ref wB)) (EwN : Exa Z Z.heap wN "nearcast/engine/ListWork$Moved") (EwL : Exa Z Z.heap wL "nearcast/engine/ListWork$Moved") (EwR : Exa Z Z.heap wR "nearcast/engine/ListWork$Moved") (EwB : Exa Z Z.heap wB "nearcast/engine/ListWork$Moved") (hNL : wN ≠ wL) (hNR : wN ≠ wR) (hNB : wN ≠ wB) (hLR : wL ≠ wR) (hLB : wL ≠ wB) (hRB : wR ≠ wB) :
    Meets l x code maxLocals ret ws room_1 Z #[(.int p0), (.int p1)] h0 (Q_rmlaw p0 p1 wN wL wR wB h0 n0) 0 0 := by
  refine enter (Ls := #[.val (.int p0), .val (.int p1), .unset, .unset, .unset]) (plainFor_of_name pn_1) (fun m => by first | rfl | (simp [entryFrame, mkF, argsToLocals, Value.category]; done)) ?_
  intro p e s m below meth c T0 hx hby hml hown hnm hret hlk hZ X0 e0
  have N0 := Fr.nil n0
  replace hown : s.vm.findClass "nearcast/engine/MovedOfPinLaw" = some m.cls := hown
  show Run p e below _ (T0.setTop (mkF m 0 #[.val (.int p0), .val (.int p1), .unset, .unset, .unset] []))
  refine go (fun _ => XS.iloadN X0.here hx rfl (hb hby at_0) rfl) ?_
  show Run p e below _ (T0.setTop (mkF m 1 #[.val (.int p0), .val (.int p1), .unset, .unset, .unset] [(.int p0)]))
  refine go (fun _ => XS.iconst X0.here hx rfl (hb hby at_1)) ?_
  show Run p e below _ (T0.setTop (mkF m 2 #[.val (.int p0), .val (.int p1), .unset, .unset, .unset] [(.int (1 : Int32)), (.int p0)]))
  refine go (fun _ => XS.iand X0.here hx rfl (hb hby at_2) rfl) ?_
  show Run p e below _ (T0.setTop (mkF m 3 #[.val (.int p0), .val (.int p1), .unset, .unset, .unset] [(.int (p0 &&& (1 : Int32)))]))
  by_cases c16 : (p0 &&& (1 : Int32)) = 0
  · skip
    refine go (fun _ => XS.ifYes X0.here hx rfl (pc0 := 3) (pc' := 10) rfl (hb hby at_3) rfl ((if0 _ _).trans (teq c16).1) (by decide) (by decide)) ?_
    show Run p e below _ (T0.setTop (mkF m 10 #[.val (.int p0), .val (.int p1), .unset, .unset, .unset] []))
    refine go (fun _ => XS.iconst X0.here hx rfl (hb hby at_10)) ?_
    show Run p e below _ (T0.setTop (mkF m 11 #[.val (.int p0), .val (.int p1), .unset, .unset, .unset] [(.int (0 : Int32))]))
    refine go (fun _ => XS.istoreN X0.here hx rfl (hb hby at_11) rfl (l' := #[.val (.int p0), .val (.int p1), .val (.int (0 : Int32)), .unset, .unset]) rfl) ?_
    show Run p e below _ (T0.setTop (mkF m 12 #[.val (.int p0), .val (.int p1), .val (.int (0 : Int32)), .unset, .unset] []))
    refine go (fun _ => XS.iloadN X0.here hx rfl (hb hby at_12) rfl) ?_
    show Run p e below _ (T0.setTop (mkF m 13 #[.val (.int p0), .val (.int p1), .val (.int (0 : Int32)), .unset, .unset] [(.int p1)]))
    refine go (fun _ => XS.iconst X0.here hx rfl (hb hby at_13)) ?_
    show Run p e below _ (T0.setTop (mkF m 14 #[.val (.int p0), .val (.int p1), .val (.int (0 : Int32)), .unset, .unset] [(.int (1 : Int32)), (.int p1)]))
    refine go (fun _ => XS.iand X0.here hx rfl (hb hby at_14) rfl) ?_
    show Run p e below _ (T0.setTop (mkF m 15 #[.val (.int p0), .val (.int p1), .val (.int (0 : Int32)), .unset, .unset] [(.int (p1 &&& (1 : Int32)))]))
    by_cases c17 : (p1 &&& (1 : Int32)) = 0
    · skip
      refine go (fun _ => XS.ifYes X0.here hx rfl (pc0 := 15) (pc' := 22) rfl (hb hby at_15) rfl ((if0 _ _).trans (teq c17).1) (by decide) (by decide)) ?_
      show Run p e below _ (T0.setTop (mkF m 22 #[.val (.int p0), .val (.int p1), .val (.int (0 : Int32)), .unset, .unset] []))
      refine go (fun _ => XS.iconst X0.here hx rfl (hb hby at_22)) ?_
      show Run p e below _ (T0.setTop (mkF m 23 #[.val (.int p0), .val (.int p1), .val (.int (0 : Int32)), .unset, .unset] [(.int (0 : Int32))]))
      refine go (fun _ => XS.istoreN X0.here hx rfl (hb hby at_23) rfl (l' := #[.val (.int p0), .val (.int p1), .val (.int (0 : Int32)), .val (.int (0 : Int32)), .unset]) rfl) ?_
      show Run p e below _ (T0.setTop (mkF m 24 #[.val (.int p0), .val (.int p1), .val (.int (0 : Int32)), .val (.int (0 : Int32)), .unset] []))
      refine go (fun _ => XS.iloadN X0.here hx rfl (hb hby at_24) rfl) ?_
      show Run p e below _ (T0.setTop (mkF m 25 #[.val (.int p0), .val (.int p1), .val (.int (0 : Int32)), .val (.int (0 : Int32)), .unset] [(.int (0 : Int32))]))
      refine go (fun _ => XS.iloadN X0.here hx rfl (hb hby at_25) rfl) ?_
      show Run p e below _ (T0.setTop (mkF m 26 #[.val (.int p0), .val (.int p1), .val (.int (0 : Int32)), .val (.int (0 : Int32)), .unset] [(.int (0 : Int32)), (.int (0 : Int32))]))
      refine callSt X0 hx hZ hown (wd hw 0 rfl) (wd hw 1 rfl) (wd hw 2 rfl) (wd hw 3 rfl) (by decide) e0 (argsL := [(.int (0 : Int32)), (.int (0 : Int32))]) (rest := []) (rm_of l Z a0 hw [] (0 : Int32) (0 : Int32) wN wL wR wB h0 n0 O0 SwN SwL SwR SwB) (W := 0) (by decide) (by decide) (by decide) (by decide) (by rw [hml]; rfl) (lenOf pd_0 rfl) rfl (by decide) (hb hby at_26) ?_
      intro v18 T18 L18 h18 X18 e18 q18
      obtain ⟨rv, n18, k18⟩ := q18
      replace rv : v18 = some (.ref wN) := by simpa [ofV] using rv
      subst rv
      have e18 := e18.trans k18
      have N18 := Fr.app N0 n18
      show Run p e below _ (T18.setTop (mkF m 29 #[.val (.int p0), .val (.int p1), .val (.int (0 : Int32)), .val (.int (0 : Int32)), .unset] [(.ref wN)]))
      refine go (fun _ => XS.astore X18.here hx rfl (hb hby at_29) rfl rfl (l' := #[.val (.int p0), .val (.int p1), .val (.int (0 : Int32)), .val (.int (0 : Int32)), .val (.ref wN)]) rfl) ?_
      show Run p e below _ (T18.setTop (mkF m 31 #[.val (.int p0), .val (.int p1), .val (.int (0 : Int32)), .val (.int (0 : Int32)), .val (.ref wN)] []))
      refine go (fun _ => XS.aload X18.here hx rfl (hb hby at_31) rfl rfl) ?_
      show Run p e below _ (T18.setTop (mkF m 33 #[.val (.int p0), .val (.int p1), .val (.int (0 : Int32)), .val (.int (0 : Int32)), .val (.ref wN)] [(.ref wN)]))
      refine go (fun _ => XS.ifnonnullYes X18.here hx rfl (pc0 := 33) (pc' := 38) rfl (hb hby at_33) rfl (by decide) (by decide)) ?_
      show Run p e below _ (T18.setTop (mkF m 38 #[.val (.int p0), .val (.int p1), .val (.int (0 : Int32)), .val (.int (0 : Int32)), .val (.ref wN)] []))
      refine go (fun _ => XS.aload X18.here hx rfl (hb hby at_38) rfl rfl) ?_
      show Run p e below _ (T18.setTop (mkF m 40 #[.val (.int p0), .val (.int p1), .val (.int (0 : Int32)), .val (.int (0 : Int32)), .val (.ref wN)] [(.ref wN)]))
      refine callVi X18 hx hZ hown (wd hw 6 rfl) (wd hw 7 rfl) (notFace_of_selects (args := #[]) (mvT hZ (wd hw 9 rfl))) (wd hw 9 rfl) (wd hw 8 rfl) (wd hw 10 rfl) (wd hw 2 rfl) (by decide) e18 (EwN.ext O0.2) (argsL := []) (rest := []) (rm_changedList l Z a0 hw [] wN wN wL wR wB h0 n0 O0 SwN SwL SwR SwB) (W := 0) (by decide) (by decide) (by decide) (by decide) (by rw [hml]; rfl) (lenOf pd_1 rfl) rfl (by decide) (hb hby at_40) ?_
      intro v19 T19 L19 h19 X19 e19 q19
      obtain ⟨rv, n19, k19⟩ := q19
      replace rv : v19 = some (.int 0) := by simpa [hNL, hNR, hNB, hLR, hLB, hRB, hNL.symm, hLR.symm, hNR.symm, hNB.symm, hLB.symm, hRB.symm] using rv
      subst rv
      have e19 := e19.trans k19
      have N19 := Fr.app N18 n19
      show Run p e below _ (T19.setTop (mkF m 43 #[.val (.int p0), .val (.int p1), .val (.int (0 : Int32)), .val (.int (0 : Int32)), .val (.ref wN)] [(.int (0 : Int32))]))
      refine go (fun _ => XS.iloadN X19.here hx rfl (hb hby at_43) rfl) ?_
      show Run p e below _ (T19.setTop (mkF m 44 #[.val (.int p0), .val (.int p1), .val (.int (0 : Int32)), .val (.int (0 : Int32)), .val (.ref wN)] [(.int (0 : Int32)), (.int (0 : Int32))]))
      refine go (fun _ => XS.icmpNo X19.here hx rfl (hb hby at_44) rfl (teq (by decide : (0 : Int32) = 0)).2) ?_
      show Run p e below _ (T19.setTop (mkF m 47 #[.val (.int p0), .val (.int p1), .val (.int (0 : Int32)), .val (.int (0 : Int32)), .val (.ref wN)] []))
      refine go (fun _ => XS.aload X19.here hx rfl (hb hby at_47) rfl rfl) ?_
      show Run p e below _ (T19.setTop (mkF m 49 #[.val (.int p0), .val (.int p1), .val (.int (0 : Int32)), .val (.int (0 : Int32)), .val (.ref wN)] [(.ref wN)]))
      refine callVi X19 hx hZ hown (wd hw 15 rfl) (wd hw 16 rfl) (notFace_of_selects (args := #[]) (mvT hZ (wd hw 18 rfl))) (wd hw 18 rfl) (wd hw 17 rfl) (wd hw 19 rfl) (wd hw 2 rfl) (by decide) e19 (EwN.ext O0.2) (argsL := []) (rest := []) (rm_changedRegion l Z a0 hw [] wN wN wL wR wB h0 n0 O0 SwN SwL SwR SwB) (W := 0) (by decide) (by decide) (by decide) (by decide) (by rw [hml]; rfl) (lenOf pd_1 rfl) rfl (by decide) (hb hby at_49) ?_
      intro v20 T20 L20 h20 X20 e20 q20
      obtain ⟨rv, n20, k20⟩ := q20
      replace rv : v20 = some (.int 0) := by simpa [hNL, hNR, hNB, hLR, hLB, hRB, hNL.symm, hLR.symm, hNR.symm, hNB.symm, hLB.symm, hRB.symm] using rv
      subst rv
      have e20 := e20.trans k20
      have N20 := Fr.app N19 n20
      show Run p e below _ (T20.setTop (mkF m 52 #[.val (.int p0), .val (.int p1), .val (.int (0 : Int32)), .val (.int (0 : Int32)), .val (.ref wN)] [(.int (0 : Int32))]))
      refine go (fun _ => XS.iloadN X20.here hx rfl (hb hby at_52) rfl) ?_
      show Run p e below _ (T20.setTop (mkF m 53 #[.val (.int p0), .val (.int p1), .val (.int (0 : Int32)), .val (.int (0 : Int32)), .val (.ref wN)] [(.int (0 : Int32)), (.int (0 : Int32))]))
      refine go (fun _ => XS.icmpNo X20.here hx rfl (hb hby at_53) rfl (teq (by decide : (0 : Int32) = 0)).2) ?_
      show Run p e below _ (T20.setTop (mkF m 56 #[.val (.int p0), .val (.int p1), .val (.int (0 : Int32)), .val (.int (0 : Int32)), .val (.ref wN)] []))
      refine go (fun _ => XS.iconst X20.here hx rfl (hb hby at_56)) ?_
      show Run p e below _ (T20.setTop (mkF m 57 #[.val (.int p0), .val (.int p1), .val (.int (0 : Int32)), .val (.int (0 : Int32)), .val (.ref wN)] [(.int (1 : Int32))]))
      refine go (fun _ => XS.goto X20.here hx rfl (pc0 := 57) (pc' := 61) rfl (hb hby at_57) (by decide) (by decide)) ?_
      show Run p e below _ (T20.setTop (mkF m 61 #[.val (.int p0), .val (.int p1), .val (.int (0 : Int32)), .val (.int (0 : Int32)), .val (.ref wN)] [(.int (1 : Int32))]))
      exact endN X20 hx hlk (t := .boolean) hret (by simp) (hb hby at_61) (⟨rfl, N20⟩) (by decide) (by decide)
    · skip
      refine go (fun _ => XS.ifNo X0.here hx rfl (hb hby at_15) rfl ((if0 _ _).trans (feq c17).1)) ?_
      show Run p e below _ (T0.setTop (mkF m 18 #[.val (.int p0), .val (.int p1), .val (.int (0 : Int32)), .unset, .unset] []))
      refine go (fun _ => XS.iconst X0.here hx rfl (hb hby at_18)) ?_
      show Run p e below _ (T0.setTop (mkF m 19 #[.val (.int p0), .val (.int p1), .val (.int (0 : Int32)), .unset, .unset] [(.int (1 : Int32))]))
      refine go (fun _ => XS.goto X0.here hx rfl (pc0 := 19) (pc' := 23) rfl (hb hby at_19) (by decide) (by decide)) ?_
      show Run p e below _ (T0.setTop (mkF m 23 #[.val (.int p0), .val (.int p1), .val (.int (0 : Int32)), .unset, .unset] [(.int (1 : Int32))]))
      refine go (fun _ => XS.istoreN X0.here hx rfl (hb hby at_23) rfl (l' := #[.val (.int p0), .val (.int p1), .val (.int (0 : Int32)), .val (.int (1 : Int32)), .unset]) rfl) ?_
      show Run p e below _ (T0.setTop (mkF m 24 #[.val (.int p0), .val (.int p1), .val (.int (0 : Int32)), .val (.int (1 : Int32)), .unset] []))
      refine go (fun _ => XS.iloadN X0.here hx rfl (hb hby at_24) rfl) ?_
      show Run p e below _ (T0.setTop (mkF m 25 #[.val (.int p0), .val (.int p1), .val (.int (0 : Int32)), .val (.int (1 : Int32)), .unset] [(.int (0 : Int32))]))
      refine go (fun _ => XS.iloadN X0.here hx rfl (hb hby at_25) rfl) ?_
      show Run p e below _ (T0.setTop (mkF m 26 #[.val (.int p0), .val (.int p1), .val (.int (0 : Int32)), .val (.int (1 : Int32)), .unset] [(.int (1 : Int32)), (.int (0 : Int32))]))
      refine callSt X0 hx hZ hown (wd hw 0 rfl) (wd hw 1 rfl) (wd hw 2 rfl) (wd hw 3 rfl) (by decide) e0 (argsL := [(.int (0 : Int32)), (.int (1 : Int32))]) (rest := []) (rm_of l Z a0 hw [] (0 : Int32) (1 : Int32) wN wL wR wB h0 n0 O0 SwN SwL SwR SwB) (W := 0) (by decide) (by decide) (by decide) (by decide) (by rw [hml]; rfl) (lenOf pd_0 rfl) rfl (by decide) (hb hby at_26) ?_
      intro v21 T21 L21 h21 X21 e21 q21
      obtain ⟨rv, n21, k21⟩ := q21
      replace rv : v21 = some (.ref wR) := by simpa [ofV] using rv
      subst rv
      have e21 := e21.trans k21
      have N21 := Fr.app N0 n21
      show Run p e below _ (T21.setTop (mkF m 29 #[.val (.int p0), .val (.int p1), .val (.int (0 : Int32)), .val (.int (1 : Int32)), .unset] [(.ref wR)]))
      refine go (fun _ => XS.astore X21.here hx rfl (hb hby at_29) rfl rfl (l' := #[.val (.int p0), .val (.int p1), .val (.int (0 : Int32)), .val (.int (1 : Int32)), .val (.ref wR)]) rfl) ?_
      show Run p e below _ (T21.setTop (mkF m 31 #[.val (.int p0), .val (.int p1), .val (.int (0 : Int32)), .val (.int (1 : Int32)), .val (.ref wR)] []))
      refine go (fun _ => XS.aload X21.here hx rfl (hb hby at_31) rfl rfl) ?_
      show Run p e below _ (T21.setTop (mkF m 33 #[.val (.int p0), .val (.int p1), .val (.int (0 : Int32)), .val (.int (1 : Int32)), .val (.ref wR)] [(.ref wR)]))
      refine go (fun _ => XS.ifnonnullYes X21.here hx rfl (pc0 := 33) (pc' := 38) rfl (hb hby at_33) rfl (by decide) (by decide)) ?_
      show Run p e below _ (T21.setTop (mkF m 38 #[.val (.int p0), .val (.int p1), .val (.int (0 : Int32)), .val (.int (1 : Int32)), .val (.ref wR)] []))
      refine go (fun _ => XS.aload X21.here hx rfl (hb hby at_38) rfl rfl) ?_
      show Run p e below _ (T21.setTop (mkF m 40 #[.val (.int p0), .val (.int p1), .val (.int (0 : Int32)), .val (.int (1 : Int32)), .val (.ref wR)] [(.ref wR)]))
      refine callVi X21 hx hZ hown (wd hw 6 rfl) (wd hw 7 rfl) (notFace_of_selects (args := #[]) (mvT hZ (wd hw 9 rfl))) (wd hw 9 rfl) (wd hw 8 rfl) (wd hw 10 rfl) (wd hw 2 rfl) (by decide) e21 (EwR.ext O0.2) (argsL := []) (rest := []) (rm_changedList l Z a0 hw [] wR wN wL wR wB h0 n0 O0 SwN SwL SwR SwB) (W := 0) (by decide) (by decide) (by decide) (by decide) (by rw [hml]; rfl) (lenOf pd_1 rfl) rfl (by decide) (hb hby at_40) ?_
      intro v22 T22 L22 h22 X22 e22 q22
      obtain ⟨rv, n22, k22⟩ := q22
      replace rv : v22 = some (.int 0) := by simpa [hNL, hNR, hNB, hLR, hLB, hRB, hNL.symm, hLR.symm, hNR.symm, hNB.symm, hLB.symm, hRB.symm] using rv
      subst rv
      have e22 := e22.trans k22
      have N22 := Fr.app N21 n22
      show Run p e below _ (T22.setTop (mkF m 43 #[.val (.int p0), .val (.int p1), .val (.int (0 : Int32)), .val (.int (1 : Int32)), .val (.ref wR)] [(.int (0 : Int32))]))
      refine go (fun _ => XS.iloadN X22.here hx rfl (hb hby at_43) rfl) ?_
      show Run p e below _ (T22.setTop (mkF m 44 #[.val (.int p0), .val (.int p1), .val (.int (0 : Int32)), .val (.int (1 : Int32)), .val (.ref wR)] [(.int (0 : Int32)), (.int (0 : Int32))]))
      refine go (fun _ => XS.icmpNo X22.here hx rfl (hb hby at_44) rfl (teq (by decide : (0 : Int32) = 0)).2) ?_
      show Run p e below _ (T22.setTop (mkF m 47 #[.val (.int p0), .val (.int p1), .val (.int (0 : Int32)), .val (.int (1 : Int32)), .val (.ref wR)] []))
      refine go (fun _ => XS.aload X22.here hx rfl (hb hby at_47) rfl rfl) ?_
      show Run p e below _ (T22.setTop (mkF m 49 #[.val (.int p0), .val (.int p1), .val (.int (0 : Int32)), .val (.int (1 : Int32)), .val (.ref wR)] [(.ref wR)]))
      refine callVi X22 hx hZ hown (wd hw 15 rfl) (wd hw 16 rfl) (notFace_of_selects (args := #[]) (mvT hZ (wd hw 18 rfl))) (wd hw 18 rfl) (wd hw 17 rfl) (wd hw 19 rfl) (wd hw 2 rfl) (by decide) e22 (EwR.ext O0.2) (argsL := []) (rest := []) (rm_changedRegion l Z a0 hw [] wR wN wL wR wB h0 n0 O0 SwN SwL SwR SwB) (W := 0) (by decide) (by decide) (by decide) (by decide) (by rw [hml]; rfl) (lenOf pd_1 rfl) rfl (by decide) (hb hby at_49) ?_
      intro v23 T23 L23 h23 X23 e23 q23
      obtain ⟨rv, n23, k23⟩ := q23
      replace rv : v23 = some (.int 1) := by simpa [hNL, hNR, hNB, hLR, hLB, hRB, hNL.symm, hLR.symm, hNR.symm, hNB.symm, hLB.symm, hRB.symm] using rv
      subst rv
      have e23 := e23.trans k23
      have N23 := Fr.app N22 n23
      show Run p e below _ (T23.setTop (mkF m 52 #[.val (.int p0), .val (.int p1), .val (.int (0 : Int32)), .val (.int (1 : Int32)), .val (.ref wR)] [(.int (1 : Int32))]))
      refine go (fun _ => XS.iloadN X23.here hx rfl (hb hby at_52) rfl) ?_
      show Run p e below _ (T23.setTop (mkF m 53 #[.val (.int p0), .val (.int p1), .val (.int (0 : Int32)), .val (.int (1 : Int32)), .val (.ref wR)] [(.int (1 : Int32)), (.int (1 : Int32))]))
      refine go (fun _ => XS.icmpNo X23.here hx rfl (hb hby at_53) rfl (teq (by decide : (1 : Int32) = 1)).2) ?_
      show Run p e below _ (T23.setTop (mkF m 56 #[.val (.int p0), .val (.int p1), .val (.int (0 : Int32)), .val (.int (1 : Int32)), .val (.ref wR)] []))
      refine go (fun _ => XS.iconst X23.here hx rfl (hb hby at_56)) ?_
      show Run p e below _ (T23.setTop (mkF m 57 #[.val (.int p0), .val (.int p1), .val (.int (0 : Int32)), .val (.int (1 : Int32)), .val (.ref wR)] [(.int (1 : Int32))]))
      refine go (fun _ => XS.goto X23.here hx rfl (pc0 := 57) (pc' := 61) rfl (hb hby at_57) (by decide) (by decide)) ?_
      show Run p e below _ (T23.setTop (mkF m 61 #[.val (.int p0), .val (.int p1), .val (.int (0 : Int32)), .val (.int (1 : Int32)), .val (.ref wR)] [(.int (1 : Int32))]))
      exact endN X23 hx hlk (t := .boolean) hret (by simp) (hb hby at_61) (⟨rfl, N23⟩) (by decide) (by decide)
  · skip
    refine go (fun _ => XS.ifNo X0.here hx rfl (hb hby at_3) rfl ((if0 _ _).trans (feq c16).1)) ?_
    show Run p e below _ (T0.setTop (mkF m 6 #[.val (.int p0), .val (.int p1), .unset, .unset, .unset] []))
    refine go (fun _ => XS.iconst X0.here hx rfl (hb hby at_6)) ?_
    show Run p e below _ (T0.setTop (mkF m 7 #[.val (.int p0), .val (.int p1), .unset, .unset, .unset] [(.int (1 : Int32))]))
    refine go (fun _ => XS.goto X0.here hx rfl (pc0 := 7) (pc' := 11) rfl (hb hby at_7) (by decide) (by decide)) ?_
    show Run p e below _ (T0.setTop (mkF m 11 #[.val (.int p0), .val (.int p1), .unset, .unset, .unset] [(.int (1 : Int32))]))
    refine go (fun _ => XS.istoreN X0.here hx rfl (hb hby at_11) rfl (l' := #[.val (.int p0), .val (.int p1), .val (.int (1 : Int32)), .unset, .unset]) rfl) ?_
    show Run p e below _ (T0.setTop (mkF m 12 #[.val (.int p0), .val (.int p1), .val (.int (1 : Int32)), .unset, .unset] []))
    refine go (fun _ => XS.iloadN X0.here hx rfl (hb hby at_12) rfl) ?_
    show Run p e below _ (T0.setTop (mkF m 13 #[.val (.int p0), .val (.int p1), .val (.int (1 : Int32)), .unset, .unset] [(.int p1)]))
    refine go (fun _ => XS.iconst X0.here hx rfl (hb hby at_13)) ?_
    show Run p e below _ (T0.setTop (mkF m 14 #[.val (.int p0), .val (.int p1), .val (.int (1 : Int32)), .unset, .unset] [(.int (1 : Int32)), (.int p1)]))
    refine go (fun _ => XS.iand X0.here hx rfl (hb hby at_14) rfl) ?_
    show Run p e below _ (T0.setTop (mkF m 15 #[.val (.int p0), .val (.int p1), .val (.int (1 : Int32)), .unset, .unset] [(.int (p1 &&& (1 : Int32)))]))
    by_cases c24 : (p1 &&& (1 : Int32)) = 0
    · skip
      refine go (fun _ => XS.ifYes X0.here hx rfl (pc0 := 15) (pc' := 22) rfl (hb hby at_15) rfl ((if0 _ _).trans (teq c24).1) (by decide) (by decide)) ?_
      show Run p e below _ (T0.setTop (mkF m 22 #[.val (.int p0), .val (.int p1), .val (.int (1 : Int32)), .unset, .unset] []))
      refine go (fun _ => XS.iconst X0.here hx rfl (hb hby at_22)) ?_
      show Run p e below _ (T0.setTop (mkF m 23 #[.val (.int p0), .val (.int p1), .val (.int (1 : Int32)), .unset, .unset] [(.int (0 : Int32))]))
      refine go (fun _ => XS.istoreN X0.here hx rfl (hb hby at_23) rfl (l' := #[.val (.int p0), .val (.int p1), .val (.int (1 : Int32)), .val (.int (0 : Int32)), .unset]) rfl) ?_
      show Run p e below _ (T0.setTop (mkF m 24 #[.val (.int p0), .val (.int p1), .val (.int (1 : Int32)), .val (.int (0 : Int32)), .unset] []))
      refine go (fun _ => XS.iloadN X0.here hx rfl (hb hby at_24) rfl) ?_
      show Run p e below _ (T0.setTop (mkF m 25 #[.val (.int p0), .val (.int p1), .val (.int (1 : Int32)), .val (.int (0 : Int32)), .unset] [(.int (1 : Int32))]))
      refine go (fun _ => XS.iloadN X0.here hx rfl (hb hby at_25) rfl) ?_
      show Run p e below _ (T0.setTop (mkF m 26 #[.val (.int p0), .val (.int p1), .val (.int (1 : Int32)), .val (.int (0 : Int32)), .unset] [(.int (0 : Int32)), (.int (1 : Int32))]))
      refine callSt X0 hx hZ hown (wd hw 0 rfl) (wd hw 1 rfl) (wd hw 2 rfl) (wd hw 3 rfl) (by decide) e0 (argsL := [(.int (1 : Int32)), (.int (0 : Int32))]) (rest := []) (rm_of l Z a0 hw [] (1 : Int32) (0 : Int32) wN wL wR wB h0 n0 O0 SwN SwL SwR SwB) (W := 0) (by decide) (by decide) (by decide) (by decide) (by rw [hml]; rfl) (lenOf pd_0 rfl) rfl (by decide) (hb hby at_26) ?_
      intro v25 T25 L25 h25 X25 e25 q25
      obtain ⟨rv, n25, k25⟩ := q25
      replace rv : v25 = some (.ref wL) := by simpa [ofV] using rv
      subst rv
      have e25 := e25.trans k25
      have N25 := Fr.app N0 n25
      show Run p e below _ (T25.setTop (mkF m 29 #[.val (.int p0), .val (.int p1), .val (.int (1 : Int32)), .val (.int (0 : Int32)), .unset] [(.ref wL)]))
      refine go (fun _ => XS.astore X25.here hx rfl (hb hby at_29) rfl rfl (l' := #[.val (.int p0), .val (.int p1), .val (.int (1 : Int32)), .val (.int (0 : Int32)), .val (.ref wL)]) rfl) ?_
      show Run p e below _ (T25.setTop (mkF m 31 #[.val (.int p0), .val (.int p1), .val (.int (1 : Int32)), .val (.int (0 : Int32)), .val (.ref wL)] []))
      refine go (fun _ => XS.aload X25.here hx rfl (hb hby at_31) rfl rfl) ?_
      show Run p e below _ (T25.setTop (mkF m 33 #[.val (.int p0), .val (.int p1), .val (.int (1 : Int32)), .val (.int (0 : Int32)), .val (.ref wL)] [(.ref wL)]))
      refine go (fun _ => XS.ifnonnullYes X25.here hx rfl (pc0 := 33) (pc' := 38) rfl (hb hby at_33) rfl (by decide) (by decide)) ?_
      show Run p e below _ (T25.setTop (mkF m 38 #[.val (.int p0), .val (.int p1), .val (.int (1 : Int32)), .val (.int (0 : Int32)), .val (.ref wL)] []))
      refine go (fun _ => XS.aload X25.here hx rfl (hb hby at_38) rfl rfl) ?_
      show Run p e below _ (T25.setTop (mkF m 40 #[.val (.int p0), .val (.int p1), .val (.int (1 : Int32)), .val (.int (0 : Int32)), .val (.ref wL)] [(.ref wL)]))
      refine callVi X25 hx hZ hown (wd hw 6 rfl) (wd hw 7 rfl) (notFace_of_selects (args := #[]) (mvT hZ (wd hw 9 rfl))) (wd hw 9 rfl) (wd hw 8 rfl) (wd hw 10 rfl) (wd hw 2 rfl) (by decide) e25 (EwL.ext O0.2) (argsL := []) (rest := []) (rm_changedList l Z a0 hw [] wL wN wL wR wB h0 n0 O0 SwN SwL SwR SwB) (W := 0) (by decide) (by decide) (by decide) (by decide) (by rw [hml]; rfl) (lenOf pd_1 rfl) rfl (by decide) (hb hby at_40) ?_
      intro v26 T26 L26 h26 X26 e26 q26
      obtain ⟨rv, n26, k26⟩ := q26
      replace rv : v26 = some (.int 1) := by simpa [hNL, hNR, hNB, hLR, hLB, hRB, hNL.symm, hLR.symm, hNR.symm, hNB.symm, hLB.symm, hRB.symm] using rv
      subst rv
      have e26 := e26.trans k26
      have N26 := Fr.app N25 n26
      show Run p e below _ (T26.setTop (mkF m 43 #[.val (.int p0), .val (.int p1), .val (.int (1 : Int32)), .val (.int (0 : Int32)), .val (.ref wL)] [(.int (1 : Int32))]))
      refine go (fun _ => XS.iloadN X26.here hx rfl (hb hby at_43) rfl) ?_
      show Run p e below _ (T26.setTop (mkF m 44 #[.val (.int p0), .val (.int p1), .val (.int (1 : Int32)), .val (.int (0 : Int32)), .val (.ref wL)] [(.int (1 : Int32)), (.int (1 : Int32))]))
      refine go (fun _ => XS.icmpNo X26.here hx rfl (hb hby at_44) rfl (teq (by decide : (1 : Int32) = 1)).2) ?_
      show Run p e below _ (T26.setTop (mkF m 47 #[.val (.int p0), .val (.int p1), .val (.int (1 : Int32)), .val (.int (0 : Int32)), .val (.ref wL)] []))
      refine go (fun _ => XS.aload X26.here hx rfl (hb hby at_47) rfl rfl) ?_
      show Run p e below _ (T26.setTop (mkF m 49 #[.val (.int p0), .val (.int p1), .val (.int (1 : Int32)), .val (.int (0 : Int32)), .val (.ref wL)] [(.ref wL)]))
      refine callVi X26 hx hZ hown (wd hw 15 rfl) (wd hw 16 rfl) (notFace_of_selects (args := #[]) (mvT hZ (wd hw 18 rfl))) (wd hw 18 rfl) (wd hw 17 rfl) (wd hw 19 rfl) (wd hw 2 rfl) (by decide) e26 (EwL.ext O0.2) (argsL := []) (rest := []) (rm_changedRegion l Z a0 hw [] wL wN wL wR wB h0 n0 O0 SwN SwL SwR SwB) (W := 0) (by decide) (by decide) (by decide) (by decide) (by rw [hml]; rfl) (lenOf pd_1 rfl) rfl (by decide) (hb hby at_49) ?_
      intro v27 T27 L27 h27 X27 e27 q27
      obtain ⟨rv, n27, k27⟩ := q27
      replace rv : v27 = some (.int 0) := by simpa [hNL, hNR, hNB, hLR, hLB, hRB, hNL.symm, hLR.symm, hNR.symm, hNB.symm, hLB.symm, hRB.symm] using rv
      subst rv
      have e27 := e27.trans k27
      have N27 := Fr.app N26 n27
      show Run p e below _ (T27.setTop (mkF m 52 #[.val (.int p0), .val (.int p1), .val (.int (1 : Int32)), .val (.int (0 : Int32)), .val (.ref wL)] [(.int (0 : Int32))]))
      refine go (fun _ => XS.iloadN X27.here hx rfl (hb hby at_52) rfl) ?_
      show Run p e below _ (T27.setTop (mkF m 53 #[.val (.int p0), .val (.int p1), .val (.int (1 : Int32)), .val (.int (0 : Int32)), .val (.ref wL)] [(.int (0 : Int32)), (.int (0 : Int32))]))
      refine go (fun _ => XS.icmpNo X27.here hx rfl (hb hby at_53) rfl (teq (by decide : (0 : Int32) = 0)).2) ?_
      show Run p e below _ (T27.setTop (mkF m 56 #[.val (.int p0), .val (.int p1), .val (.int (1 : Int32)), .val (.int (0 : Int32)), .val (.ref wL)] []))
      refine go (fun _ => XS.iconst X27.here hx rfl (hb hby at_56)) ?_
      show Run p e below _ (T27.setTop (mkF m 57 #[.val (.int p0), .val (.int p1), .val (.int (1 : Int32)), .val (.int (0 : Int32)), .val (.ref wL)] [(.int (1 : Int32))]))
      refine go (fun _ => XS.goto X27.here hx rfl (pc0 := 57) (pc' := 61) rfl (hb hby at_57) (by decide) (by decide)) ?_
      show Run p e below _ (T27.setTop (mkF m 61 #[.val (.int p0), .val (.int p1), .val (.int (1 : Int32)), .val (.int (0 : Int32)), .val (.ref wL)] [(.int (1 : Int32))]))
      exact endN X27 hx hlk (t := .boolean) hret (by simp) (hb hby at_61) (⟨rfl, N27⟩) (by decide) (by decide)
    · skip
      refine go (fun _ => XS.ifNo X0.here hx rfl (hb hby at_15) rfl ((if0 _ _).trans (feq c24).1)) ?_
      show Run p e below _ (T0.setTop (mkF m 18 #[.val (.int p0), .val (.int p1), .val (.int (1 : Int32)), .unset, .unset] []))
      refine go (fun _ => XS.iconst X0.here hx rfl (hb hby at_18)) ?_
      show Run p e below _ (T0.setTop (mkF m 19 #[.val (.int p0), .val (.int p1), .val (.int (1 : Int32)), .unset, .unset] [(.int (1 : Int32))]))
      refine go (fun _ => XS.goto X0.here hx rfl (pc0 := 19) (pc' := 23) rfl (hb hby at_19) (by decide) (by decide)) ?_
      show Run p e below _ (T0.setTop (mkF m 23 #[.val (.int p0), .val (.int p1), .val (.int (1 : Int32)), .unset, .unset] [(.int (1 : Int32))]))
      refine go (fun _ => XS.istoreN X0.here hx rfl (hb hby at_23) rfl (l' := #[.val (.int p0), .val (.int p1), .val (.int (1 : Int32)), .val (.int (1 : Int32)), .unset]) rfl) ?_
      show Run p e below _ (T0.setTop (mkF m 24 #[.val (.int p0), .val (.int p1), .val (.int (1 : Int32)), .val (.int (1 : Int32)), .unset] []))
      refine go (fun _ => XS.iloadN X0.here hx rfl (hb hby at_24) rfl) ?_
      show Run p e below _ (T0.setTop (mkF m 25 #[.val (.int p0), .val (.int p1), .val (.int (1 : Int32)), .val (.int (1 : Int32)), .unset] [(.int (1 : Int32))]))
      refine go (fun _ => XS.iloadN X0.here hx rfl (hb hby at_25) rfl) ?_
      show Run p e below _ (T0.setTop (mkF m 26 #[.val (.int p0), .val (.int p1), .val (.int (1 : Int32)), .val (.int (1 : Int32)), .unset] [(.int (1 : Int32)), (.int (1 : Int32))]))
      refine callSt X0 hx hZ hown (wd hw 0 rfl) (wd hw 1 rfl) (wd hw 2 rfl) (wd hw 3 rfl) (by decide) e0 (argsL := [(.int (1 : Int32)), (.int (1 : Int32))]) (rest := []) (rm_of l Z a0 hw [] (1 : Int32) (1 : Int32) wN wL wR wB h0 n0 O0 SwN SwL SwR SwB) (W := 0) (by decide) (by decide) (by decide) (by decide) (by rw [hml]; rfl) (lenOf pd_0 rfl) rfl (by decide) (hb hby at_26) ?_
      intro v28 T28 L28 h28 X28 e28 q28
      obtain ⟨rv, n28, k28⟩ := q28
      replace rv : v28 = some (.ref wB) := by simpa [ofV] using rv
      subst rv
      have e28 := e28.trans k28
      have N28 := Fr.app N0 n28
      show Run p e below _ (T28.setTop (mkF m 29 #[.val (.int p0), .val (.int p1), .val (.int (1 : Int32)), .val (.int (1 : Int32)), .unset] [(.ref wB)]))
      refine go (fun _ => XS.astore X28.here hx rfl (hb hby at_29) rfl rfl (l' := #[.val (.int p0), .val (.int p1), .val (.int (1 : Int32)), .val (.int (1 : Int32)), .val (.ref wB)]) rfl) ?_
      show Run p e below _ (T28.setTop (mkF m 31 #[.val (.int p0), .val (.int p1), .val (.int (1 : Int32)), .val (.int (1 : Int32)), .val (.ref wB)] []))
      refine go (fun _ => XS.aload X28.here hx rfl (hb hby at_31) rfl rfl) ?_
      show Run p e below _ (T28.setTop (mkF m 33 #[.val (.int p0), .val (.int p1), .val (.int (1 : Int32)), .val (.int (1 : Int32)), .val (.ref wB)] [(.ref wB)]))
      refine go (fun _ => XS.ifnonnullYes X28.here hx rfl (pc0 := 33) (pc' := 38) rfl (hb hby at_33) rfl (by decide) (by decide)) ?_
      show Run p e below _ (T28.setTop (mkF m 38 #[.val (.int p0), .val (.int p1), .val (.int (1 : Int32)), .val (.int (1 : Int32)), .val (.ref wB)] []))
      refine go (fun _ => XS.aload X28.here hx rfl (hb hby at_38) rfl rfl) ?_
      show Run p e below _ (T28.setTop (mkF m 40 #[.val (.int p0), .val (.int p1), .val (.int (1 : Int32)), .val (.int (1 : Int32)), .val (.ref wB)] [(.ref wB)]))
      refine callVi X28 hx hZ hown (wd hw 6 rfl) (wd hw 7 rfl) (notFace_of_selects (args := #[]) (mvT hZ (wd hw 9 rfl))) (wd hw 9 rfl) (wd hw 8 rfl) (wd hw 10 rfl) (wd hw 2 rfl) (by decide) e28 (EwB.ext O0.2) (argsL := []) (rest := []) (rm_changedList l Z a0 hw [] wB wN wL wR wB h0 n0 O0 SwN SwL SwR SwB) (W := 0) (by decide) (by decide) (by decide) (by decide) (by rw [hml]; rfl) (lenOf pd_1 rfl) rfl (by decide) (hb hby at_40) ?_
      intro v29 T29 L29 h29 X29 e29 q29
      obtain ⟨rv, n29, k29⟩ := q29
      replace rv : v29 = some (.int 1) := by simpa [hNL, hNR, hNB, hLR, hLB, hRB, hNL.symm, hLR.symm, hNR.symm, hNB.symm, hLB.symm, hRB.symm] using rv
      subst rv
      have e29 := e29.trans k29
      have N29 := Fr.app N28 n29
      show Run p e below _ (T29.setTop (mkF m 43 #[.val (.int p0), .val (.int p1), .val (.int (1 : Int32)), .val (.int (1 : Int32)), .val (.ref wB)] [(.int (1 : Int32))]))
      refine go (fun _ => XS.iloadN X29.here hx rfl (hb hby at_43) rfl) ?_
      show Run p e below _ (T29.setTop (mkF m 44 #[.val (.int p0), .val (.int p1), .val (.int (1 : Int32)), .val (.int (1 : Int32)), .val (.ref wB)] [(.int (1 : Int32)), (.int (1 : Int32))]))
      refine go (fun _ => XS.icmpNo X29.here hx rfl (hb hby at_44) rfl (teq (by decide : (1 : Int32) = 1)).2) ?_
      show Run p e below _ (T29.setTop (mkF m 47 #[.val (.int p0), .val (.int p1), .val (.int (1 : Int32)), .val (.int (1 : Int32)), .val (.ref wB)] []))
      refine go (fun _ => XS.aload X29.here hx rfl (hb hby at_47) rfl rfl) ?_
      show Run p e below _ (T29.setTop (mkF m 49 #[.val (.int p0), .val (.int p1), .val (.int (1 : Int32)), .val (.int (1 : Int32)), .val (.ref wB)] [(.ref wB)]))
      refine callVi X29 hx hZ hown (wd hw 15 rfl) (wd hw 16 rfl) (notFace_of_selects (args := #[]) (mvT hZ (wd hw 18 rfl))) (wd hw 18 rfl) (wd hw 17 rfl) (wd hw 19 rfl) (wd hw 2 rfl) (by decide) e29 (EwB.ext O0.2) (argsL := []) (rest := []) (rm_changedRegion l Z a0 hw [] wB wN wL wR wB h0 n0 O0 SwN SwL SwR SwB) (W := 0) (by decide) (by decide) (by decide) (by decide) (by rw [hml]; rfl) (lenOf pd_1 rfl) rfl (by decide) (hb hby at_49) ?_
      intro v30 T30 L30 h30 X30 e30 q30
      obtain ⟨rv, n30, k30⟩ := q30
      replace rv : v30 = some (.int 1) := by simpa [hNL, hNR, hNB, hLR, hLB, hRB, hNL.symm, hLR.symm, hNR.symm, hNB.symm, hLB.symm, hRB.symm] using rv
      subst rv
      have e30 := e30.trans k30
      have N30 := Fr.app N29 n30
      show Run p e below _ (T30.setTop (mkF m 52 #[.val (.int p0), .val (.int p1), .val (.int (1 : Int32)), .val (.int (1 : Int32)), .val (.ref wB)] [(.int (1 : Int32))]))
      refine go (fun _ => XS.iloadN X30.here hx rfl (hb hby at_52) rfl) ?_
      show Run p e below _ (T30.setTop (mkF m 53 #[.val (.int p0), .val (.int p1), .val (.int (1 : Int32)), .val (.int (1 : Int32)), .val (.ref wB)] [(.int (1 : Int32)), (.int (1 : Int32))]))
      refine go (fun _ => XS.icmpNo X30.here hx rfl (hb hby at_53) rfl (teq (by decide : (1 : Int32) = 1)).2) ?_
      show Run p e below _ (T30.setTop (mkF m 56 #[.val (.int p0), .val (.int p1), .val (.int (1 : Int32)), .val (.int (1 : Int32)), .val (.ref wB)] []))
      refine go (fun _ => XS.iconst X30.here hx rfl (hb hby at_56)) ?_
      show Run p e below _ (T30.setTop (mkF m 57 #[.val (.int p0), .val (.int p1), .val (.int (1 : Int32)), .val (.int (1 : Int32)), .val (.ref wB)] [(.int (1 : Int32))]))
      refine go (fun _ => XS.goto X30.here hx rfl (pc0 := 57) (pc' := 61) rfl (hb hby at_57) (by decide) (by decide)) ?_
      show Run p e below _ (T30.setTop (mkF m 61 #[.val (.int p0), .val (.int p1), .val (.int (1 : Int32)), .val (.int (1 : Int32)), .val (.ref wB)] [(.int (1 : Int32))]))
      exact endN X30 hx hlk (t := .boolean) hret (by simp) (hb hby at_61) (⟨rfl, N30⟩) (by decide) (by decide)
set_option maxRecDepth 65536 in
set_option maxHeartbeats 40000000 in
theorem comes_1 {Post : Tables → Env → Array Value → State → Outcome → State → Prop} (hpost : ∀ tb e args s v u, (limb_1_1.after args s (.returned v) u = true ∧ limb_1_2.after args s (.returned v) u = true ∧ True) → FrameEnd s (.returned v) u (Jvm.fieldLocs frame_1_writes args s ++ Jvm.arrayLocs frame_1_arrays args s ++ Jvm.staticLocs frame_1_statics s) 0 0 → Post tb e args s (.returned v) u) :
    ArmFor flags0 classFile x code maxLocals ret World_1 tables_1 room_1 Calls_1 rest_1 Pre_1 Post := by
  intro l hfl _ _ p e ha hc hk s m args below hf hA hF happ hP
  obtain ⟨hcalls, hrest, hpre⟩ := hP
  obtain ⟨-, -, -, hnamed, -, -, -, hat⟩ := (Spec.applies_iff hf).mp happ
  obtain ⟨hg, hn⟩ := and_e (Cond.before_iff.mp (show (Jvm.Cond.and given_1 narrow_1).before args s = true from hpre))
  obtain ⟨h1, hg⟩ := and_e hg
  obtain ⟨g0, hg⟩ := and_e hg
  have g1 := hg
  obtain ⟨w0, w1, rfl⟩ : ∃ w0 w1 : Value, args = #[w0, w1] := by
    have hs : args.size = 2 := by simpa [Cond.value, given_1] using h1
    obtain ⟨L⟩ := args
    match L, hs with
    | [w0, w1], _ => exact ⟨w0, w1, rfl⟩
  have hw := fun d (hd : d ∈ tables_1) => atoms_spec (ws := Jvm.Cond.code x code maxLocals ret :: tables_1) hat d (List.mem_cons_of_mem _ hd)
  have hfit : Fit s := fun {y c} hc i hi => by
    obtain ⟨ha, rfl⟩ := Array.getElem?_eq_some_iff.mp hc
    have q := List.all_eq_true.mp ((Array.all_eq_true_iff_forall_mem.mp hF) _ (Array.getElem_mem ha)) i (List.mem_range.mpr hi)
    simpa [Array.getElem?_eq_getElem hi] using q
  obtain ⟨i0, ev0⟩ := is_v g0
  obtain rfl : w0 = (.int i0) := Option.some.inj ev0
  obtain ⟨i1, ev1⟩ := is_v g1
  obtain rfl : w1 = (.int i1) := Option.some.inj ev1
  obtain ⟨k0, hn⟩ := and_e hn
  obtain ⟨k1, hn⟩ := and_e hn
  obtain ⟨k2, hn⟩ := and_e hn
  obtain ⟨k3, hn⟩ := and_e hn
  obtain ⟨k4, hn⟩ := and_e hn
  obtain ⟨k5, hn⟩ := and_e hn
  obtain ⟨k6, hn⟩ := and_e hn
  have k7 := hn
  obtain ⟨wR, evwR, SwR, EwR⟩ := sta_exa (n := "REGION") (wd hw 2 rfl) (wd hw 5 rfl) k0
  obtain ⟨wL, evwL, SwL, EwL⟩ := sta_exa (n := "LIST") (wd hw 2 rfl) (wd hw 12 rfl) k1
  obtain ⟨wB, evwB, SwB, EwB⟩ := sta_exa (n := "LIST_AND_REGION") (wd hw 2 rfl) (wd hw 14 rfl) k4
  obtain ⟨wN, evwN, SwN, EwN⟩ := sta_exa (n := "NOTHING") (wd hw 2 rfl) (wd hw 21 rfl) k6
  have FwR := fld_int evwR k2
  have FwL := fld_int evwL k3
  have FwB := fld_int evwB k5
  have FwN := fld_int evwN k7
  obtain ⟨n, o, h1, h2, h3, _, L, rfl, ⟨rfl, N⟩, hq⟩ := rmlaw l s _ hw tables_1 i0 i1 wN wL wR wB s.heap s.heap.size (Old.start s) SwN SwL SwR SwB EwN EwL EwR EwB (Fld.ne FwN FwL (by decide)) (Fld.ne FwN FwR (by decide)) (Fld.ne FwN FwB (by decide)) (Fld.ne FwL FwR (by decide)) (Fld.ne FwL FwB (by decide)) (Fld.ne FwR FwB (by decide)) p e ha hc hk s m _ below hf ((Spec.applies_iff_loose hf).mp happ).1 ⟨rfl, State.Warmed39.refl s, rfl⟩ trivial
  refine ⟨n, _, h1, h2, h3, hpost _ _ _ _ _ _ ⟨Cond.after_iff.mpr rfl, Cond.after_iff.mpr (eq_i res_at (Term.int_eval (1)) rfl), trivial⟩ ⟨hq.1, hq.2.1, (hq.2.2.sift fun y hy => Or.inr (N y hy)).mono (by decide) (by decide)⟩⟩
theorem main_1_1 : Claimed_1_1 := comes_1 fun _ _ _ _ _ _ h hF => ⟨h.1, hF⟩
theorem main_1_2 : Claimed_1_2 := comes_1 fun _ _ _ _ _ _ h hF => ⟨h.2.1, hF⟩
end Jvm.Pilot.@@N@@
namespace Jvm.Pilot.@@N@@
open Jvm Jvm.ClassFile Sem Op Lib Jvm.Free Jvm.Stand Jvm.Pilot.@@N@@.Jvm.D
/-! MADE BY PROGRAM (witnessworld.py) out of the Statement's table words and the real class files: 12 classes; the members and pool entries that the words name. The judged class is class 1, her method 1. -/
namespace start1
open Jvm.ClassFile
def u (s : String) : CpInfo := .utf8 (stringToUtf16 s)
/-- a pool by its gaps: so many unusable entries, then the entry; so many at the end -/
def gap : Nat → List CpInfo → List CpInfo
  | 0, r => r
  | n + 1, r => .unusable :: gap n r
def poolList (es : List (Nat × CpInfo)) (last : Nat) : List CpInfo := es.foldr (fun e r => gap e.1 (e.2 :: r)) (gap last [])
def pool (es : List (Nat × CpInfo)) (last : Nat) : Array CpInfo := ⟨poolList es last⟩
def fileOf (pool : Array CpInfo) (this : Nat) (attrs : Array Attribute := #[]) (ms : Array MethodInfo := #[]) (fl : Nat := 33) (sup : Nat := 0) (ifs : Array Nat := #[]) (fds : Array FieldInfo := #[]) : ClassFile where
  minorVersion := 0
  majorVersion := 65
  constantPool := pool
  accessFlags := fl
  thisClass := this
  superClass := sup
  interfaces := ifs
  fields := fds
  methods := ms
  attributes := attrs
def plain (name : String) (sup : Option ClassId) : Class where
  name := name
  kind := .ordinary
  loader := none
  accessFlags := 33
  super := sup
  interfaces := #[]
  cf := none
  fields := #[]
  methods := #[]
  instanceTypes := #[]
  staticTypes := #[]
  resolved := #[]
  callSites := []
  init := .initialized
  statics := none
  mirror := none

def pool0 : Array CpInfo := pool [(5, u "<init>"), (0, u "()V"), (1, .class_ 10), (1, u "java/lang/Object")] 113

def k0m0 : Method := { name := "<init>", desc := "()V", sig := { parameters := [], returnType := none }, accessFlags := 1, code := none }
/-- java/lang/Object -/
def k0 : Class := { plain "java/lang/Object" none with
  accessFlags := 33
  interfaces := #[]
  cf := some (fileOf pool0 8 #[] #[{ accessFlags := 1, nameIndex := 5, descriptorIndex := 6, attributes := #[] }] 33 0 #[] #[])
  fields := #[]
  methods := #[k0m0]
  instanceTypes := #[]
  staticTypes := #[]
  resolved := Array.replicate 124 none
  statics := none }

def pool1 : Array CpInfo := pool [(2, .class_ 4), (1, u "java/lang/Object"), (0, u "<init>"), (0, u "()V"), (0, .methodref 8 9), (0, .class_ 10), (0, .nameAndType 11 12), (0, u "nearcast/engine/ListWork$Moved"), (0, u "of"), (0, u "(ZZ)Lnearcast/engine/ListWork$Moved;"), (0, .methodref 8 14), (0, .nameAndType 15 16), (0, u "changedList"), (0, u "()Z"), (0, .methodref 8 18), (0, .nameAndType 19 16), (0, u "changedRegion"), (0, .class_ 21), (0, u "nearcast/engine/MovedOfPinLaw"), (2, u "law"), (0, u "(II)Z")] 7

def k1m0 : Method := { name := "<init>", desc := "()V", sig := { parameters := [], returnType := none }, accessFlags := 1, code := none }
def k1c1 : Code := { maxStack := 2, maxLocals := 5, code := code, exceptionTable := #[], attributes := #[] }
def k1m1 : Method := { name := "law", desc := "(II)Z", sig := { parameters := [.int, .int], returnType := some .boolean }, accessFlags := 9, code := some k1c1 }
/-- nearcast/engine/MovedOfPinLaw -/
def k1 : Class := { plain "nearcast/engine/MovedOfPinLaw" (some 0) with
  accessFlags := 49
  interfaces := #[]
  cf := some (fileOf pool1 20 #[] #[{ accessFlags := 1, nameIndex := 5, descriptorIndex := 6, attributes := #[] }, { accessFlags := 9, nameIndex := 24, descriptorIndex := 25, attributes := #[] }] 49 2 #[] #[])
  fields := #[]
  methods := #[k1m0, k1m1]
  instanceTypes := #[]
  staticTypes := #[]
  resolved := Array.replicate 33 none
  statics := none }

def pool2 : Array CpInfo := pool [(1, .class_ 2), (0, u "java/lang/constant/Constable"), (0, .class_ 4), (0, u "java/lang/Object")] 6

/-- java/lang/constant/Constable -/
def k2 : Class := { plain "java/lang/constant/Constable" (some 0) with
  accessFlags := 1537
  interfaces := #[]
  cf := some (fileOf pool2 1 #[] #[] 1537 3 #[] #[])
  fields := #[]
  methods := #[]
  instanceTypes := #[]
  staticTypes := #[]
  resolved := Array.replicate 11 none
  statics := none }

def pool3 : Array CpInfo := pool [(1, .class_ 2), (0, u "java/lang/Comparable"), (0, .class_ 4), (0, u "java/lang/Object")] 7

/-- java/lang/Comparable -/
def k3 : Class := { plain "java/lang/Comparable" (some 0) with
  accessFlags := 1537
  interfaces := #[]
  cf := some (fileOf pool3 1 #[] #[] 1537 3 #[] #[])
  fields := #[]
  methods := #[]
  instanceTypes := #[]
  staticTypes := #[]
  resolved := Array.replicate 12 none
  statics := none }

def pool4 : Array CpInfo := pool [(1, .class_ 2), (0, u "java/io/Serializable"), (0, .class_ 4), (0, u "java/lang/Object")] 2

/-- java/io/Serializable -/
def k4 : Class := { plain "java/io/Serializable" (some 0) with
  accessFlags := 1537
  interfaces := #[]
  cf := some (fileOf pool4 1 #[] #[] 1537 3 #[] #[])
  fields := #[]
  methods := #[]
  instanceTypes := #[]
  staticTypes := #[]
  resolved := Array.replicate 7 none
  statics := none }

def pool5 : Array CpInfo := pool [(2, .class_ 4), (1, u "java/lang/Enum"), (0, u "name"), (0, u "Ljava/lang/String;"), (2, u "ordinal"), (0, u "I"), (1, .class_ 14), (1, u "java/lang/Object"), (4, u "hash"), (86, .class_ 108), (1, u "java/lang/Enum$EnumDesc"), (2, .class_ 112), (0, u "java/lang/constant/Constable"), (0, .class_ 114), (0, u "java/lang/Comparable"), (0, .class_ 116), (0, u "java/io/Serializable")] 87

/-- java/lang/Enum -/
def k5 : Class := { plain "java/lang/Enum" (some 0) with
  accessFlags := 1057
  interfaces := #[2, 3, 4]
  cf := some (fileOf pool5 2 #[.nestMembers #[106]] #[] 1057 12 #[111, 113, 115] #[{ accessFlags := 18, nameIndex := 5, descriptorIndex := 6, attributes := #[] }, { accessFlags := 18, nameIndex := 9, descriptorIndex := 10, attributes := #[] }, { accessFlags := 2, nameIndex := 19, descriptorIndex := 10, attributes := #[] }])
  fields := #[{ name := "name", type := (.object "java/lang/String"), accessFlags := 18, slot := 0, constantValue := 0 }, { name := "ordinal", type := .int, accessFlags := 18, slot := 1, constantValue := 0 }, { name := "hash", type := .int, accessFlags := 2, slot := 2, constantValue := 0 }]
  methods := #[]
  instanceTypes := #[(.object "java/lang/String"), .int, .int]
  staticTypes := #[]
  resolved := Array.replicate 204 none
  statics := none }

def pool6 : Array CpInfo := pool [(1, .class_ 2), (0, u "nearcast/engine/ListWork$Moved"), (0, .fieldref 1 4), (0, .nameAndType 5 6), (0, u "NOTHING"), (0, u "Lnearcast/engine/ListWork$Moved;"), (0, .fieldref 1 8), (0, .nameAndType 9 6), (0, u "LIST"), (0, .fieldref 1 11), (0, .nameAndType 12 6), (0, u "REGION"), (0, .fieldref 1 14), (0, .nameAndType 15 6), (0, u "LIST_AND_REGION"), (2, u "$VALUES"), (0, u "[Lnearcast/engine/ListWork$Moved;"), (6, .class_ 28), (1, u "java/lang/Enum"), (22, u "of"), (0, u "(ZZ)Lnearcast/engine/ListWork$Moved;"), (1, u "changedList"), (0, u "()Z"), (0, u "changedRegion"), (5, .class_ 63), (0, u "nearcast/engine/ListWork")] 2

def k6c0 : Code := { maxStack := 1, maxLocals := 3, code := prog_58_method_4_code, exceptionTable := #[], attributes := #[] }
def k6m0 : Method := { name := "of", desc := "(ZZ)Lnearcast/engine/ListWork$Moved;", sig := { parameters := [.boolean, .boolean], returnType := some (.object "nearcast/engine/ListWork$Moved") }, accessFlags := 8, code := some k6c0 }
def k6c1 : Code := { maxStack := 2, maxLocals := 1, code := prog_58_method_5_code, exceptionTable := #[], attributes := #[] }
def k6m1 : Method := { name := "changedList", desc := "()Z", sig := { parameters := [], returnType := some .boolean }, accessFlags := 0, code := some k6c1 }
def k6c2 : Code := { maxStack := 2, maxLocals := 1, code := prog_58_method_6_code, exceptionTable := #[], attributes := #[] }
def k6m2 : Method := { name := "changedRegion", desc := "()Z", sig := { parameters := [], returnType := some .boolean }, accessFlags := 0, code := some k6c2 }
/-- nearcast/engine/ListWork$Moved -/
def k6 : Class := { plain "nearcast/engine/ListWork$Moved" (some 5) with
  accessFlags := 16432
  interfaces := #[]
  cf := some (fileOf pool6 1 #[.nestHost 62] #[{ accessFlags := 8, nameIndex := 51, descriptorIndex := 52, attributes := #[] }, { accessFlags := 0, nameIndex := 54, descriptorIndex := 55, attributes := #[] }, { accessFlags := 0, nameIndex := 56, descriptorIndex := 55, attributes := #[] }] 16432 26 #[] #[{ accessFlags := 16409, nameIndex := 5, descriptorIndex := 6, attributes := #[] }, { accessFlags := 16409, nameIndex := 9, descriptorIndex := 6, attributes := #[] }, { accessFlags := 16409, nameIndex := 12, descriptorIndex := 6, attributes := #[] }, { accessFlags := 16409, nameIndex := 15, descriptorIndex := 6, attributes := #[] }, { accessFlags := 4122, nameIndex := 18, descriptorIndex := 19, attributes := #[] }])
  fields := #[{ name := "NOTHING", type := (.object "nearcast/engine/ListWork$Moved"), accessFlags := 16409, slot := 0, constantValue := 0 }, { name := "LIST", type := (.object "nearcast/engine/ListWork$Moved"), accessFlags := 16409, slot := 1, constantValue := 0 }, { name := "REGION", type := (.object "nearcast/engine/ListWork$Moved"), accessFlags := 16409, slot := 2, constantValue := 0 }, { name := "LIST_AND_REGION", type := (.object "nearcast/engine/ListWork$Moved"), accessFlags := 16409, slot := 3, constantValue := 0 }, { name := "$VALUES", type := (.array (.object "nearcast/engine/ListWork$Moved")), accessFlags := 4122, slot := 4, constantValue := 0 }]
  methods := #[k6m0, k6m1, k6m2]
  instanceTypes := #[(.object "java/lang/String"), .int, .int]
  staticTypes := #[(.object "nearcast/engine/ListWork$Moved"), (.object "nearcast/engine/ListWork$Moved"), (.object "nearcast/engine/ListWork$Moved"), (.object "nearcast/engine/ListWork$Moved"), (.array (.object "nearcast/engine/ListWork$Moved"))]
  resolved := Array.replicate 66 none
  statics := some 0 }

def pool7 : Array CpInfo := pool [(1, u "java/lang/Cloneable"), (0, .class_ 1), (0, u "java/lang/Object"), (0, .class_ 3)] 3

/-- java/lang/Cloneable -/
def k7 : Class := { plain "java/lang/Cloneable" (some 0) with
  accessFlags := 1537
  interfaces := #[]
  cf := some (fileOf pool7 2 #[] #[] 1537 4 #[] #[])
  fields := #[]
  methods := #[]
  instanceTypes := #[]
  staticTypes := #[]
  resolved := Array.replicate 8 none
  statics := none }

/-- the primitive byte -/
def k8 : Class := { plain "byte" none with kind := .primitive 'B', accessFlags := 0x411 }
/-- [B -/
def k9 : Class := { plain "[B" (some 0) with kind := .array 8 .byte, interfaces := #[7, 4], accessFlags := 1041 }

/-- the primitive int -/
def k10 : Class := { plain "int" none with kind := .primitive 'I', accessFlags := 0x411 }
/-- [I -/
def k11 : Class := { plain "[I" (some 0) with kind := .array 10 .int, interfaces := #[7, 4], accessFlags := 1041 }

def heap : Heap := #[{ cls := 6, slots := #[.ref 1, .ref 2, .ref 3, .ref 4, .null], vm := .statics 6 },
  { cls := 6, slots := #[.null, .int 0, .int 0], vm := .none },
  { cls := 6, slots := #[.null, .int 1, .int 0], vm := .none },
  { cls := 6, slots := #[.null, .int 2, .int 0], vm := .none },
  { cls := 6, slots := #[.null, .int 3, .int 0], vm := .none }]
def classes : Array Class := #[k0, k1, k2, k3, k4, k5, k6, k7, k8, k9, k10, k11]
def interned : List (Array UInt16 × Addr) := []
def slotsUsed : Nat := 17
def theMethod : MethodId := ⟨1, 1⟩
def args0 : Array Value := #[.int 1, .int 2]
def aboutOver (below : List Frame) : State where
  vm := { classes := classes, interned := interned.toArray }
  heap := heap
  slotsUsed := slotsUsed
  threads := #[{ frames := .invoking theMethod args0 :: below }]
def below0 : List Frame := [.native { method := ⟨0, 0⟩, args := #[] }]
def about1 : State := aboutOver below0
def p0 : Program := .bare "" "" ""
def e0 : Env := launch0.env 0 0 0
theorem w_frames : about1.frames = Frame.invoking theMethod args0 :: below0 := rfl
set_option maxRecDepth 65536 in
theorem w_args : argsFit about1.vm theMethod args0 = true := by decide +kernel
set_option maxRecDepth 65536 in
theorem w_heap : heapFits about1 = true := by decide +kernel
set_option maxRecDepth 65536 in
theorem w_runnable : about1.curStatus? = some .runnable := by decide +kernel
set_option maxRecDepth 65536 in
theorem w_alone : about1.alone = true := by decide +kernel
set_option maxRecDepth 65536 in
theorem w_named : about1.methodNamed? x = some theMethod := by decide +kernel
set_option maxRecDepth 65536 in
theorem w_hears : about1.hears theMethod below0 = true := by decide +kernel
set_option maxRecDepth 65536 in
theorem w_ripe : about1.ripe theMethod args0 below0 = true := by decide +kernel
theorem w_running : about1.status = .running := rfl
set_option maxRecDepth 65536 in
theorem w_room : about1.hasRoom e0.platform room_1 = true :=
  launch0.hasRoom_least _ room_1 (by decide +kernel) (by decide +kernel) (by decide +kernel) (by decide +kernel) (by decide +kernel) (by decide +kernel)
theorem allAtoms_all (ts : List Jvm.Cond) (a : Array Jvm.Value) (st : Jvm.State) : (allAtoms ts).before a st = ts.all (fun c => c.before a st) := by
  induction ts with
  | nil => rfl
  | cons c t ih =>
    show (Jvm.Cond.and c (allAtoms t)).before a st = _
    rw [Jvm.Cond.before_and, ih, List.all_cons]
def words1 : List Jvm.Cond := Jvm.Cond.code x code maxLocals ret :: tables_1
/-- a 'code' word, met by the world's own term for the bytes: nothing is compared byte by byte -/
theorem code_word {y : MethodName} {bytes : ByteArray} {mx : Nat} {rt : Option FieldType} {a : Array Value} {s : State} {m : MethodId} {meth : Method} {c : Code} (h1 : s.methodNamed? y = some m) (h2 : s.vm.method? m = some meth) (h3 : meth.code = some c) (h4 : c.code = bytes)
    (h5 : (c.maxLocals == mx && c.exceptionTable.isEmpty && decide (c.maxStack ≤ mostOperands) && decide (meth.sig.returnType = rt) && !meth.locks && decide (parseMethodDescriptor y.desc = some meth.sig)) = true) : (Jvm.Cond.code y bytes mx rt).before a s = true := by
  simp only [Bool.and_eq_true, beq_iff_eq, Bool.not_eq_true', decide_eq_true_eq] at h5
  obtain ⟨⟨⟨⟨⟨g1, g2⟩, g3⟩, g4⟩, g5⟩, g6⟩ := h5
  simp [Cond.before, Cond.holds, Cond.value, h1, h2, h3, h4, g1, g2, g3, g4, g5, g6]
def isCode : Jvm.Cond → Bool
  | .code _ _ _ _ => true
  | _ => false
theorem all_split {L : List Jvm.Cond} {P : Jvm.Cond → Bool} (h1 : L.all (fun c => isCode c || P c) = true) (h2 : ∀ c ∈ L.filter isCode, P c = true) : L.all P = true := by
  refine List.all_eq_true.mpr fun c hc => ?_
  have h := List.all_eq_true.mp h1 c hc
  rcases Bool.eq_false_or_eq_true (isCode c) with hi | hi
  · exact h2 c (List.mem_filter.mpr ⟨hc, hi⟩)
  · simpa [hi] using h
set_option maxRecDepth 65536 in
theorem w_c0 : (Jvm.Cond.code x code maxLocals ret).before args0 about1 = true := code_word (m := ⟨1, 1⟩) (meth := k1m1) (c := k1c1) (by decide +kernel) rfl rfl rfl (by decide +kernel)
set_option maxRecDepth 65536 in
theorem w_c1 : (Jvm.Cond.code ({ cls := "nearcast/engine/ListWork$Moved", name := "of", desc := "(ZZ)Lnearcast/engine/ListWork$Moved;" } : Jvm.MethodName) prog_58_method_4_code (3 : Nat) (Option.some (Jvm.ClassFile.FieldType.object "nearcast/engine/ListWork$Moved"))).before args0 about1 = true := code_word (m := ⟨6, 0⟩) (meth := k6m0) (c := k6c0) (by decide +kernel) rfl rfl rfl (by decide +kernel)
set_option maxRecDepth 65536 in
theorem w_c2 : (Jvm.Cond.code ({ cls := "nearcast/engine/ListWork$Moved", name := "changedList", desc := "()Z" } : Jvm.MethodName) prog_58_method_5_code (1 : Nat) (Option.some Jvm.ClassFile.FieldType.boolean)).before args0 about1 = true := code_word (m := ⟨6, 1⟩) (meth := k6m1) (c := k6c1) (by decide +kernel) rfl rfl rfl (by decide +kernel)
set_option maxRecDepth 65536 in
theorem w_c3 : (Jvm.Cond.code ({ cls := "nearcast/engine/ListWork$Moved", name := "changedRegion", desc := "()Z" } : Jvm.MethodName) prog_58_method_6_code (1 : Nat) (Option.some Jvm.ClassFile.FieldType.boolean)).before args0 about1 = true := code_word (m := ⟨6, 2⟩) (meth := k6m2) (c := k6c2) (by decide +kernel) rfl rfl rfl (by decide +kernel)
def codes1 : List Jvm.Cond := [Jvm.Cond.code x code maxLocals ret, Jvm.Cond.code ({ cls := "nearcast/engine/ListWork$Moved", name := "of", desc := "(ZZ)Lnearcast/engine/ListWork$Moved;" } : Jvm.MethodName) prog_58_method_4_code (3 : Nat) (Option.some (Jvm.ClassFile.FieldType.object "nearcast/engine/ListWork$Moved")), Jvm.Cond.code ({ cls := "nearcast/engine/ListWork$Moved", name := "changedList", desc := "()Z" } : Jvm.MethodName) prog_58_method_5_code (1 : Nat) (Option.some Jvm.ClassFile.FieldType.boolean), Jvm.Cond.code ({ cls := "nearcast/engine/ListWork$Moved", name := "changedRegion", desc := "()Z" } : Jvm.MethodName) prog_58_method_6_code (1 : Nat) (Option.some Jvm.ClassFile.FieldType.boolean)]
set_option maxRecDepth 65536 in
theorem codes_eq : words1.filter isCode = codes1 := rfl
theorem w_codes : ∀ c ∈ words1.filter isCode, c.before args0 about1 = true := by
  rw [codes_eq]
  intro c hc
  simp only [codes1, List.mem_cons, List.not_mem_nil, or_false] at hc
  rcases hc with rfl | rfl | rfl | rfl
  · exact w_c0
  · exact w_c1
  · exact w_c2
  · exact w_c3
set_option maxRecDepth 65536 in
theorem w_t1 : words1.all (fun c => isCode c || c.before args0 about1) = true := by decide +kernel
theorem w_tables : (allAtoms (Jvm.Cond.code x code maxLocals ret :: tables_1)).before args0 about1 = true := by
  rw [allAtoms_all]
  show words1.all (fun c => c.before args0 about1) = true
  refine all_split ?_ w_codes
  rw [w_t1]
set_option maxRecDepth 65536 in
theorem w_case : (Jvm.Cond.and given_1 narrow_1).before args0 about1 = true := by decide +kernel
theorem w_applies : (headSpec (Jvm.Cond.code x code maxLocals ret :: tables_1) room_1).applies x e0.platform about1 = true :=
  (Spec.applies_iff w_frames).mpr ⟨w_running, w_runnable, w_alone, w_named, w_hears, w_ripe, w_room, w_tables⟩
theorem atStart : AtStart classFile x code maxLocals ret World_1 tables_1 room_1 Calls_1 rest_1 Pre_1 launch0 p0 e0 about1 theMethod args0 below0 :=
  ⟨lists_1, trivial, launch0.admits_env _ _ _, launch0.least_env, fairChoices_fair.cas, fairChoices_fair.clock, w_frames, w_args, w_heap, w_applies, trivial, trivial, w_case⟩
end start1
theorem witness_1 : WitnessClaimed_1 := ⟨start1.p0, start1.e0, start1.about1, start1.theMethod, start1.args0, start1.below0, start1.atStart⟩
end Jvm.Pilot.@@N@@
