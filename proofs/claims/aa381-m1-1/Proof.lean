import JvmDerived
import JvmDerived.Pilot.@@N@@Statement
import JvmDerived.Pilot.@@N@@Code
set_option linter.unusedVariables false
set_option linter.unusedSimpArgs false
namespace Jvm.Pilot.@@N@@
open Jvm Jvm.ClassFile Sem Op Lib Jvm.Free Jvm.Stand Jvm.LawKit Jvm.RoadKit Bundle Jvm.Pilot.@@N@@.Jvm.D
section Own
variable {p : Program} {l : Launch} {e : Env} {R : Room} {s : State} {m : MethodId} {args : Array Value} {below : List Frame} {meth : Method} {c : Code} {T : State} {locs : List Loc} {cells slots : Nat} {Z : State} {a0 : Array Value} {h : Heap}
theorem wd (hw : ∀ d ∈ tables_1, d.before a0 Z = true) (k : Nat) {d : Jvm.Cond} (q : tables_1[k]? = some d) : d.before a0 Z = true := hw d (List.mem_of_getElem? q)
theorem old_sz {n0 : Nat} (O : Old Z n0 h) : n0 ≤ h.size := O.1 ▸ O.2.1
/-- what is left to show from the state t on -/
def Run (p : Program) (e : Env) (below : List Frame) (A : Outcome → State → Prop) (t : State) : Prop := ∃ u o, Steps p.tables e below t u ∧ u.status = .running ∧ Ended u below o ∧ A o u
theorem go {A : Outcome → State → Prop} {t t' : State} (st : ∀ u, Steps p.tables e below t' u → Steps p.tables e below t u) (k : Run p e below A t') : Run p e below A t := by
  obtain ⟨u, o, k1, k2⟩ := k
  exact ⟨u, o, st u k1, k2⟩
theorem goT {A : Outcome → State → Prop} {t t' : State} (st : Steps p.tables e below t t') (k : Run p e below A t') : Run p e below A t := by
  obtain ⟨u, o, k1, k2⟩ := k
  exact ⟨u, o, st.trans k1, k2⟩
def Ends (s : State) (Q : Option Value → Heap → List Loc → Prop) (k n : Nat) (o : Outcome) (U : State) : Prop := ∃ v L, o = .returned v ∧ Q v U.heap L ∧ FrameEnd s o U L k n
def Meets (l : Launch) (y : MethodName) (bytes : ByteArray) (maxL : Nat) (ret : Option FieldType) (ws : List Jvm.Cond) (rm : Room) (Z : State) (as' : Array Value) (h0 : Heap) (Q : Option Value → Heap → List Loc → Prop) (k n : Nat) : Prop :=
  MetFree l y (head1 (Jvm.Cond.code y bytes maxL ret :: ws) rm) (fun a U => a = as' ∧ Z.Warmed39 U.vm ∧ U.heap = h0) (fun _ _ _ _ _ => True) (fun _ U o U' => ∃ v L, o = .returned v ∧ Q v U'.heap L ∧ FrameEnd U o U' L k n)
theorem enter {y : MethodName} {bytes : ByteArray} {maxL : Nat} {ret : Option FieldType} {ws : List Jvm.Cond} {rm : Room} {as' : Array Value} {h0 : Heap} {Q : Option Value → Heap → List Loc → Prop} {k n : Nat} {Ls : Array Slot} (pf : plainFor y = true) (ef : ∀ m, entryFrame m as' maxL = mkF m 0 Ls [])
    (body : ∀ (p : Program) (e : Env) (s : State) (m : MethodId) (below : List Frame) (meth : Method) (c : Code) (T : State), p.tables.exec = Jvm.exec → c.code = bytes → c.maxLocals = maxL → s.vm.findClass y.cls = some m.cls → meth.name = y.name → meth.sig.returnType = ret → meth.locks = false → Z.Warmed39 s.vm → Stand p l e rm s m as' below meth c T [] 0 0 → T.heap = h0 → Run p e below (Ends s Q k n) (T.setTop (mkF m 0 Ls []))) :
    Meets l y bytes maxL ret ws rm Z as' h0 Q k n := by
  refine MetFree.of_bodySF pf hisR ?_
  intro p e s m args below meth c s₁ Bd hml0 hP hK
  obtain ⟨rfl, hZ, hh⟩ := hP
  obtain ⟨u, o, k1, k2, k3, k4⟩ := body p e s m below meth c s₁ Bd.exec Bd.bytes hml0 (findClass_of_methodNamed Bd.named) (name_of_methodNamed Bd.named Bd.method).1 Bd.returns (BodyLoose.notSynchronized Bd) hZ (Stand.of_body Bd) (by rw [← hh, Bd.state]; rfl)
  exact ⟨u, o, castTop (ef m) k1, k2, k3, k4⟩
theorem smono (X : Stand p l e R s m args below meth c T locs cells slots) {k n : Nat} (hk : cells ≤ k) (hn : slots ≤ n) : Stand p l e R s m args below meth c T locs k n :=
  ⟨X.admits, X.cas, X.clock, X.frames, X.room, X.hears, X.method, X.code, X.here, X.tail, X.warmed, X.limits, X.bytes, X.same.mono hk hn⟩
theorem retI (X : Stand p l e R s m args below meth c T locs cells slots) (hx : p.tables.exec = Jvm.exec) {pc : Nat} {Ls : Array Slot} {z : Int32} {rest : List Value} (hret : meth.sig.returnType = some .int) (hd : decode c.code pc = .ok (.ireturn, 1)) {fs : List Frame}
    (hl : ∀ (f : JFrame) (acts : List Action), f.method = m → f.locked = none → f.entered = [] → (doReturn e (T.setTop f) acts (some (.int z))).1 = T.setFrames fs) : Steps p.tables e below (T.setTop (mkF m pc Ls (.int z :: rest))) (T.setFrames fs) :=
  retOut X hx hret rfl (Or.inl ⟨rfl, Or.inl rfl, _, rfl⟩) hd hl
theorem endI (X : Stand p l e R s m args below meth c T locs cells slots) (hx : p.tables.exec = Jvm.exec) (hlk : meth.locks = false) {Q : Option Value → Heap → List Loc → Prop} {k n pc : Nat} {Ls : Array Slot} {z : Int32} {rest : List Value} (hret : meth.sig.returnType = some .int) (hd : decode c.code pc = .ok (.ireturn, 1)) (hq : Q (some (.int z)) T.heap locs) (hk : cells ≤ k) (hn : slots ≤ n) :
    Run p e below (Ends s Q k n) (T.setTop (mkF m pc Ls (.int z :: rest))) := by
  obtain ⟨fs, hr, hrun, hended, hW, hsame⟩ := X.leave (v := some (.int z)) (fun h => by rw [hret] at h; cases h) hlk
  exact ⟨_, _, retI X hx hret hd hr, hrun, hended, _, _, rfl, hq, ⟨_, rfl⟩, hW, hsame.mono hk hn⟩
theorem endN (X : Stand p l e R s m args below meth c T locs cells slots) (hx : p.tables.exec = Jvm.exec) (hlk : meth.locks = false) {Q : Option Value → Heap → List Loc → Prop} {k n pc : Nat} {Ls : Array Slot} {z : Int32} {rest : List Value} {t : FieldType} (hret : meth.sig.returnType = some t) (ht : t = .boolean ∨ t = .byte ∨ t = .char ∨ t = .short) (hd : decode c.code pc = .ok (.ireturn, 1)) (hq : Q (some (.int (nar t z))) T.heap locs) (hk : cells ≤ k) (hn : slots ≤ n) :
    Run p e below (Ends s Q k n) (T.setTop (mkF m pc Ls (.int z :: rest))) := by
  obtain ⟨fs, hr, hrun, hended, hW, hsame⟩ := X.leave (v := some (.int (nar t z))) (fun h => by rw [hret] at h; cases h) hlk
  exact ⟨_, _, retN X hx hret ht hd hr, hrun, hended, _, _, rfl, hq, ⟨_, rfl⟩, hW, hsame.mono hk hn⟩
theorem endA (X : Stand p l e R s m args below meth c T locs cells slots) (hx : p.tables.exec = Jvm.exec) (hlk : meth.locks = false) {Q : Option Value → Heap → List Loc → Prop} {k n pc : Nat} {Ls : Array Slot} {w : Value} {rest : List Value} {t : FieldType} (hret : meth.sig.returnType = some t) (ht : t.isReference = true) (hv : w.isRef = true) (hd : decode c.code pc = .ok (.areturn, 1)) (hq : Q (some w) T.heap locs) (hk : cells ≤ k) (hn : slots ≤ n) :
    Run p e below (Ends s Q k n) (T.setTop (mkF m pc Ls (w :: rest))) := by
  obtain ⟨fs, hr, hrun, hended, hW, hsame⟩ := X.leave (v := some w) (fun h => by rw [hret] at h; cases h) hlk
  have hn' : narrow t w = w := by cases w <;> first | (cases hv; done) | (cases t <;> first | rfl | (cases ht; done))
  exact ⟨_, _, retOut X hx hret hn' (Or.inr (Or.inr (Or.inr (Or.inr ⟨rfl, ht, hv⟩)))) hd hr, hrun, hended, _, _, rfl, hq, ⟨_, rfl⟩, hW, hsame.mono hk hn⟩
theorem endJ (X : Stand p l e R s m args below meth c T locs cells slots) (hx : p.tables.exec = Jvm.exec) (hlk : meth.locks = false) {Q : Option Value → Heap → List Loc → Prop} {k n pc : Nat} {Ls : Array Slot} {z : Int64} {rest : List Value} (hret : meth.sig.returnType = some .long) (hd : decode c.code pc = .ok (.lreturn, 1)) (hq : Q (some (.long z)) T.heap locs) (hk : cells ≤ k) (hn : slots ≤ n) :
    Run p e below (Ends s Q k n) (T.setTop (mkF m pc Ls (.long z :: rest))) := by
  obtain ⟨fs, hr, hrun, hended, hW, hsame⟩ := X.leave (v := some (.long z)) (fun h => by rw [hret] at h; cases h) hlk
  exact ⟨_, _, retOut X hx hret rfl (Or.inr (Or.inl ⟨rfl, rfl, _, rfl⟩)) hd hr, hrun, hended, _, _, rfl, hq, ⟨_, rfl⟩, hW, hsame.mono hk hn⟩
theorem endD (X : Stand p l e R s m args below meth c T locs cells slots) (hx : p.tables.exec = Jvm.exec) (hlk : meth.locks = false) {Q : Option Value → Heap → List Loc → Prop} {k n pc : Nat} {Ls : Array Slot} {z : UInt64} {rest : List Value} (hret : meth.sig.returnType = some .double) (hd : decode c.code pc = .ok (.dreturn, 1)) (hq : Q (some (.double z)) T.heap locs) (hk : cells ≤ k) (hn : slots ≤ n) :
    Run p e below (Ends s Q k n) (T.setTop (mkF m pc Ls (.double z :: rest))) := by
  obtain ⟨fs, hr, hrun, hended, hW, hsame⟩ := X.leave (v := some (.double z)) (fun h => by rw [hret] at h; cases h) hlk
  exact ⟨_, _, retOut X hx hret rfl (Or.inr (Or.inr (Or.inl ⟨rfl, rfl, _, rfl⟩))) hd hr, hrun, hended, _, _, rfl, hq, ⟨_, rfl⟩, hW, hsame.mono hk hn⟩
theorem endV (X : Stand p l e R s m args below meth c T locs cells slots) (hx : p.tables.exec = Jvm.exec) (hlk : meth.locks = false) {Q : Option Value → Heap → List Loc → Prop} {k n pc : Nat} {Ls : Array Slot} (hret : meth.sig.returnType = none) (hd : decode c.code pc = .ok (.return_, 1)) (hq : Q none T.heap locs) (hk : cells ≤ k) (hn : slots ≤ n) :
    Run p e below (Ends s Q k n) (T.setTop (mkF m pc Ls [])) := by
  obtain ⟨fs, hr, hrun, hended, hW, hsame⟩ := X.leave (v := none) (fun _ => rfl) hlk
  exact ⟨_, _, X.returnOut hx hret hd hr, hrun, hended, _, _, rfl, hq, ⟨_, rfl⟩, hW, hsame.mono hk hn⟩
abbrev Pay (l : Launch) (R : Room) (p : Program) (e : Env) (below : List Frame) (s : State) (args : Array Value) (y : MethodName) (len W : Nat) (as' : Array Value) (h : Heap) (Q : Option Value → Heap → List Loc → Prop) (rc rs : Nat) : Prop :=
  Back l R p e below s args y len W (fun A a => a = as' ∧ A.U.heap = h ∧ A.cells + rc ≤ R.cells ∧ A.slots + rs ≤ R.slots) (fun A _ v B => ∃ L, Q v B.U.heap L ∧ B.locs = A.locs ++ L ∧ B.cells = A.cells + rc ∧ B.slots = A.slots + rs)
theorem Pay.more {y : MethodName} {len W rc rs rs' : Nat} {as' : Array Value} {Q : Option Value → Heap → List Loc → Prop} (hK : Pay l R p e below s args y len W as' h Q rc rs) (q : rs ≤ rs') : Pay l R p e below s args y len W as' h Q rc rs' := fun m meth c A g ig mk a X hg hsz hd hW hn hp => by
  obtain ⟨v, B, X', ⟨L, q1, q2, q3, q4⟩, st⟩ := hK m meth c A g ig mk a X hg hsz hd hW hn ⟨hp.1, hp.2.1, hp.2.2.1, Nat.le_trans (Nat.add_le_add_left q _) hp.2.2.2⟩
  exact ⟨v, (B.U, B.locs, B.cells, A.slots + rs'), smono X' (Nat.le_refl _) (by rw [q4]; exact Nat.add_le_add_left q _), ⟨L, q1, q2, q3, rfl⟩, st⟩
theorem narR {v : Value} {C : String} (h : v.isRef = true) : narrow (.object C) v = v := by cases v <;> first | rfl | (cases h; done)
theorem fitR {v : Value} {C : String} (h : v.isRef = true) : fits (.object C) v = true := by cases v <;> first | rfl | (cases h; done)
theorem callSt (X : Stand p l e R s m args below meth c T locs cells slots) (hx : p.tables.exec = Jvm.exec) (hZ : Z.Warmed39 s.vm) {own : String} {index : Nat} {y : MethodName} {bytes : ByteArray} {maxL : Nat} {ret : Option FieldType} {rm : Room} {Q : Option Value → Heap → List Loc → Prop} (hown : s.vm.findClass own = some m.cls)
    (w1 : (Jvm.Cond.methodLink own index y).before a0 Z = true) (w2 : (Jvm.Cond.static y).before a0 Z = true) (w3 : (Jvm.Cond.initialized y.cls).before a0 Z = true) (w4 : (Jvm.Cond.code y bytes maxL ret).before a0 Z = true) (hy : y.cls ≠ "java/lang/invoke/MethodHandle" ∧ y.cls ≠ "java/lang/invoke/VarHandle") (eT : T.heap = h) {argsL rest : List Value}
    (hM : Meets l y bytes maxL ret [] rm Z argsL.toArray h Q rm.cells rm.slots) {W : Nat} (hf : rm.frames + 1 ≤ R.frames) (hl : W + (maxL + 11) + rm.locals ≤ R.locals) (hc : cells + rm.cells ≤ R.cells) (hn : slots + rm.slots ≤ R.slots)
    {pc : Nat} {Ls : Array Slot} {st : List Value} (hsize : Ls.size = c.maxLocals) (hlen : ∀ sig, parseMethodDescriptor y.desc = some sig → argsL.length = sig.parameters.length) (hst : st = argsL.reverse ++ rest) (hW : (rest.map fun v => v.category).sum ≤ W) (hd : decode c.code pc = .ok (.invokestatic index, 3)) {A : Outcome → State → Prop}
    (kk : ∀ (v : Option Value) (T' : State) (L : List Loc) (h' : Heap), Stand p l e R s m args below meth c T' (locs ++ L) (cells + rm.cells) (slots + rm.slots) → T'.heap = h' → Q v h' L → Run p e below A (T'.setTop (mkF m (pc + 3) Ls (v.toList ++ rest)))) : Run p e below A (T.setTop (mkF m pc Ls st)) := by
  obtain ⟨v, _, ⟨T18, L18, k18, n18⟩, -, X18, ⟨Lc18, hQ18, l18, y18, z18⟩, st18⟩ := Jvm.LawKit.callS X hx hown (mvT hZ w1) (mvT hZ w2) (mvT hZ w3) (mvT hZ w4) hy (backOf (W := W) hM hZ w4 w3 hf hl) (g := mkF m pc Ls st) rfl hsize (argsL := argsL) (rest := rest) hlen hst (by show 2 * 0 + _ ≤ _; omega) hd (fun _ _ => ⟨rfl, eT, hc, hn⟩)
  dsimp only [Pt.U, Pt.locs, Pt.cells, Pt.slots] at X18 l18 y18 z18 st18 hQ18
  subst l18 y18 z18
  exact go st18 (kk v _ _ _ X18 rfl hQ18)
theorem callVi (X : Stand p l e R s m args below meth c T locs cells slots) (hx : p.tables.exec = Jvm.exec) (hZ : Z.Warmed39 s.vm) {own C : String} {index : Nat} {y z : MethodName} {bytes : ByteArray} {maxL : Nat} {ret : Option FieldType} {rm : Room} {Q : Option Value → Heap → List Loc → Prop} (hown : s.vm.findClass own = some m.cls)
    (w1 : (Jvm.Cond.methodLink own index y).before a0 Z = true) (w2 : (Jvm.Cond.declares y).before a0 Z = true) (nf : NotFace s y) (w5 : (Jvm.Cond.selects C y z).before a0 Z = true) (w6 : (Jvm.Cond.instanceMethod z).before a0 Z = true) (w4 : (Jvm.Cond.code z bytes maxL ret).before a0 Z = true) (w3 : (Jvm.Cond.initialized z.cls).before a0 Z = true) (hy : y.cls ≠ "java/lang/invoke/MethodHandle" ∧ y.cls ≠ "java/lang/invoke/VarHandle") (eT : T.heap = h) {a : Addr} (E : Exa Z h a C) {argsL rest : List Value}
    (hM : Meets l z bytes maxL ret [] rm Z (.ref a :: argsL).toArray h Q rm.cells rm.slots) {W : Nat} (hf : rm.frames + 1 ≤ R.frames) (hl : W + (maxL + 11) + rm.locals ≤ R.locals) (hc : cells + rm.cells ≤ R.cells) (hn : slots + rm.slots ≤ R.slots)
    {pc : Nat} {Ls : Array Slot} {st : List Value} (hsize : Ls.size = c.maxLocals) (hlen : ∀ sig, parseMethodDescriptor y.desc = some sig → argsL.length = sig.parameters.length) (hst : st = argsL.reverse ++ .ref a :: rest) (hW : (rest.map fun v => v.category).sum ≤ W) (hd : decode c.code pc = .ok (.invokevirtual index, 3)) {A : Outcome → State → Prop}
    (kk : ∀ (v : Option Value) (T' : State) (L : List Loc) (h' : Heap), Stand p l e R s m args below meth c T' (locs ++ L) (cells + rm.cells) (slots + rm.slots) → T'.heap = h' → Q v h' L → Run p e below A (T'.setTop (mkF m (pc + 3) Ls (v.toList ++ rest)))) : Run p e below A (T.setTop (mkF m pc Ls st)) := by
  obtain ⟨cq, kq, qa, qb, qc⟩ := isOf hZ eT E
  obtain ⟨v, _, ⟨T18, L18, k18, n18⟩, -, X18, ⟨Lc18, hQ18, l18, y18, z18⟩, st18⟩ := X.virtualBack hx (y := y) (z := z) hown (mvT hZ w1) (mvT hZ w2) nf (mvT hZ w5) (mvT hZ w6) hy (backOf (W := W) hM hZ w4 w3 hf hl) qa qc (g := mkF m pc Ls st) rfl hsize (Steps.refl _) (argsL := argsL) (rest := rest) hlen hst (by show 2 * 0 + _ ≤ _; omega) hd (fun _ _ => ⟨rfl, eT, hc, hn⟩)
  dsimp only [Pt.U, Pt.locs, Pt.cells, Pt.slots] at X18 l18 y18 z18 st18 hQ18
  subst l18 y18 z18
  exact goT st18 (kk v _ _ _ X18 rfl hQ18)
theorem callSp (X : Stand p l e R s m args below meth c T locs cells slots) (hx : p.tables.exec = Jvm.exec) (hZ : Z.Warmed39 s.vm) {own : String} {index : Nat} {y : MethodName} (hy1 : y.name = "<init>") {bytes : ByteArray} {maxL : Nat} {rm : Room} {Q : Option Value → Heap → List Loc → Prop} (hown : s.vm.findClass own = some m.cls)
    (w1 : (Jvm.Cond.methodLink own index y).before a0 Z = true) (w6 : (Jvm.Cond.instanceMethod y).before a0 Z = true) (w4 : (Jvm.Cond.code y bytes maxL none).before a0 Z = true) (w3 : (Jvm.Cond.initialized y.cls).before a0 Z = true) (hy : y.cls ≠ "java/lang/invoke/MethodHandle" ∧ y.cls ≠ "java/lang/invoke/VarHandle") (eT : T.heap = h) {a : Addr} {argsL rest : List Value}
    (hM : Meets l y bytes maxL none [] rm Z (.ref a :: argsL).toArray h Q rm.cells rm.slots) {W : Nat} (hf : rm.frames + 1 ≤ R.frames) (hl : W + (maxL + 11) + rm.locals ≤ R.locals) (hc : cells + rm.cells ≤ R.cells) (hn : slots + rm.slots ≤ R.slots)
    {pc : Nat} {Ls : Array Slot} {st : List Value} (hsize : Ls.size = c.maxLocals) (hlen : ∀ sig, parseMethodDescriptor y.desc = some sig → argsL.length = sig.parameters.length) (hst : st = argsL.reverse ++ .ref a :: rest) (hW : (rest.map fun v => v.category).sum ≤ W) (hd : decode c.code pc = .ok (.invokespecial index, 3)) {A : Outcome → State → Prop}
    (kk : ∀ (v : Option Value) (T' : State) (L : List Loc) (h' : Heap), Stand p l e R s m args below meth c T' (locs ++ L) (cells + rm.cells) (slots + rm.slots) → T'.heap = h' → Q v h' L → Run p e below A (T'.setTop (mkF m (pc + 3) Ls (v.toList ++ rest)))) : Run p e below A (T.setTop (mkF m pc Ls st)) := by
  obtain ⟨v, _, ⟨T18, L18, k18, n18⟩, -, X18, ⟨Lc18, hQ18, l18, y18, z18⟩, st18⟩ := X.specialBack hx (y := y) hy1 hown (mvT hZ w1) (mvT hZ w6) (mvT hZ w4) hy (backOf (W := W) hM hZ w4 w3 hf hl) (g := mkF m pc Ls st) rfl hsize (Steps.refl _) (a := a) (argsL := argsL) (rest := rest) hlen hst (by show 2 * 0 + _ ≤ _; omega) hd (fun _ _ => ⟨rfl, eT, hc, hn⟩)
  dsimp only [Pt.U, Pt.locs, Pt.cells, Pt.slots] at X18 l18 y18 z18 st18 hQ18
  subst l18 y18 z18
  exact goT st18 (kk v _ _ _ X18 rfl hQ18)
theorem callPr (X : Stand p l e R s m args below meth c T locs cells slots) (hx : p.tables.exec = Jvm.exec) (hZ : Z.Warmed39 s.vm) {own C : String} {index : Nat} {y : MethodName} {bytes : ByteArray} {maxL : Nat} {ret : Option FieldType} {rm : Room} {Q : Option Value → Heap → List Loc → Prop} (hown : s.vm.findClass own = some m.cls)
    (w1 : (Jvm.Cond.methodLink own index y).before a0 Z = true) (w2 : (Jvm.Cond.privateMethod y).before a0 Z = true) (w5 : (Jvm.Cond.selects y.cls y y).before a0 Z = true) (w6 : (Jvm.Cond.instanceMethod y).before a0 Z = true) (w4 : (Jvm.Cond.code y bytes maxL ret).before a0 Z = true) (w3 : (Jvm.Cond.initialized y.cls).before a0 Z = true) (hy : y.cls ≠ "java/lang/invoke/MethodHandle" ∧ y.cls ≠ "java/lang/invoke/VarHandle") (eT : T.heap = h) {a : Addr} (E : Exa Z h a C) {argsL rest : List Value}
    (hM : Meets l y bytes maxL ret [] rm Z (.ref a :: argsL).toArray h Q rm.cells rm.slots) {W : Nat} (hf : rm.frames + 1 ≤ R.frames) (hl : W + (maxL + 11) + rm.locals ≤ R.locals) (hc : cells + rm.cells ≤ R.cells) (hn : slots + rm.slots ≤ R.slots)
    {pc : Nat} {Ls : Array Slot} {st : List Value} (hsize : Ls.size = c.maxLocals) (hlen : ∀ sig, parseMethodDescriptor y.desc = some sig → argsL.length = sig.parameters.length) (hst : st = argsL.reverse ++ .ref a :: rest) (hW : (rest.map fun v => v.category).sum ≤ W) (hd : decode c.code pc = .ok (.invokevirtual index, 3)) {A : Outcome → State → Prop}
    (kk : ∀ (v : Option Value) (T' : State) (L : List Loc) (h' : Heap), Stand p l e R s m args below meth c T' (locs ++ L) (cells + rm.cells) (slots + rm.slots) → T'.heap = h' → Q v h' L → Run p e below A (T'.setTop (mkF m (pc + 3) Ls (v.toList ++ rest)))) : Run p e below A (T.setTop (mkF m pc Ls st)) := by
  obtain ⟨cl, hcl, hob⟩ := Exa.cell E
  obtain ⟨v, _, ⟨T18, L18, k18, n18⟩, -, X18, ⟨Lc18, hQ18, l18, y18, z18⟩, st18⟩ := X.privateBack hx (y := y) hown (mvT hZ w1) (mvT hZ w6) (mvT hZ w5) (Cond.privateMethod_at (mvP hZ w2 (args := #[]))) (mvT hZ w4) hy (backOf (W := W) hM hZ w4 w3 hf hl) (g := mkF m pc Ls st) rfl hsize (Steps.refl _) (a := a) (by rw [eT]; exact hcl) hob (argsL := argsL) (rest := rest) hlen hst (by show 2 * 0 + _ ≤ _; omega) hd (fun _ _ => ⟨rfl, eT, hc, hn⟩)
  dsimp only [Pt.U, Pt.locs, Pt.cells, Pt.slots] at X18 l18 y18 z18 st18 hQ18
  subst l18 y18 z18
  exact goT st18 (kk v _ _ _ X18 rfl hQ18)
theorem callIf (X : Stand p l e R s m args below meth c T locs cells slots) (hx : p.tables.exec = Jvm.exec) (hZ : Z.Warmed39 s.vm) {own C : String} {index count : Nat} {y z : MethodName} {bytes : ByteArray} {maxL : Nat} {ret : Option FieldType} {rm : Room} {Q : Option Value → Heap → List Loc → Prop} (hown : s.vm.findClass own = some m.cls)
    (w1 : (Jvm.Cond.methodLink own index y).before a0 Z = true) (w2 : (Jvm.Cond.declares y).before a0 Z = true) (w7 : (Jvm.Cond.interfaceMethod y.cls y.cls y.name y.desc).before a0 Z = true) (k7 : ((Jvm.Cond.interfaceMethod y.cls y.cls y.name y.desc).onTables && (Jvm.Cond.interfaceMethod y.cls y.cls y.name y.desc).keepsFace) = true) (w5 : (Jvm.Cond.selects C y z).before a0 Z = true) (w6 : (Jvm.Cond.instanceMethod z).before a0 Z = true) (w8 : (Jvm.Cond.publicMethod z).before a0 Z = true) (w9 : (Jvm.Cond.unhidden C y.name y.desc).before a0 Z = true) (w10 : (Jvm.Cond.castable C y.cls).before a0 Z = true)
    (w4 : (Jvm.Cond.code z bytes maxL ret).before a0 Z = true) (w3 : (Jvm.Cond.initialized z.cls).before a0 Z = true) (hy : y.cls ≠ "java/lang/invoke/MethodHandle" ∧ y.cls ≠ "java/lang/invoke/VarHandle") (eT : T.heap = h) {a : Addr} (E : Exa Z h a C) {argsL rest : List Value}
    (hM : Meets l z bytes maxL ret [] rm Z (.ref a :: argsL).toArray h Q rm.cells rm.slots) {W : Nat} (hf : rm.frames + 1 ≤ R.frames) (hl : W + (maxL + 11) + rm.locals ≤ R.locals) (hc : cells + rm.cells ≤ R.cells) (hn : slots + rm.slots ≤ R.slots)
    {pc : Nat} {Ls : Array Slot} {st : List Value} (hsize : Ls.size = c.maxLocals) (hlen : ∀ sig, parseMethodDescriptor y.desc = some sig → argsL.length = sig.parameters.length) (hst : st = argsL.reverse ++ .ref a :: rest) (hW : (rest.map fun v => v.category).sum ≤ W) (hd : decode c.code pc = .ok (.invokeinterface index count, 5)) {A : Outcome → State → Prop}
    (kk : ∀ (v : Option Value) (T' : State) (L : List Loc) (h' : Heap), Stand p l e R s m args below meth c T' (locs ++ L) (cells + rm.cells) (slots + rm.slots) → T'.heap = h' → Q v h' L → Run p e below A (T'.setTop (mkF m (pc + 5) Ls (v.toList ++ rest)))) : Run p e below A (T.setTop (mkF m pc Ls st)) := by
  obtain ⟨cq, kq, qa, qb, qc⟩ := isOf hZ eT E
  obtain ⟨v, _, ⟨T18, L18, k18, n18⟩, -, X18, ⟨Lc18, hQ18, l18, y18, z18⟩, st18⟩ := X.interfaceBack hx (xi := y) (y := z) hown (mvT hZ w1) (mvT hZ w2) (mvT hZ w7 k7) (mvT hZ w5) (mvT hZ w6) (mvT hZ w8) (mvT hZ w9) (mvT hZ w10) hy (backOf (W := W) hM hZ w4 w3 hf hl) qa qb qc (g := mkF m pc Ls st) rfl hsize (Steps.refl _) (argsL := argsL) (rest := rest) hlen hst (by show 2 * 0 + _ ≤ _; omega) hd (fun _ _ => ⟨rfl, eT, hc, hn⟩)
  dsimp only [Pt.U, Pt.locs, Pt.cells, Pt.slots] at X18 l18 y18 z18 st18 hQ18
  subst l18 y18 z18
  exact goT st18 (kk v _ _ _ X18 rfl hQ18)
theorem callViK (X : Stand p l e R s m args below meth c T locs cells slots) (hx : p.tables.exec = Jvm.exec) (hZ : Z.Warmed39 s.vm) {own C : String} {index : Nat} {y z : MethodName} {Q : Option Value → Heap → List Loc → Prop} (hown : s.vm.findClass own = some m.cls)
    (w1 : (Jvm.Cond.methodLink own index y).before a0 Z = true) (w2 : (Jvm.Cond.declares y).before a0 Z = true) (nf : NotFace s y) (w5 : (Jvm.Cond.selects C y z).before a0 Z = true) (w6 : (Jvm.Cond.instanceMethod z).before a0 Z = true) (hy : y.cls ≠ "java/lang/invoke/MethodHandle" ∧ y.cls ≠ "java/lang/invoke/VarHandle") (eT : T.heap = h) {a : Addr} (E : Exa Z h a C) {argsL rest : List Value}
    {rc rs W : Nat} (hK : Pay l R p e below s args z 3 W (.ref a :: argsL).toArray h Q rc rs) (hc : cells + rc ≤ R.cells) (hn : slots + rs ≤ R.slots)
    {pc : Nat} {Ls : Array Slot} {st : List Value} (hsize : Ls.size = c.maxLocals) (hlen : ∀ sig, parseMethodDescriptor y.desc = some sig → argsL.length = sig.parameters.length) (hst : st = argsL.reverse ++ .ref a :: rest) (hW : (rest.map fun v => v.category).sum ≤ W) (hd : decode c.code pc = .ok (.invokevirtual index, 3)) {A : Outcome → State → Prop}
    (kk : ∀ (v : Option Value) (T' : State) (L : List Loc) (h' : Heap), Stand p l e R s m args below meth c T' (locs ++ L) (cells + rc) (slots + rs) → T'.heap = h' → Q v h' L → Run p e below A (T'.setTop (mkF m (pc + 3) Ls (v.toList ++ rest)))) : Run p e below A (T.setTop (mkF m pc Ls st)) := by
  obtain ⟨cq, kq, qa, qb, qc⟩ := isOf hZ eT E
  obtain ⟨v, _, ⟨T18, L18, k18, n18⟩, -, X18, ⟨Lc18, hQ18, l18, y18, z18⟩, st18⟩ := X.virtualBack hx (y := y) (z := z) hown (mvT hZ w1) (mvT hZ w2) nf (mvT hZ w5) (mvT hZ w6) hy hK qa qc (g := mkF m pc Ls st) rfl hsize (Steps.refl _) (argsL := argsL) (rest := rest) hlen hst (by show 2 * 0 + _ ≤ _; omega) hd (fun _ _ => ⟨rfl, eT, hc, hn⟩)
  dsimp only [Pt.U, Pt.locs, Pt.cells, Pt.slots] at X18 l18 y18 z18 st18 hQ18
  subst l18 y18 z18
  exact goT st18 (kk v _ _ _ X18 rfl hQ18)
theorem callSpK (X : Stand p l e R s m args below meth c T locs cells slots) (hx : p.tables.exec = Jvm.exec) (hZ : Z.Warmed39 s.vm) {own : String} {index : Nat} {y : MethodName} (hy1 : y.name = "<init>") {bytes : ByteArray} {maxL : Nat} {Q : Option Value → Heap → List Loc → Prop} (hown : s.vm.findClass own = some m.cls)
    (w1 : (Jvm.Cond.methodLink own index y).before a0 Z = true) (w6 : (Jvm.Cond.instanceMethod y).before a0 Z = true) (w4 : (Jvm.Cond.code y bytes maxL none).before a0 Z = true) (hy : y.cls ≠ "java/lang/invoke/MethodHandle" ∧ y.cls ≠ "java/lang/invoke/VarHandle") (eT : T.heap = h) {a : Addr} {argsL rest : List Value}
    {rc rs W : Nat} (hK : Pay l R p e below s args y 3 W (.ref a :: argsL).toArray h Q rc rs) (hc : cells + rc ≤ R.cells) (hn : slots + rs ≤ R.slots)
    {pc : Nat} {Ls : Array Slot} {st : List Value} (hsize : Ls.size = c.maxLocals) (hlen : ∀ sig, parseMethodDescriptor y.desc = some sig → argsL.length = sig.parameters.length) (hst : st = argsL.reverse ++ .ref a :: rest) (hW : (rest.map fun v => v.category).sum ≤ W) (hd : decode c.code pc = .ok (.invokespecial index, 3)) {A : Outcome → State → Prop}
    (kk : ∀ (v : Option Value) (T' : State) (L : List Loc) (h' : Heap), Stand p l e R s m args below meth c T' (locs ++ L) (cells + rc) (slots + rs) → T'.heap = h' → Q v h' L → Run p e below A (T'.setTop (mkF m (pc + 3) Ls (v.toList ++ rest)))) : Run p e below A (T.setTop (mkF m pc Ls st)) := by
  obtain ⟨v, _, ⟨T18, L18, k18, n18⟩, -, X18, ⟨Lc18, hQ18, l18, y18, z18⟩, st18⟩ := X.specialBack hx (y := y) hy1 hown (mvT hZ w1) (mvT hZ w6) (mvT hZ w4) hy hK (g := mkF m pc Ls st) rfl hsize (Steps.refl _) (a := a) (argsL := argsL) (rest := rest) hlen hst (by show 2 * 0 + _ ≤ _; omega) hd (fun _ _ => ⟨rfl, eT, hc, hn⟩)
  dsimp only [Pt.U, Pt.locs, Pt.cells, Pt.slots] at X18 l18 y18 z18 st18 hQ18
  subst l18 y18 z18
  exact goT st18 (kk v _ _ _ X18 rfl hQ18)
/-- no subclass, by the words of the one's superclasses and of the other's 'instantiable' -/
theorem ns_root {O K : String} {n : Nat} (w : (Jvm.Cond.noSuperclass O).before a0 Z = true) (wk : (Jvm.Cond.instantiable K n).before a0 Z = true) (hn : O ≠ K) : NS Z O K := by
  obtain ⟨c, k, h1, h2, h3, -, -⟩ := Cond.noSuperclass_spec w
  obtain ⟨t, kt, g1, -⟩ := Cond.instantiable_spec wk
  have ne := ids_ne h1 g1 hn
  refine ⟨c, t, h1, g1, fun fuel => ?_⟩
  cases fuel with
  | zero => rfl
  | succ f => simp [Vm.isSubclassAux, ne, h2, h3]
theorem ns_no {C S K : String} {n : Nat} (w : (Jvm.Cond.superclass C S).before a0 Z = true) (wk : (Jvm.Cond.instantiable K n).before a0 Z = true) (q : NS Z C K) (hn : C ≠ K) : ∃ c t, Z.vm.findClass C = some c ∧ Z.vm.findClass K = some t ∧ Z.vm.assignable c t = false := by
  obtain ⟨c, t, h0, g0, n3⟩ := q
  obtain ⟨p, k, kp, h1, h2, h3, h4, h5, -, h7⟩ := Cond.superclass_spec h0 w
  obtain ⟨t', kt, g1, g2, g3, g4, -⟩ := Cond.instantiable_spec wk
  cases g0.symm.trans g1
  have ne := ids_ne h0 g0 hn
  have g5 : kt.isInterface = false := by
    cases hi : kt.isInterface with
    | false => rfl
    | true => simp [hi] at g4
  refine ⟨c, t, h0, g0, ?_⟩
  show Z.vm.assignableAux (255 + 1) c t = false
  simp [Vm.assignableAux, ne, h2, g2, h5, g3, g5, Vm.isSubclass, n3]
/-- a static that holds an object of one class, out of the case's words -/
theorem sta_exa {C n d K : String} (w1 : (Jvm.Cond.initialized C).before a0 Z = true) (w2 : (Jvm.Cond.laysStatic C n d).before a0 Z = true) (hx : (Jvm.Cond.exactly (Jvm.Term.static C n d) K).value a0 Z none Z [] = some true) :
    ∃ a, (Jvm.Term.static C n d).eval a0 Z none [] Z = some (.ref a) ∧ Sta Z Z.heap C n d (.ref a) ∧ Exa Z Z.heap a K := by
  obtain ⟨a, ev⟩ := exa_v hx
  exact ⟨a, ev, Sta.start ev (Or.inr ⟨w1, w2⟩), Exa.start ev hx⟩
theorem fld_int {t : Jvm.Term} {a : Addr} {C n d : String} {k : Int32} (ev : t.eval a0 Z none [] Z = some (.ref a)) (hq : (Jvm.Cond.eq (Jvm.Term.field t C n d) (Jvm.Term.int k)).value a0 Z none Z [] = some true) : Fld Z Z.heap a C n d (.int k) := by
  refine Fld.start ?_
  have e1 : (Jvm.Term.field t C n d).eval a0 Z none [] Z = Z.fieldOf? a C n d := fld_at ev
  have e2 : (Jvm.Term.int k).eval a0 Z none [] Z = some (.int k) := Term.int_eval k
  simp only [Cond.value, e1, e2] at hq
  cases hf : Z.fieldOf? a C n d with
  | none => simp [hf] at hq
  | some x => cases x <;> simp [hf] at hq ⊢; exact hq
end Own
theorem d_p45_m2_0 : decode prog_45_method_2_code 0 = .ok (.aload_n 0, 1) := by decide +kernel
theorem d_p45_m2_1 : decode prog_45_method_2_code 1 = .ok (.invokespecial 9, 3) := by decide +kernel
theorem d_p45_m2_4 : decode prog_45_method_2_code 4 = .ok (.iload_n 1, 1) := by decide +kernel
theorem d_p45_m2_5 : decode prog_45_method_2_code 5 = .ok (.ifCond .lt 7, 3) := by decide +kernel
theorem d_p45_m2_8 : decode prog_45_method_2_code 8 = .ok (.iload_n 2, 1) := by decide +kernel
theorem d_p45_m2_9 : decode prog_45_method_2_code 9 = .ok (.ifCond .ge 18, 3) := by decide +kernel
theorem d_p45_m2_27 : decode prog_45_method_2_code 27 = .ok (.aload_n 0, 1) := by decide +kernel
theorem d_p45_m2_28 : decode prog_45_method_2_code 28 = .ok (.iload_n 1, 1) := by decide +kernel
theorem d_p45_m2_29 : decode prog_45_method_2_code 29 = .ok (.putfield 23, 3) := by decide +kernel
theorem d_p45_m2_32 : decode prog_45_method_2_code 32 = .ok (.aload_n 0, 1) := by decide +kernel
theorem d_p45_m2_33 : decode prog_45_method_2_code 33 = .ok (.iload_n 2, 1) := by decide +kernel
theorem d_p45_m2_34 : decode prog_45_method_2_code 34 = .ok (.putfield 27, 3) := by decide +kernel
theorem d_p45_m2_37 : decode prog_45_method_2_code 37 = .ok (.aload_n 0, 1) := by decide +kernel
theorem d_p45_m2_38 : decode prog_45_method_2_code 38 = .ok (.iload_n 3, 1) := by decide +kernel
theorem d_p45_m2_39 : decode prog_45_method_2_code 39 = .ok (.putfield 30, 3) := by decide +kernel
theorem d_p45_m2_42 : decode prog_45_method_2_code 42 = .ok (.return_, 1) := by decide +kernel
theorem pn_0 : plainName "com/example/lateral_guard/lateralguard/core/Radius" = true := by first | (simp [plainName, overriddenIn]; done) | decide +kernel
def Q_rm_i3 (Z : State) (a : Addr) (p1 p2 p3 : Int32) (h0 : Heap) (n0 : Nat) (v : Option Value) (h : Heap) (L : List Loc) : Prop := v = none ∧ Fr n0 L ∧ Keep h0 h [a] ∧ Exa Z h a "com/example/lateral_guard/lateralguard/core/Radius" ∧ Fld Z h a "com/example/lateral_guard/lateralguard/core/Radius" "up" "I" (.int p1) ∧ Fld Z h a "com/example/lateral_guard/lateralguard/core/Radius" "down" "I" (.int p2) ∧ Fld Z h a "com/example/lateral_guard/lateralguard/core/Radius" "flows" "Z" (.int p3)
set_option maxRecDepth 65536 in
set_option maxHeartbeats 40000000 in
theorem rm_i3 (l : Launch) (Z : State) (a0 : Array Value) (hw : ∀ d ∈ tables_1, d.before a0 Z = true) (ws : List Jvm.Cond) (a : Addr) (p1 p2 p3 : Int32) (h0 : Heap) (n0 : Nat) (O0 : Old Z n0 h0) (E_a : Exa Z h0 a "com/example/lateral_guard/lateralguard/core/Radius") (F_up_a : Fld Z h0 a "com/example/lateral_guard/lateralguard/core/Radius" "up" "I" (.int (0 : Int32))) (F_down_a : Fld Z h0 a "com/example/lateral_guard/lateralguard/core/Radius" "down" "I" (.int (0 : Int32))) (F_flows_a : Fld Z h0 a "com/example/lateral_guard/lateralguard/core/Radius" "flows" "Z" (.int (0 : Int32))) (g_a : n0 ≤ a) (hp1 : ¬ p1 < 0) (hp2 : ¬ p2 < 0) (hp3 : nar .boolean p3 = p3) :
    Meets l (⟨"com/example/lateral_guard/lateralguard/core/Radius", "<init>", "(IIZ)V"⟩ : MethodName) prog_45_method_2_code 4 none ws ({ frames := 1, cells := 0, slots := 0, locals := 12 } : Room) Z #[(.ref a), (.int p1), (.int p2), (.int p3)] h0 (Q_rm_i3 Z a p1 p2 p3 h0 n0) 0 0 := by
  refine enter (Ls := #[.val (.ref a), .val (.int p1), .val (.int p2), .val (.int p3)]) (plainFor_of_name pn_0) (fun m => by first | rfl | (simp [entryFrame, mkF, argsToLocals, Value.category]; done)) ?_
  intro p e s m below meth c T0 hx hby hml hown hnm hret hlk hZ X0 e0
  have N0 := Fr.nil n0
  replace hown : s.vm.findClass "com/example/lateral_guard/lateralguard/core/Radius" = some m.cls := hown
  show Run p e below _ (T0.setTop (mkF m 0 #[.val (.ref a), .val (.int p1), .val (.int p2), .val (.int p3)] []))
  have K0 := Keep.refl h0 [a]
  refine go (fun _ => XS.aloadN X0.here hx rfl (hb hby d_p45_m2_0) rfl rfl) ?_
  show Run p e below _ (T0.setTop (mkF m 1 #[.val (.ref a), .val (.int p1), .val (.int p2), .val (.int p3)] [(.ref a)]))
  obtain ⟨T1, X1, e1, st1⟩ := initO X0 hx hZ hown (wd hw 10 rfl) (wd hw 11 rfl) (wd hw 12 rfl) e0 (g := (mkF m 1 #[.val (.ref a), .val (.int p1), .val (.int p2), .val (.int p3)] [(.ref a)])) rfl (by rw [hml]; rfl) rfl (hb hby d_p45_m2_1) (by decide) (W := 0) (by show 2 * 0 + _ ≤ _; exact Nat.le_of_eq rfl) (by decide)
  refine go st1 ?_
  show Run p e below _ (T1.setTop (mkF m 4 #[.val (.ref a), .val (.int p1), .val (.int p2), .val (.int p3)] []))
  refine go (fun _ => XS.iloadN X1.here hx rfl (hb hby d_p45_m2_4) rfl) ?_
  show Run p e below _ (T1.setTop (mkF m 5 #[.val (.ref a), .val (.int p1), .val (.int p2), .val (.int p3)] [(.int p1)]))
  refine go (fun _ => XS.ifNo X1.here hx rfl (hb hby d_p45_m2_5) rfl ((if0 _ _).trans (flt hp1).1)) ?_
  show Run p e below _ (T1.setTop (mkF m 8 #[.val (.ref a), .val (.int p1), .val (.int p2), .val (.int p3)] []))
  refine go (fun _ => XS.iloadN X1.here hx rfl (hb hby d_p45_m2_8) rfl) ?_
  show Run p e below _ (T1.setTop (mkF m 9 #[.val (.ref a), .val (.int p1), .val (.int p2), .val (.int p3)] [(.int p2)]))
  refine go (fun _ => XS.ifYes X1.here hx rfl (pc0 := 9) (pc' := 27) rfl (hb hby d_p45_m2_9) rfl ((if0 _ _).trans (flt hp2).2.1) (by decide) (by decide)) ?_
  show Run p e below _ (T1.setTop (mkF m 27 #[.val (.ref a), .val (.int p1), .val (.int p2), .val (.int p3)] []))
  refine go (fun _ => XS.aloadN X1.here hx rfl (hb hby d_p45_m2_27) rfl rfl) ?_
  show Run p e below _ (T1.setTop (mkF m 28 #[.val (.ref a), .val (.int p1), .val (.int p2), .val (.int p3)] [(.ref a)]))
  refine go (fun _ => XS.iloadN X1.here hx rfl (hb hby d_p45_m2_28) rfl) ?_
  show Run p e below _ (T1.setTop (mkF m 29 #[.val (.ref a), .val (.int p1), .val (.int p2), .val (.int p3)] [(.int p1), (.ref a)]))
  obtain ⟨T2, h2, X2, e2, W2, st2⟩ := putF X1 hx hZ hown (host := "") (Or.inl (wd hw 13 rfl)) Via.refl e1 F_up_a E_a (Or.inr ⟨(wd hw 14 rfl), rfl, hnm⟩) (wd hw 2 rfl) (ty := .int) (by decide) rfl rfl (g := (mkF m 29 #[.val (.ref a), .val (.int p1), .val (.int p2), .val (.int p3)] [(.int p1), (.ref a)])) rfl rfl (hb hby d_p45_m2_29)
  have O0 := O0.wr W2 g_a
  have E_a := E_a.wr W2
  have F_up_a := F_up_a.same W2
  have F_down_a := F_down_a.other W2 (Or.inr (slot_ne (Or.inr (wd hw 16 rfl)) (Or.inr (wd hw 14 rfl)) (by decide) (t := .int) (t' := .int) (by decide) (by decide)))
  have F_flows_a := F_flows_a.other W2 (Or.inr (slot_ne (Or.inr (wd hw 18 rfl)) (Or.inr (wd hw 14 rfl)) (by decide) (t := .boolean) (t' := .int) (by decide) (by decide)))
  have K0 := K0.wr W2 (Or.inl (by simp))
  have N2 := Fr.snoc X2 N0 g_a
  refine go st2 ?_
  show Run p e below _ (T2.setTop (mkF m 32 #[.val (.ref a), .val (.int p1), .val (.int p2), .val (.int p3)] []))
  refine go (fun _ => XS.aloadN X2.here hx rfl (hb hby d_p45_m2_32) rfl rfl) ?_
  show Run p e below _ (T2.setTop (mkF m 33 #[.val (.ref a), .val (.int p1), .val (.int p2), .val (.int p3)] [(.ref a)]))
  refine go (fun _ => XS.iloadN X2.here hx rfl (hb hby d_p45_m2_33) rfl) ?_
  show Run p e below _ (T2.setTop (mkF m 34 #[.val (.ref a), .val (.int p1), .val (.int p2), .val (.int p3)] [(.int p2), (.ref a)]))
  obtain ⟨T3, h3, X3, e3, W3, st3⟩ := putF X2 hx hZ hown (host := "") (Or.inl (wd hw 15 rfl)) Via.refl e2 F_down_a E_a (Or.inr ⟨(wd hw 16 rfl), rfl, hnm⟩) (wd hw 2 rfl) (ty := .int) (by decide) rfl rfl (g := (mkF m 34 #[.val (.ref a), .val (.int p1), .val (.int p2), .val (.int p3)] [(.int p2), (.ref a)])) rfl rfl (hb hby d_p45_m2_34)
  have O0 := O0.wr W3 g_a
  have E_a := E_a.wr W3
  have F_up_a := F_up_a.other W3 (Or.inr (slot_ne (Or.inr (wd hw 14 rfl)) (Or.inr (wd hw 16 rfl)) (by decide) (t := .int) (t' := .int) (by decide) (by decide)))
  have F_down_a := F_down_a.same W3
  have F_flows_a := F_flows_a.other W3 (Or.inr (slot_ne (Or.inr (wd hw 18 rfl)) (Or.inr (wd hw 16 rfl)) (by decide) (t := .boolean) (t' := .int) (by decide) (by decide)))
  have K0 := K0.wr W3 (Or.inl (by simp))
  have N3 := Fr.snoc X3 N2 g_a
  refine go st3 ?_
  show Run p e below _ (T3.setTop (mkF m 37 #[.val (.ref a), .val (.int p1), .val (.int p2), .val (.int p3)] []))
  refine go (fun _ => XS.aloadN X3.here hx rfl (hb hby d_p45_m2_37) rfl rfl) ?_
  show Run p e below _ (T3.setTop (mkF m 38 #[.val (.ref a), .val (.int p1), .val (.int p2), .val (.int p3)] [(.ref a)]))
  refine go (fun _ => XS.iloadN X3.here hx rfl (hb hby d_p45_m2_38) rfl) ?_
  show Run p e below _ (T3.setTop (mkF m 39 #[.val (.ref a), .val (.int p1), .val (.int p2), .val (.int p3)] [(.int p3), (.ref a)]))
  obtain ⟨T4, h4, X4, e4, W4, st4⟩ := putFN X3 hx hZ hown (wd hw 17 rfl) Via.refl e3 F_flows_a E_a (Or.inr ⟨(wd hw 18 rfl), rfl, hnm⟩) (wd hw 2 rfl) (ty := .boolean) (v' := (.int (nar .boolean p3))) (by decide) rfl (fits_nar_bool _) (g := (mkF m 39 #[.val (.ref a), .val (.int p1), .val (.int p2), .val (.int p3)] [(.int p3), (.ref a)])) rfl rfl (hb hby d_p45_m2_39)
  have O0 := O0.wr W4 g_a
  have E_a := E_a.wr W4
  have F_up_a := F_up_a.other W4 (Or.inr (slot_ne (Or.inr (wd hw 14 rfl)) (Or.inr (wd hw 18 rfl)) (by decide) (t := .int) (t' := .boolean) (by decide) (by decide)))
  have F_down_a := F_down_a.other W4 (Or.inr (slot_ne (Or.inr (wd hw 16 rfl)) (Or.inr (wd hw 18 rfl)) (by decide) (t := .int) (t' := .boolean) (by decide) (by decide)))
  have F_flows_a := F_flows_a.same W4
  have K0 := K0.wr W4 (Or.inl (by simp))
  rw [hp3] at F_flows_a
  have N4 := Fr.snoc X4 N3 g_a
  refine go st4 ?_
  show Run p e below _ (T4.setTop (mkF m 42 #[.val (.ref a), .val (.int p1), .val (.int p2), .val (.int p3)] []))
  exact endV X4 hx hlk hret (hb hby d_p45_m2_42) (by rw [e4]; exact ⟨rfl, N4, K0, E_a, F_up_a, F_down_a, F_flows_a⟩) (by decide) (by decide)
theorem d_p45_m1_0 : decode prog_45_method_1_code 0 = .ok (.aload_n 0, 1) := by decide +kernel
theorem d_p45_m1_1 : decode prog_45_method_1_code 1 = .ok (.iload_n 1, 1) := by decide +kernel
theorem d_p45_m1_2 : decode prog_45_method_1_code 2 = .ok (.iload_n 2, 1) := by decide +kernel
theorem d_p45_m1_3 : decode prog_45_method_1_code 3 = .ok (.iconst 0, 1) := by decide +kernel
theorem d_p45_m1_4 : decode prog_45_method_1_code 4 = .ok (.invokespecial 3, 3) := by decide +kernel
theorem pd_0 : parseMethodDescriptor "(IIZ)V" = some ⟨[.int, .int, .boolean], none⟩ := by decide +kernel
theorem d_p45_m1_7 : decode prog_45_method_1_code 7 = .ok (.return_, 1) := by decide +kernel
def Q_rm_i2 (Z : State) (a : Addr) (p1 p2 : Int32) (h0 : Heap) (n0 : Nat) (v : Option Value) (h : Heap) (L : List Loc) : Prop := v = none ∧ Fr n0 L ∧ Keep h0 h [a] ∧ Exa Z h a "com/example/lateral_guard/lateralguard/core/Radius" ∧ Fld Z h a "com/example/lateral_guard/lateralguard/core/Radius" "up" "I" (.int p1) ∧ Fld Z h a "com/example/lateral_guard/lateralguard/core/Radius" "down" "I" (.int p2) ∧ Fld Z h a "com/example/lateral_guard/lateralguard/core/Radius" "flows" "Z" (.int (0 : Int32))
set_option maxRecDepth 65536 in
set_option maxHeartbeats 40000000 in
theorem rm_i2 (l : Launch) (Z : State) (a0 : Array Value) (hw : ∀ d ∈ tables_1, d.before a0 Z = true) (ws : List Jvm.Cond) (a : Addr) (p1 p2 : Int32) (h0 : Heap) (n0 : Nat) (O0 : Old Z n0 h0) (E_a : Exa Z h0 a "com/example/lateral_guard/lateralguard/core/Radius") (F_up_a : Fld Z h0 a "com/example/lateral_guard/lateralguard/core/Radius" "up" "I" (.int (0 : Int32))) (F_down_a : Fld Z h0 a "com/example/lateral_guard/lateralguard/core/Radius" "down" "I" (.int (0 : Int32))) (F_flows_a : Fld Z h0 a "com/example/lateral_guard/lateralguard/core/Radius" "flows" "Z" (.int (0 : Int32))) (g_a : n0 ≤ a) (hp1 : ¬ p1 < 0) (hp2 : ¬ p2 < 0) :
    Meets l (⟨"com/example/lateral_guard/lateralguard/core/Radius", "<init>", "(II)V"⟩ : MethodName) prog_45_method_1_code 3 none ws ({ frames := 2, cells := 0, slots := 0, locals := 27 } : Room) Z #[(.ref a), (.int p1), (.int p2)] h0 (Q_rm_i2 Z a p1 p2 h0 n0) 0 0 := by
  refine enter (Ls := #[.val (.ref a), .val (.int p1), .val (.int p2)]) (plainFor_of_name pn_0) (fun m => by first | rfl | (simp [entryFrame, mkF, argsToLocals, Value.category]; done)) ?_
  intro p e s m below meth c T0 hx hby hml hown hnm hret hlk hZ X0 e0
  have N0 := Fr.nil n0
  replace hown : s.vm.findClass "com/example/lateral_guard/lateralguard/core/Radius" = some m.cls := hown
  show Run p e below _ (T0.setTop (mkF m 0 #[.val (.ref a), .val (.int p1), .val (.int p2)] []))
  have K0 := Keep.refl h0 [a]
  refine go (fun _ => XS.aloadN X0.here hx rfl (hb hby d_p45_m1_0) rfl rfl) ?_
  show Run p e below _ (T0.setTop (mkF m 1 #[.val (.ref a), .val (.int p1), .val (.int p2)] [(.ref a)]))
  refine go (fun _ => XS.iloadN X0.here hx rfl (hb hby d_p45_m1_1) rfl) ?_
  show Run p e below _ (T0.setTop (mkF m 2 #[.val (.ref a), .val (.int p1), .val (.int p2)] [(.int p1), (.ref a)]))
  refine go (fun _ => XS.iloadN X0.here hx rfl (hb hby d_p45_m1_2) rfl) ?_
  show Run p e below _ (T0.setTop (mkF m 3 #[.val (.ref a), .val (.int p1), .val (.int p2)] [(.int p2), (.int p1), (.ref a)]))
  refine go (fun _ => XS.iconst X0.here hx rfl (hb hby d_p45_m1_3)) ?_
  show Run p e below _ (T0.setTop (mkF m 4 #[.val (.ref a), .val (.int p1), .val (.int p2)] [(.int (0 : Int32)), (.int p2), (.int p1), (.ref a)]))
  refine callSp X0 hx hZ rfl hown (wd hw 7 rfl) (wd hw 8 rfl) (wd hw 9 rfl) (wd hw 3 rfl) (by decide) e0 (a := a) (argsL := [(.int p1), (.int p2), (.int (0 : Int32))]) (rest := []) (rm_i3 l Z a0 hw [] a p1 p2 (0 : Int32) h0 n0 O0 E_a F_up_a F_down_a F_flows_a g_a hp1 hp2 rfl) (W := 0) (by decide) (by decide) (by decide) (by decide) (by rw [hml]; rfl) (lenOf pd_0 rfl) rfl (Nat.le_of_eq rfl) (hb hby d_p45_m1_4) ?_
  intro v5 T5 L5 h5 X5 e5 q5
  obtain ⟨rfl, n5, K5, E_a, F_up_a, F_down_a, F_flows_a⟩ := q5
  have O0 := O0.keep K5 (allS g_a all0)
  have K0 := K0.trans K5 (allS (Or.inl (by simp)) all0)
  have N5 := Fr.app N0 n5
  show Run p e below _ (T5.setTop (mkF m 7 #[.val (.ref a), .val (.int p1), .val (.int p2)] []))
  exact endV X5 hx hlk hret (hb hby d_p45_m1_7) (by rw [e5]; exact ⟨rfl, N5, K0, E_a, F_up_a, F_down_a, F_flows_a⟩) (by decide) (by decide)
theorem d_p45_m3_0 : decode prog_45_method_3_code 0 = .ok (.new 4, 3) := by decide +kernel
theorem d_p45_m3_3 : decode prog_45_method_3_code 3 = .ok (.dup, 1) := by decide +kernel
theorem d_p45_m3_4 : decode prog_45_method_3_code 4 = .ok (.aload_n 0, 1) := by decide +kernel
theorem d_p45_m3_5 : decode prog_45_method_3_code 5 = .ok (.getfield 23, 3) := by decide +kernel
theorem d_p45_m3_8 : decode prog_45_method_3_code 8 = .ok (.aload_n 0, 1) := by decide +kernel
theorem d_p45_m3_9 : decode prog_45_method_3_code 9 = .ok (.getfield 27, 3) := by decide +kernel
theorem d_p45_m3_12 : decode prog_45_method_3_code 12 = .ok (.iconst 1, 1) := by decide +kernel
theorem d_p45_m3_13 : decode prog_45_method_3_code 13 = .ok (.invokespecial 3, 3) := by decide +kernel
theorem d_p45_m3_16 : decode prog_45_method_3_code 16 = .ok (.areturn, 1) := by decide +kernel
def Q_rm_with (Z : State) (a : Addr) (p1 p2 : Int32) (h0 : Heap) (n0 : Nat) (v : Option Value) (h : Heap) (L : List Loc) : Prop := ∃ b : Addr, v = some (.ref b) ∧ Fr n0 L ∧ Keep h0 h [] ∧ h0.size ≤ b ∧ n0 ≤ b ∧ Exa Z h b "com/example/lateral_guard/lateralguard/core/Radius" ∧ Fld Z h b "com/example/lateral_guard/lateralguard/core/Radius" "up" "I" (.int p1) ∧ Fld Z h b "com/example/lateral_guard/lateralguard/core/Radius" "down" "I" (.int p2) ∧ Fld Z h b "com/example/lateral_guard/lateralguard/core/Radius" "flows" "Z" (.int (1 : Int32))
set_option maxRecDepth 65536 in
set_option maxHeartbeats 40000000 in
theorem rm_with (l : Launch) (Z : State) (a0 : Array Value) (hw : ∀ d ∈ tables_1, d.before a0 Z = true) (ws : List Jvm.Cond) (a : Addr) (p1 p2 : Int32) (h0 : Heap) (n0 : Nat) (O0 : Old Z n0 h0) (E_a : Exa Z h0 a "com/example/lateral_guard/lateralguard/core/Radius") (F_up_a : Fld Z h0 a "com/example/lateral_guard/lateralguard/core/Radius" "up" "I" (.int p1)) (F_down_a : Fld Z h0 a "com/example/lateral_guard/lateralguard/core/Radius" "down" "I" (.int p2)) (hp1 : ¬ p1 < 0) (hp2 : ¬ p2 < 0) :
    Meets l (⟨"com/example/lateral_guard/lateralguard/core/Radius", "withFlows", "()Lcom/example/lateral_guard/lateralguard/core/Radius;"⟩ : MethodName) prog_45_method_3_code 1 (some (.object "com/example/lateral_guard/lateralguard/core/Radius")) ws ({ frames := 2, cells := 1, slots := 3, locals := 28 } : Room) Z #[(.ref a)] h0 (Q_rm_with Z a p1 p2 h0 n0) 1 3 := by
  refine enter (Ls := #[.val (.ref a)]) (plainFor_of_name pn_0) (fun m => by first | rfl | (simp [entryFrame, mkF, argsToLocals, Value.category]; done)) ?_
  intro p e s m below meth c T0 hx hby hml hown hnm hret hlk hZ X0 e0
  have N0 := Fr.nil n0
  replace hown : s.vm.findClass "com/example/lateral_guard/lateralguard/core/Radius" = some m.cls := hown
  show Run p e below _ (T0.setTop (mkF m 0 #[.val (.ref a)] []))
  have K0 := Keep.refl h0 []
  obtain ⟨T6, h6, X6, e6, E6, A6, D6, -, st6⟩ := newO X0 hx hZ hown (wd hw 24 rfl) (wd hw 2 rfl) (wd hw 3 rfl) e0 (g := (mkF m 0 #[.val (.ref a)] [])) rfl (hb hby d_p45_m3_0) (by decide) (by decide)
  obtain ⟨b6, y6⟩ : ∃ z, z = h0.size := ⟨_, rfl⟩
  rw [← y6] at A6 D6 st6
  have g_b6 : n0 ≤ b6 := y6.symm ▸ old_sz O0
  have sz_b6 : h0.size ≤ b6 := y6.symm ▸ K0.1
  have ne_a_b6 : a ≠ b6 := Nat.ne_of_lt (y6.symm ▸ E_a.lt)
  have O0 := O0.ext E6
  have E_a := E_a.ext E6
  have F_up_a := F_up_a.ext E6
  have F_down_a := F_down_a.ext E6
  have K0 := K0.ext E6
  have E_b6 := A6
  have F_up_b6 : Fld Z h6 b6 "com/example/lateral_guard/lateralguard/core/Radius" "up" "I" (.int (0 : Int32)) := D6 (Or.inr (wd hw 14 rfl)) (ty := .int) (by decide)
  have F_down_b6 : Fld Z h6 b6 "com/example/lateral_guard/lateralguard/core/Radius" "down" "I" (.int (0 : Int32)) := D6 (Or.inr (wd hw 16 rfl)) (ty := .int) (by decide)
  have F_flows_b6 : Fld Z h6 b6 "com/example/lateral_guard/lateralguard/core/Radius" "flows" "Z" (.int (0 : Int32)) := D6 (Or.inr (wd hw 18 rfl)) (ty := .boolean) (by decide)
  refine go st6 ?_
  show Run p e below _ (T6.setTop (mkF m 3 #[.val (.ref a)] [(.ref b6)]))
  refine go (fun _ => XS.dup X6.here hx rfl (hb hby d_p45_m3_3) rfl rfl) ?_
  show Run p e below _ (T6.setTop (mkF m 4 #[.val (.ref a)] [(.ref b6), (.ref b6)]))
  refine go (fun _ => XS.aloadN X6.here hx rfl (hb hby d_p45_m3_4) rfl rfl) ?_
  show Run p e below _ (T6.setTop (mkF m 5 #[.val (.ref a)] [(.ref a), (.ref b6), (.ref b6)]))
  obtain ⟨T7, X7, e7, st7⟩ := getF X6 hx hZ hown (host := "") (Or.inl (wd hw 13 rfl)) Via.refl e6 F_up_a (g := (mkF m 5 #[.val (.ref a)] [(.ref a), (.ref b6), (.ref b6)])) rfl rfl (hb hby d_p45_m3_5)
  refine go st7 ?_
  show Run p e below _ (T7.setTop (mkF m 8 #[.val (.ref a)] [(.int p1), (.ref b6), (.ref b6)]))
  refine go (fun _ => XS.aloadN X7.here hx rfl (hb hby d_p45_m3_8) rfl rfl) ?_
  show Run p e below _ (T7.setTop (mkF m 9 #[.val (.ref a)] [(.ref a), (.int p1), (.ref b6), (.ref b6)]))
  obtain ⟨T8, X8, e8, st8⟩ := getF X7 hx hZ hown (host := "") (Or.inl (wd hw 15 rfl)) Via.refl e7 F_down_a (g := (mkF m 9 #[.val (.ref a)] [(.ref a), (.int p1), (.ref b6), (.ref b6)])) rfl rfl (hb hby d_p45_m3_9)
  refine go st8 ?_
  show Run p e below _ (T8.setTop (mkF m 12 #[.val (.ref a)] [(.int p2), (.int p1), (.ref b6), (.ref b6)]))
  refine go (fun _ => XS.iconst X8.here hx rfl (hb hby d_p45_m3_12)) ?_
  show Run p e below _ (T8.setTop (mkF m 13 #[.val (.ref a)] [(.int (1 : Int32)), (.int p2), (.int p1), (.ref b6), (.ref b6)]))
  refine callSp X8 hx hZ rfl hown (wd hw 7 rfl) (wd hw 8 rfl) (wd hw 9 rfl) (wd hw 3 rfl) (by decide) e8 (a := b6) (argsL := [(.int p1), (.int p2), (.int (1 : Int32))]) (rest := [(.ref b6)]) (rm_i3 l Z a0 hw [] b6 p1 p2 (1 : Int32) h6 n0 O0 E_b6 F_up_b6 F_down_b6 F_flows_b6 g_b6 hp1 hp2 rfl) (W := 1) (by decide) (by decide) (by decide) (by decide) (by rw [hml]; rfl) (lenOf pd_0 rfl) rfl (Nat.le_of_eq rfl) (hb hby d_p45_m3_13) ?_
  intro v9 T9 L9 h9 X9 e9 q9
  obtain ⟨rfl, n9, K9, E_b6, F_up_b6, F_down_b6, F_flows_b6⟩ := q9
  have O0 := O0.keep K9 (allS g_b6 all0)
  have E_a := E_a.keep K9
  have F_up_a := F_up_a.keep K9 (ninS ne_a_b6 nin0)
  have F_down_a := F_down_a.keep K9 (ninS ne_a_b6 nin0)
  have K0 := K0.trans K9 (allS (Or.inr sz_b6) all0)
  have N9 := Fr.app N0 n9
  show Run p e below _ (T9.setTop (mkF m 16 #[.val (.ref a)] [(.ref b6)]))
  exact endA X9 hx hlk (w := (.ref b6)) hret rfl rfl (hb hby d_p45_m3_16) (by rw [e9]; exact ⟨b6, rfl, N9, K0, sz_b6, g_b6, E_b6, F_up_b6, F_down_b6, F_flows_b6⟩) (by decide) (by decide)
theorem d_p45_m6_0 : decode prog_45_method_6_code 0 = .ok (.aload_n 1, 1) := by decide +kernel
theorem d_p45_m6_1 : decode prog_45_method_6_code 1 = .ok (.instanceof 4, 3) := by decide +kernel
theorem d_p45_m6_4 : decode prog_45_method_6_code 4 = .ok (.ifCond .eq 45, 3) := by decide +kernel
theorem d_p45_m6_7 : decode prog_45_method_6_code 7 = .ok (.aload_n 1, 1) := by decide +kernel
theorem d_p45_m6_8 : decode prog_45_method_6_code 8 = .ok (.checkcast 4, 3) := by decide +kernel
theorem d_p45_m6_11 : decode prog_45_method_6_code 11 = .ok (.astore_n 2, 1) := by decide +kernel
theorem d_p45_m6_12 : decode prog_45_method_6_code 12 = .ok (.aload_n 0, 1) := by decide +kernel
theorem d_p45_m6_13 : decode prog_45_method_6_code 13 = .ok (.getfield 23, 3) := by decide +kernel
theorem d_p45_m6_16 : decode prog_45_method_6_code 16 = .ok (.aload_n 2, 1) := by decide +kernel
theorem d_p45_m6_17 : decode prog_45_method_6_code 17 = .ok (.getfield 23, 3) := by decide +kernel
theorem d_p45_m6_20 : decode prog_45_method_6_code 20 = .ok (.if_icmp .ne 29, 3) := by decide +kernel
theorem d_p45_m6_23 : decode prog_45_method_6_code 23 = .ok (.aload_n 0, 1) := by decide +kernel
theorem d_p45_m6_24 : decode prog_45_method_6_code 24 = .ok (.getfield 27, 3) := by decide +kernel
theorem d_p45_m6_27 : decode prog_45_method_6_code 27 = .ok (.aload_n 2, 1) := by decide +kernel
theorem d_p45_m6_28 : decode prog_45_method_6_code 28 = .ok (.getfield 27, 3) := by decide +kernel
theorem d_p45_m6_31 : decode prog_45_method_6_code 31 = .ok (.if_icmp .ne 18, 3) := by decide +kernel
theorem d_p45_m6_34 : decode prog_45_method_6_code 34 = .ok (.aload_n 0, 1) := by decide +kernel
theorem d_p45_m6_35 : decode prog_45_method_6_code 35 = .ok (.getfield 30, 3) := by decide +kernel
theorem d_p45_m6_38 : decode prog_45_method_6_code 38 = .ok (.aload_n 2, 1) := by decide +kernel
theorem d_p45_m6_39 : decode prog_45_method_6_code 39 = .ok (.getfield 30, 3) := by decide +kernel
theorem d_p45_m6_42 : decode prog_45_method_6_code 42 = .ok (.if_icmp .ne 7, 3) := by decide +kernel
theorem d_p45_m6_45 : decode prog_45_method_6_code 45 = .ok (.iconst 1, 1) := by decide +kernel
theorem d_p45_m6_46 : decode prog_45_method_6_code 46 = .ok (.goto 4, 3) := by decide +kernel
theorem d_p45_m6_50 : decode prog_45_method_6_code 50 = .ok (.ireturn, 1) := by decide +kernel
theorem d_p45_m6_49 : decode prog_45_method_6_code 49 = .ok (.iconst 0, 1) := by decide +kernel
def Q_rm_eR (a b : Addr) (x1 x2 x3 z1 z2 z3 : Int32) (h0 : Heap) (n0 : Nat) (v : Option Value) (h : Heap) (L : List Loc) : Prop := v = some (.int (if x1 = z1 ∧ x2 = z2 ∧ x3 = z3 then 1 else 0)) ∧ Fr n0 L ∧ h = h0
set_option maxRecDepth 65536 in
set_option maxHeartbeats 40000000 in
theorem rm_eR (l : Launch) (Z : State) (a0 : Array Value) (hw : ∀ d ∈ tables_1, d.before a0 Z = true) (ws : List Jvm.Cond) (a b : Addr) (x1 x2 x3 z1 z2 z3 : Int32) (h0 : Heap) (n0 : Nat) (O0 : Old Z n0 h0) (E_a : Exa Z h0 a "com/example/lateral_guard/lateralguard/core/Radius") (F_up_a : Fld Z h0 a "com/example/lateral_guard/lateralguard/core/Radius" "up" "I" (.int x1)) (F_down_a : Fld Z h0 a "com/example/lateral_guard/lateralguard/core/Radius" "down" "I" (.int x2)) (F_flows_a : Fld Z h0 a "com/example/lateral_guard/lateralguard/core/Radius" "flows" "Z" (.int x3)) (E_b : Exa Z h0 b "com/example/lateral_guard/lateralguard/core/Radius") (F_up_b : Fld Z h0 b "com/example/lateral_guard/lateralguard/core/Radius" "up" "I" (.int z1)) (F_down_b : Fld Z h0 b "com/example/lateral_guard/lateralguard/core/Radius" "down" "I" (.int z2)) (F_flows_b : Fld Z h0 b "com/example/lateral_guard/lateralguard/core/Radius" "flows" "Z" (.int z3)) :
    Meets l (⟨"com/example/lateral_guard/lateralguard/core/Radius", "equals", "(Ljava/lang/Object;)Z"⟩ : MethodName) prog_45_method_6_code 3 (some .boolean) ws ({ frames := 0, cells := 0, slots := 0, locals := 0 } : Room) Z #[(.ref a), (.ref b)] h0 (Q_rm_eR a b x1 x2 x3 z1 z2 z3 h0 n0) 0 0 := by
  refine enter (Ls := #[.val (.ref a), .val (.ref b), .unset]) (plainFor_of_name pn_0) (fun m => by first | rfl | (simp [entryFrame, mkF, argsToLocals, Value.category]; done)) ?_
  intro p e s m below meth c T0 hx hby hml hown hnm hret hlk hZ X0 e0
  have N0 := Fr.nil n0
  replace hown : s.vm.findClass "com/example/lateral_guard/lateralguard/core/Radius" = some m.cls := hown
  show Run p e below _ (T0.setTop (mkF m 0 #[.val (.ref a), .val (.ref b), .unset] []))
  refine go (fun _ => XS.aloadN X0.here hx rfl (hb hby d_p45_m6_0) rfl rfl) ?_
  show Run p e below _ (T0.setTop (mkF m 1 #[.val (.ref a), .val (.ref b), .unset] [(.ref b)]))
  obtain ⟨T10, X10, e10, st10⟩ := instY X0 hx hZ hown (wd hw 24 rfl) e0 (Ins.self E_b) (g := (mkF m 1 #[.val (.ref a), .val (.ref b), .unset] [(.ref b)])) rfl rfl (hb hby d_p45_m6_1)
  refine go st10 ?_
  show Run p e below _ (T10.setTop (mkF m 4 #[.val (.ref a), .val (.ref b), .unset] [(.int (1 : Int32))]))
  refine go (fun _ => XS.ifNo X10.here hx rfl (hb hby d_p45_m6_4) rfl ((if0 _ _).trans (feq (by decide : ¬ ((1 : Int32) = 0))).1)) ?_
  show Run p e below _ (T10.setTop (mkF m 7 #[.val (.ref a), .val (.ref b), .unset] []))
  refine go (fun _ => XS.aloadN X10.here hx rfl (hb hby d_p45_m6_7) rfl rfl) ?_
  show Run p e below _ (T10.setTop (mkF m 8 #[.val (.ref a), .val (.ref b), .unset] [(.ref b)]))
  obtain ⟨T11, X11, e11, st11⟩ := castY X10 hx hZ hown (wd hw 24 rfl) e10 (Ins.self E_b) (g := (mkF m 8 #[.val (.ref a), .val (.ref b), .unset] [(.ref b)])) rfl rfl (hb hby d_p45_m6_8)
  refine go st11 ?_
  show Run p e below _ (T11.setTop (mkF m 11 #[.val (.ref a), .val (.ref b), .unset] [(.ref b)]))
  refine go (fun _ => XS.astoreN X11.here hx rfl (hb hby d_p45_m6_11) rfl rfl (l' := #[.val (.ref a), .val (.ref b), .val (.ref b)]) rfl) ?_
  show Run p e below _ (T11.setTop (mkF m 12 #[.val (.ref a), .val (.ref b), .val (.ref b)] []))
  refine go (fun _ => XS.aloadN X11.here hx rfl (hb hby d_p45_m6_12) rfl rfl) ?_
  show Run p e below _ (T11.setTop (mkF m 13 #[.val (.ref a), .val (.ref b), .val (.ref b)] [(.ref a)]))
  obtain ⟨T12, X12, e12, st12⟩ := getF X11 hx hZ hown (host := "") (Or.inl (wd hw 13 rfl)) Via.refl e11 F_up_a (g := (mkF m 13 #[.val (.ref a), .val (.ref b), .val (.ref b)] [(.ref a)])) rfl rfl (hb hby d_p45_m6_13)
  refine go st12 ?_
  show Run p e below _ (T12.setTop (mkF m 16 #[.val (.ref a), .val (.ref b), .val (.ref b)] [(.int x1)]))
  refine go (fun _ => XS.aloadN X12.here hx rfl (hb hby d_p45_m6_16) rfl rfl) ?_
  show Run p e below _ (T12.setTop (mkF m 17 #[.val (.ref a), .val (.ref b), .val (.ref b)] [(.ref b), (.int x1)]))
  obtain ⟨T13, X13, e13, st13⟩ := getF X12 hx hZ hown (host := "") (Or.inl (wd hw 13 rfl)) Via.refl e12 F_up_b (g := (mkF m 17 #[.val (.ref a), .val (.ref b), .val (.ref b)] [(.ref b), (.int x1)])) rfl rfl (hb hby d_p45_m6_17)
  refine go st13 ?_
  show Run p e below _ (T13.setTop (mkF m 20 #[.val (.ref a), .val (.ref b), .val (.ref b)] [(.int z1), (.int x1)]))
  by_cases c14 : x1 = z1
  · skip
    refine go (fun _ => XS.icmpNo X13.here hx rfl (hb hby d_p45_m6_20) rfl (teq c14).2) ?_
    show Run p e below _ (T13.setTop (mkF m 23 #[.val (.ref a), .val (.ref b), .val (.ref b)] []))
    refine go (fun _ => XS.aloadN X13.here hx rfl (hb hby d_p45_m6_23) rfl rfl) ?_
    show Run p e below _ (T13.setTop (mkF m 24 #[.val (.ref a), .val (.ref b), .val (.ref b)] [(.ref a)]))
    obtain ⟨T15, X15, e15, st15⟩ := getF X13 hx hZ hown (host := "") (Or.inl (wd hw 15 rfl)) Via.refl e13 F_down_a (g := (mkF m 24 #[.val (.ref a), .val (.ref b), .val (.ref b)] [(.ref a)])) rfl rfl (hb hby d_p45_m6_24)
    refine go st15 ?_
    show Run p e below _ (T15.setTop (mkF m 27 #[.val (.ref a), .val (.ref b), .val (.ref b)] [(.int x2)]))
    refine go (fun _ => XS.aloadN X15.here hx rfl (hb hby d_p45_m6_27) rfl rfl) ?_
    show Run p e below _ (T15.setTop (mkF m 28 #[.val (.ref a), .val (.ref b), .val (.ref b)] [(.ref b), (.int x2)]))
    obtain ⟨T16, X16, e16, st16⟩ := getF X15 hx hZ hown (host := "") (Or.inl (wd hw 15 rfl)) Via.refl e15 F_down_b (g := (mkF m 28 #[.val (.ref a), .val (.ref b), .val (.ref b)] [(.ref b), (.int x2)])) rfl rfl (hb hby d_p45_m6_28)
    refine go st16 ?_
    show Run p e below _ (T16.setTop (mkF m 31 #[.val (.ref a), .val (.ref b), .val (.ref b)] [(.int z2), (.int x2)]))
    by_cases c17 : x2 = z2
    · skip
      refine go (fun _ => XS.icmpNo X16.here hx rfl (hb hby d_p45_m6_31) rfl (teq c17).2) ?_
      show Run p e below _ (T16.setTop (mkF m 34 #[.val (.ref a), .val (.ref b), .val (.ref b)] []))
      refine go (fun _ => XS.aloadN X16.here hx rfl (hb hby d_p45_m6_34) rfl rfl) ?_
      show Run p e below _ (T16.setTop (mkF m 35 #[.val (.ref a), .val (.ref b), .val (.ref b)] [(.ref a)]))
      obtain ⟨T18, X18, e18, st18⟩ := getF X16 hx hZ hown (host := "") (Or.inl (wd hw 17 rfl)) Via.refl e16 F_flows_a (g := (mkF m 35 #[.val (.ref a), .val (.ref b), .val (.ref b)] [(.ref a)])) rfl rfl (hb hby d_p45_m6_35)
      refine go st18 ?_
      show Run p e below _ (T18.setTop (mkF m 38 #[.val (.ref a), .val (.ref b), .val (.ref b)] [(.int x3)]))
      refine go (fun _ => XS.aloadN X18.here hx rfl (hb hby d_p45_m6_38) rfl rfl) ?_
      show Run p e below _ (T18.setTop (mkF m 39 #[.val (.ref a), .val (.ref b), .val (.ref b)] [(.ref b), (.int x3)]))
      obtain ⟨T19, X19, e19, st19⟩ := getF X18 hx hZ hown (host := "") (Or.inl (wd hw 17 rfl)) Via.refl e18 F_flows_b (g := (mkF m 39 #[.val (.ref a), .val (.ref b), .val (.ref b)] [(.ref b), (.int x3)])) rfl rfl (hb hby d_p45_m6_39)
      refine go st19 ?_
      show Run p e below _ (T19.setTop (mkF m 42 #[.val (.ref a), .val (.ref b), .val (.ref b)] [(.int z3), (.int x3)]))
      by_cases c20 : x3 = z3
      · skip
        refine go (fun _ => XS.icmpNo X19.here hx rfl (hb hby d_p45_m6_42) rfl (teq c20).2) ?_
        show Run p e below _ (T19.setTop (mkF m 45 #[.val (.ref a), .val (.ref b), .val (.ref b)] []))
        refine go (fun _ => XS.iconst X19.here hx rfl (hb hby d_p45_m6_45)) ?_
        show Run p e below _ (T19.setTop (mkF m 46 #[.val (.ref a), .val (.ref b), .val (.ref b)] [(.int (1 : Int32))]))
        refine go (fun _ => XS.goto X19.here hx rfl (pc0 := 46) (pc' := 50) rfl (hb hby d_p45_m6_46) (by decide) (by decide)) ?_
        show Run p e below _ (T19.setTop (mkF m 50 #[.val (.ref a), .val (.ref b), .val (.ref b)] [(.int (1 : Int32))]))
        exact endN X19 hx hlk (t := .boolean) hret (by simp) (hb hby d_p45_m6_50) (⟨by simp [c14, c17, c20] <;> rfl, N0, e19⟩) (by decide) (by decide)
      · skip
        refine go (fun _ => XS.icmpYes X19.here hx rfl (pc0 := 42) (pc' := 49) rfl (hb hby d_p45_m6_42) rfl (feq c20).2 (by decide) (by decide)) ?_
        show Run p e below _ (T19.setTop (mkF m 49 #[.val (.ref a), .val (.ref b), .val (.ref b)] []))
        refine go (fun _ => XS.iconst X19.here hx rfl (hb hby d_p45_m6_49)) ?_
        show Run p e below _ (T19.setTop (mkF m 50 #[.val (.ref a), .val (.ref b), .val (.ref b)] [(.int (0 : Int32))]))
        exact endN X19 hx hlk (t := .boolean) hret (by simp) (hb hby d_p45_m6_50) (⟨by simp [c14, c17, c20] <;> rfl, N0, e19⟩) (by decide) (by decide)
    · skip
      refine go (fun _ => XS.icmpYes X16.here hx rfl (pc0 := 31) (pc' := 49) rfl (hb hby d_p45_m6_31) rfl (feq c17).2 (by decide) (by decide)) ?_
      show Run p e below _ (T16.setTop (mkF m 49 #[.val (.ref a), .val (.ref b), .val (.ref b)] []))
      refine go (fun _ => XS.iconst X16.here hx rfl (hb hby d_p45_m6_49)) ?_
      show Run p e below _ (T16.setTop (mkF m 50 #[.val (.ref a), .val (.ref b), .val (.ref b)] [(.int (0 : Int32))]))
      exact endN X16 hx hlk (t := .boolean) hret (by simp) (hb hby d_p45_m6_50) (⟨by simp [c14, c17] <;> rfl, N0, e16⟩) (by decide) (by decide)
  · skip
    refine go (fun _ => XS.icmpYes X13.here hx rfl (pc0 := 20) (pc' := 49) rfl (hb hby d_p45_m6_20) rfl (feq c14).2 (by decide) (by decide)) ?_
    show Run p e below _ (T13.setTop (mkF m 49 #[.val (.ref a), .val (.ref b), .val (.ref b)] []))
    refine go (fun _ => XS.iconst X13.here hx rfl (hb hby d_p45_m6_49)) ?_
    show Run p e below _ (T13.setTop (mkF m 50 #[.val (.ref a), .val (.ref b), .val (.ref b)] [(.int (0 : Int32))]))
    exact endN X13 hx hlk (t := .boolean) hret (by simp) (hb hby d_p45_m6_50) (⟨by simp [c14] <;> rfl, N0, e13⟩) (by decide) (by decide)
def Q_rm_e0 (a : Addr) (h0 : Heap) (n0 : Nat) (v : Option Value) (h : Heap) (L : List Loc) : Prop := v = some (.int 0) ∧ Fr n0 L ∧ h = h0
set_option maxRecDepth 65536 in
set_option maxHeartbeats 40000000 in
theorem rm_e0 (l : Launch) (Z : State) (a0 : Array Value) (hw : ∀ d ∈ tables_1, d.before a0 Z = true) (ws : List Jvm.Cond) (a : Addr) (h0 : Heap) (n0 : Nat) (O0 : Old Z n0 h0)  :
    Meets l (⟨"com/example/lateral_guard/lateralguard/core/Radius", "equals", "(Ljava/lang/Object;)Z"⟩ : MethodName) prog_45_method_6_code 3 (some .boolean) ws ({ frames := 0, cells := 0, slots := 0, locals := 0 } : Room) Z #[(.ref a), .null] h0 (Q_rm_e0 a h0 n0) 0 0 := by
  refine enter (Ls := #[.val (.ref a), .val .null, .unset]) (plainFor_of_name pn_0) (fun m => by first | rfl | (simp [entryFrame, mkF, argsToLocals, Value.category]; done)) ?_
  intro p e s m below meth c T0 hx hby hml hown hnm hret hlk hZ X0 e0
  have N0 := Fr.nil n0
  replace hown : s.vm.findClass "com/example/lateral_guard/lateralguard/core/Radius" = some m.cls := hown
  show Run p e below _ (T0.setTop (mkF m 0 #[.val (.ref a), .val .null, .unset] []))
  refine go (fun _ => XS.aloadN X0.here hx rfl (hb hby d_p45_m6_0) rfl rfl) ?_
  show Run p e below _ (T0.setTop (mkF m 1 #[.val (.ref a), .val .null, .unset] [.null]))
  refine go (fun _ => X0.instanceofNull hx (g := (mkF m 1 #[.val (.ref a), .val .null, .unset] [.null])) rfl rfl (hb hby d_p45_m6_1) _) ?_
  show Run p e below _ (T0.setTop (mkF m 4 #[.val (.ref a), .val .null, .unset] [(.int (0 : Int32))]))
  refine go (fun _ => XS.ifYes X0.here hx rfl (pc0 := 4) (pc' := 49) rfl (hb hby d_p45_m6_4) rfl ((if0 _ _).trans (teq (by decide : (0 : Int32) = 0)).1) (by decide) (by decide)) ?_
  show Run p e below _ (T0.setTop (mkF m 49 #[.val (.ref a), .val .null, .unset] []))
  refine go (fun _ => XS.iconst X0.here hx rfl (hb hby d_p45_m6_49)) ?_
  show Run p e below _ (T0.setTop (mkF m 50 #[.val (.ref a), .val .null, .unset] [(.int (0 : Int32))]))
  exact endN X0 hx hlk (t := .boolean) hret (by simp) (hb hby d_p45_m6_50) (⟨rfl, N0, e0⟩) (by decide) (by decide)
def Q_rm_eI (a b : Addr) (h0 : Heap) (n0 : Nat) (v : Option Value) (h : Heap) (L : List Loc) : Prop := v = some (.int 0) ∧ Fr n0 L ∧ h = h0
set_option maxRecDepth 65536 in
set_option maxHeartbeats 40000000 in
theorem rm_eI (l : Launch) (Z : State) (a0 : Array Value) (hw : ∀ d ∈ tables_1, d.before a0 Z = true) (ws : List Jvm.Cond) (a b : Addr) (h0 : Heap) (n0 : Nat) (O0 : Old Z n0 h0) (E_b : Exa Z h0 b "java/lang/Integer") :
    Meets l (⟨"com/example/lateral_guard/lateralguard/core/Radius", "equals", "(Ljava/lang/Object;)Z"⟩ : MethodName) prog_45_method_6_code 3 (some .boolean) ws ({ frames := 0, cells := 0, slots := 0, locals := 0 } : Room) Z #[(.ref a), (.ref b)] h0 (Q_rm_eI a b h0 n0) 0 0 := by
  refine enter (Ls := #[.val (.ref a), .val (.ref b), .unset]) (plainFor_of_name pn_0) (fun m => by first | rfl | (simp [entryFrame, mkF, argsToLocals, Value.category]; done)) ?_
  intro p e s m below meth c T0 hx hby hml hown hnm hret hlk hZ X0 e0
  have N0 := Fr.nil n0
  replace hown : s.vm.findClass "com/example/lateral_guard/lateralguard/core/Radius" = some m.cls := hown
  show Run p e below _ (T0.setTop (mkF m 0 #[.val (.ref a), .val (.ref b), .unset] []))
  refine go (fun _ => XS.aloadN X0.here hx rfl (hb hby d_p45_m6_0) rfl rfl) ?_
  show Run p e below _ (T0.setTop (mkF m 1 #[.val (.ref a), .val (.ref b), .unset] [(.ref b)]))
  obtain ⟨T22, X22, e22, st22⟩ := instNo X0 hx hZ hown (wd hw 24 rfl) e0 E_b (ns_no (wd hw 52 rfl) (wd hw 2 rfl) (NS.step (wd hw 52 rfl) (NS.step (wd hw 53 rfl) (ns_root (wd hw 54 rfl) (wd hw 2 rfl) (by decide)) (by decide)) (by decide)) (by decide)) (g := (mkF m 1 #[.val (.ref a), .val (.ref b), .unset] [(.ref b)])) rfl rfl (hb hby d_p45_m6_1)
  refine go st22 ?_
  show Run p e below _ (T22.setTop (mkF m 4 #[.val (.ref a), .val (.ref b), .unset] [(.int (0 : Int32))]))
  refine go (fun _ => XS.ifYes X22.here hx rfl (pc0 := 4) (pc' := 49) rfl (hb hby d_p45_m6_4) rfl ((if0 _ _).trans (teq (by decide : (0 : Int32) = 0)).1) (by decide) (by decide)) ?_
  show Run p e below _ (T22.setTop (mkF m 49 #[.val (.ref a), .val (.ref b), .unset] []))
  refine go (fun _ => XS.iconst X22.here hx rfl (hb hby d_p45_m6_49)) ?_
  show Run p e below _ (T22.setTop (mkF m 50 #[.val (.ref a), .val (.ref b), .unset] [(.int (0 : Int32))]))
  exact endN X22 hx hlk (t := .boolean) hret (by simp) (hb hby d_p45_m6_50) (⟨rfl, N0, e22⟩) (by decide) (by decide)
theorem d_j18_m1_0 : decode jdk_18_method_1_code 0 = .ok (.aload_n 0, 1) := by decide +kernel
theorem d_j18_m1_1 : decode jdk_18_method_1_code 1 = .ok (.invokespecial 1, 3) := by decide +kernel
theorem d_j18_m1_4 : decode jdk_18_method_1_code 4 = .ok (.return_, 1) := by decide +kernel
theorem pn_1 : plainName "java/lang/Number" = true := by first | (simp [plainName, overriddenIn]; done) | decide +kernel
def Q_rm_num (a : Addr) (h0 : Heap) (n0 : Nat) (v : Option Value) (h : Heap) (L : List Loc) : Prop := v = none ∧ Fr n0 L ∧ h = h0
set_option maxRecDepth 65536 in
set_option maxHeartbeats 40000000 in
theorem rm_num (l : Launch) (Z : State) (a0 : Array Value) (hw : ∀ d ∈ tables_1, d.before a0 Z = true) (ws : List Jvm.Cond) (a : Addr) (h0 : Heap) (n0 : Nat) (O0 : Old Z n0 h0)  :
    Meets l (⟨"java/lang/Number", "<init>", "()V"⟩ : MethodName) jdk_18_method_1_code 1 none ws ({ frames := 1, cells := 0, slots := 0, locals := 12 } : Room) Z #[(.ref a)] h0 (Q_rm_num a h0 n0) 0 0 := by
  refine enter (Ls := #[.val (.ref a)]) (plainFor_of_name pn_1) (fun m => by first | rfl | (simp [entryFrame, mkF, argsToLocals, Value.category]; done)) ?_
  intro p e s m below meth c T0 hx hby hml hown hnm hret hlk hZ X0 e0
  have N0 := Fr.nil n0
  replace hown : s.vm.findClass "java/lang/Number" = some m.cls := hown
  show Run p e below _ (T0.setTop (mkF m 0 #[.val (.ref a)] []))
  refine go (fun _ => XS.aloadN X0.here hx rfl (hb hby d_j18_m1_0) rfl rfl) ?_
  show Run p e below _ (T0.setTop (mkF m 1 #[.val (.ref a)] [(.ref a)]))
  obtain ⟨T23, X23, e23, st23⟩ := initO X0 hx hZ hown (wd hw 49 rfl) (wd hw 11 rfl) (wd hw 12 rfl) e0 (g := (mkF m 1 #[.val (.ref a)] [(.ref a)])) rfl (by rw [hml]; rfl) rfl (hb hby d_j18_m1_1) (by decide) (W := 0) (by show 2 * 0 + _ ≤ _; exact Nat.le_of_eq rfl) (by decide)
  refine go st23 ?_
  show Run p e below _ (T23.setTop (mkF m 4 #[.val (.ref a)] []))
  exact endV X23 hx hlk hret (hb hby d_j18_m1_4) (⟨rfl, N0, e23⟩) (by decide) (by decide)
theorem d_j33_m23_0 : decode jdk_33_method_23_code 0 = .ok (.aload_n 0, 1) := by decide +kernel
theorem d_j33_m23_1 : decode jdk_33_method_23_code 1 = .ok (.invokespecial 202, 3) := by decide +kernel
theorem pd_1 : parseMethodDescriptor "()V" = some ⟨[], none⟩ := by decide +kernel
theorem d_j33_m23_4 : decode jdk_33_method_23_code 4 = .ok (.aload_n 0, 1) := by decide +kernel
theorem d_j33_m23_5 : decode jdk_33_method_23_code 5 = .ok (.iload_n 1, 1) := by decide +kernel
theorem d_j33_m23_6 : decode jdk_33_method_23_code 6 = .ok (.putfield 205, 3) := by decide +kernel
theorem d_j33_m23_9 : decode jdk_33_method_23_code 9 = .ok (.return_, 1) := by decide +kernel
theorem pn_2 : plainName "java/lang/Integer" = true := by first | (simp [plainName, overriddenIn]; done) | decide +kernel
def Q_rm_int (Z : State) (a : Addr) (p1 : Int32) (h0 : Heap) (n0 : Nat) (v : Option Value) (h : Heap) (L : List Loc) : Prop := v = none ∧ Fr n0 L ∧ Keep h0 h [a] ∧ Exa Z h a "java/lang/Integer" ∧ Fld Z h a "java/lang/Integer" "value" "I" (.int p1)
set_option maxRecDepth 65536 in
set_option maxHeartbeats 40000000 in
theorem rm_int (l : Launch) (Z : State) (a0 : Array Value) (hw : ∀ d ∈ tables_1, d.before a0 Z = true) (ws : List Jvm.Cond) (a : Addr) (p1 : Int32) (h0 : Heap) (n0 : Nat) (O0 : Old Z n0 h0) (E_a : Exa Z h0 a "java/lang/Integer") (F_value_a : Fld Z h0 a "java/lang/Integer" "value" "I" (.int (0 : Int32))) (g_a : n0 ≤ a) :
    Meets l (⟨"java/lang/Integer", "<init>", "(I)V"⟩ : MethodName) jdk_33_method_23_code 2 none ws ({ frames := 2, cells := 0, slots := 0, locals := 24 } : Room) Z #[(.ref a), (.int p1)] h0 (Q_rm_int Z a p1 h0 n0) 0 0 := by
  refine enter (Ls := #[.val (.ref a), .val (.int p1)]) (plainFor_of_name pn_2) (fun m => by first | rfl | (simp [entryFrame, mkF, argsToLocals, Value.category]; done)) ?_
  intro p e s m below meth c T0 hx hby hml hown hnm hret hlk hZ X0 e0
  have N0 := Fr.nil n0
  replace hown : s.vm.findClass "java/lang/Integer" = some m.cls := hown
  show Run p e below _ (T0.setTop (mkF m 0 #[.val (.ref a), .val (.int p1)] []))
  have K0 := Keep.refl h0 [a]
  refine go (fun _ => XS.aloadN X0.here hx rfl (hb hby d_j33_m23_0) rfl rfl) ?_
  show Run p e below _ (T0.setTop (mkF m 1 #[.val (.ref a), .val (.int p1)] [(.ref a)]))
  refine callSp X0 hx hZ rfl hown (wd hw 43 rfl) (wd hw 44 rfl) (wd hw 48 rfl) (wd hw 47 rfl) (by decide) e0 (a := a) (argsL := []) (rest := []) (rm_num l Z a0 hw [] a h0 n0 O0) (W := 0) (by decide) (by decide) (by decide) (by decide) (by rw [hml]; rfl) (lenOf pd_1 rfl) rfl (Nat.le_of_eq rfl) (hb hby d_j33_m23_1) ?_
  intro v24 T24 L24 h24 X24 e24 q24
  obtain ⟨rfl, n24, k24⟩ := q24
  have e24 := e24.trans k24
  have N24 := Fr.app N0 n24
  show Run p e below _ (T24.setTop (mkF m 4 #[.val (.ref a), .val (.int p1)] []))
  refine go (fun _ => XS.aloadN X24.here hx rfl (hb hby d_j33_m23_4) rfl rfl) ?_
  show Run p e below _ (T24.setTop (mkF m 5 #[.val (.ref a), .val (.int p1)] [(.ref a)]))
  refine go (fun _ => XS.iloadN X24.here hx rfl (hb hby d_j33_m23_5) rfl) ?_
  show Run p e below _ (T24.setTop (mkF m 6 #[.val (.ref a), .val (.int p1)] [(.int p1), (.ref a)]))
  obtain ⟨T25, h25, X25, e25, W25, st25⟩ := putF X24 hx hZ hown (host := "") (Or.inl (wd hw 50 rfl)) Via.refl e24 F_value_a E_a (Or.inr ⟨(wd hw 51 rfl), rfl, hnm⟩) (wd hw 38 rfl) (ty := .int) (by decide) rfl rfl (g := (mkF m 6 #[.val (.ref a), .val (.int p1)] [(.int p1), (.ref a)])) rfl rfl (hb hby d_j33_m23_6)
  have O0 := O0.wr W25 g_a
  have E_a := E_a.wr W25
  have F_value_a := F_value_a.same W25
  have K0 := K0.wr W25 (Or.inl (by simp))
  have N25 := Fr.snoc X25 N24 g_a
  refine go st25 ?_
  show Run p e below _ (T25.setTop (mkF m 9 #[.val (.ref a), .val (.int p1)] []))
  exact endV X25 hx hlk hret (hb hby d_j33_m23_9) (by rw [e25]; exact ⟨rfl, N25, K0, E_a, F_value_a⟩) (by decide) (by decide)
theorem own_sub {Z s' : State} {a0 : Array Value} {o : Option Outcome} {idx : List Nat} {a b : Jvm.Term} {x y : Int32} (ha : a.eval a0 Z o idx s' = some (.int x)) (hb : b.eval a0 Z o idx s' = some (.int y)) : (Jvm.Term.sub a b).eval a0 Z o idx s' = some (.int (x - y)) := by simp [Term.eval, ha, hb]
theorem own_len {Z : State} {a0 : Array Value} {t : Jvm.Term} {a : Addr} {c : Cell} {ty : FieldType} {n : Int32} (ev : t.eval a0 Z none [] Z = some (.ref a)) (A : Arr Z Z.heap a c ty) (el : (Jvm.Term.length t).eval a0 Z none [] Z = some (.int n)) : c.slots.size < 2 ^ 31 ∧ c.slots.size.toInt32 = n := by
  have hA := A.fin (Vm.Alike.refl _)
  by_cases hl : c.slots.size < 2 ^ 31
  · rw [len_f ev hA hl] at el
    exact ⟨hl, by injection el with el; injection el⟩
  · simp [Term.eval, ev, hA, hl] at el
theorem own_idx (x : Int32) (h1 : ¬ x < (-128 : Int32)) (h2 : ¬ (127 : Int32) < x) : ¬ (x + (128 : Int32)) < 0 ∧ (x + (128 : Int32)) < (256 : Int32) := by
  simp only [Int32.lt_iff_toInt_lt] at *
  have e := c_iadd x 128; have r := rng32 x; have r' := rng32 (x + 128)
  have k1 : (128 : Int32).toInt = 128 := by decide
  have k2 : (256 : Int32).toInt = 256 := by decide
  have k3 : (-128 : Int32).toInt = -128 := by decide
  have k4 : (127 : Int32).toInt = 127 := by decide
  have k5 : (0 : Int32).toInt = 0 := by decide
  omega
theorem d_j33_m22_0 : decode jdk_33_method_22_code 0 = .ok (.iload_n 0, 1) := by decide +kernel
theorem d_j33_m22_1 : decode jdk_33_method_22_code 1 = .ok (.bipush (-128), 2) := by decide +kernel
theorem d_j33_m22_3 : decode jdk_33_method_22_code 3 = .ok (.if_icmp .lt 20, 3) := by decide +kernel
theorem d_j33_m22_23 : decode jdk_33_method_22_code 23 = .ok (.new 1, 3) := by decide +kernel
theorem d_j33_m22_26 : decode jdk_33_method_22_code 26 = .ok (.dup, 1) := by decide +kernel
theorem d_j33_m22_27 : decode jdk_33_method_22_code 27 = .ok (.iload_n 0, 1) := by decide +kernel
theorem d_j33_m22_28 : decode jdk_33_method_22_code 28 = .ok (.invokespecial 199, 3) := by decide +kernel
theorem pd_2 : parseMethodDescriptor "(I)V" = some ⟨[.int], none⟩ := by decide +kernel
theorem d_j33_m22_31 : decode jdk_33_method_22_code 31 = .ok (.areturn, 1) := by decide +kernel
theorem d_j33_m22_6 : decode jdk_33_method_22_code 6 = .ok (.iload_n 0, 1) := by decide +kernel
theorem d_j33_m22_7 : decode jdk_33_method_22_code 7 = .ok (.getstatic 191, 3) := by decide +kernel
theorem d_j33_m22_10 : decode jdk_33_method_22_code 10 = .ok (.if_icmp .gt 13, 3) := by decide +kernel
theorem d_j33_m22_13 : decode jdk_33_method_22_code 13 = .ok (.getstatic 195, 3) := by decide +kernel
theorem d_j33_m22_16 : decode jdk_33_method_22_code 16 = .ok (.iload_n 0, 1) := by decide +kernel
theorem d_j33_m22_17 : decode jdk_33_method_22_code 17 = .ok (.sipush 128, 3) := by decide +kernel
theorem d_j33_m22_20 : decode jdk_33_method_22_code 20 = .ok (.iadd, 1) := by decide +kernel
theorem d_j33_m22_21 : decode jdk_33_method_22_code 21 = .ok (.aaload, 1) := by decide +kernel
theorem d_j33_m22_22 : decode jdk_33_method_22_code 22 = .ok (.areturn, 1) := by decide +kernel
def Q_rm_vo (Z : State) (p1 : Int32) (wc : Addr) (cl : Cell) (val : Int32 → Value) (h0 : Heap) (n0 : Nat) (v : Option Value) (h : Heap) (L : List Loc) : Prop := ∃ b : Addr, v = some (.ref b) ∧ Fr n0 L ∧ Keep h0 h [] ∧ Exa Z h b "java/lang/Integer"
set_option maxRecDepth 65536 in
set_option maxHeartbeats 40000000 in
theorem rm_vo (l : Launch) (Z : State) (a0 : Array Value) (hw : ∀ d ∈ tables_1, d.before a0 Z = true) (ws : List Jvm.Cond) (p1 : Int32) (wc : Addr) (cl : Cell) (val : Int32 → Value) (h0 : Heap) (n0 : Nat) (O0 : Old Z n0 h0) (S_high : Sta Z Z.heap "java/lang/Integer$IntegerCache" "high" "I" (.int (127 : Int32))) (S_cache : Sta Z Z.heap "java/lang/Integer$IntegerCache" "cache" "[Ljava/lang/Integer;" (.ref wc)) (Bx : Bxs Z wc cl "java/lang/Integer" "I" (256 : Int32) val) :
    Meets l (⟨"java/lang/Integer", "valueOf", "(I)Ljava/lang/Integer;"⟩ : MethodName) jdk_33_method_22_code 1 (some (.object "java/lang/Integer")) ws ({ frames := 3, cells := 1, slots := 1, locals := 38 } : Room) Z #[(.int p1)] h0 (Q_rm_vo Z p1 wc cl val h0 n0) 1 1 := by
  refine enter (Ls := #[.val (.int p1)]) (plainFor_of_name pn_2) (fun m => by first | rfl | (simp [entryFrame, mkF, argsToLocals, Value.category]; done)) ?_
  intro p e s m below meth c T0 hx hby hml hown hnm hret hlk hZ X0 e0
  have N0 := Fr.nil n0
  replace hown : s.vm.findClass "java/lang/Integer" = some m.cls := hown
  show Run p e below _ (T0.setTop (mkF m 0 #[.val (.int p1)] []))
  have K0 := Keep.refl h0 []
  refine go (fun _ => XS.iloadN X0.here hx rfl (hb hby d_j33_m22_0) rfl) ?_
  show Run p e below _ (T0.setTop (mkF m 1 #[.val (.int p1)] [(.int p1)]))
  refine go (fun _ => XS.bipush X0.here hx rfl (hb hby d_j33_m22_1)) ?_
  show Run p e below _ (T0.setTop (mkF m 3 #[.val (.int p1)] [(.int (-128 : Int32)), (.int p1)]))
  by_cases c26 : p1 < (-128 : Int32)
  · skip
    refine go (fun _ => XS.icmpYes X0.here hx rfl (pc0 := 3) (pc' := 23) rfl (hb hby d_j33_m22_3) rfl (tlt c26).1 (by decide) (by decide)) ?_
    show Run p e below _ (T0.setTop (mkF m 23 #[.val (.int p1)] []))
    obtain ⟨T27, h27, X27, e27, E27, A27, D27, -, st27⟩ := newO X0 hx hZ hown (wd hw 37 rfl) (wd hw 38 rfl) (wd hw 33 rfl) e0 (g := (mkF m 23 #[.val (.int p1)] [])) rfl (hb hby d_j33_m22_23) (by decide) (by decide)
    obtain ⟨b27, y27⟩ : ∃ z, z = h0.size := ⟨_, rfl⟩
    rw [← y27] at A27 D27 st27
    have g_b27 : n0 ≤ b27 := y27.symm ▸ old_sz O0
    have sz_b27 : h0.size ≤ b27 := y27.symm ▸ K0.1
    have O0 := O0.ext E27
    have K0 := K0.ext E27
    have E_b27 := A27
    have F_value_b27 : Fld Z h27 b27 "java/lang/Integer" "value" "I" (.int (0 : Int32)) := D27 (Or.inr (wd hw 51 rfl)) (ty := .int) (by decide)
    refine go st27 ?_
    show Run p e below _ (T27.setTop (mkF m 26 #[.val (.int p1)] [(.ref b27)]))
    refine go (fun _ => XS.dup X27.here hx rfl (hb hby d_j33_m22_26) rfl rfl) ?_
    show Run p e below _ (T27.setTop (mkF m 27 #[.val (.int p1)] [(.ref b27), (.ref b27)]))
    refine go (fun _ => XS.iloadN X27.here hx rfl (hb hby d_j33_m22_27) rfl) ?_
    show Run p e below _ (T27.setTop (mkF m 28 #[.val (.int p1)] [(.int p1), (.ref b27), (.ref b27)]))
    refine callSp X27 hx hZ rfl hown (wd hw 39 rfl) (wd hw 40 rfl) (wd hw 42 rfl) (wd hw 33 rfl) (by decide) e27 (a := b27) (argsL := [(.int p1)]) (rest := [(.ref b27)]) (rm_int l Z a0 hw [] b27 p1 h27 n0 O0 E_b27 F_value_b27 g_b27) (W := 1) (by decide) (by decide) (by decide) (by decide) (by rw [hml]; rfl) (lenOf pd_2 rfl) rfl (Nat.le_of_eq rfl) (hb hby d_j33_m22_28) ?_
    intro v28 T28 L28 h28 X28 e28 q28
    obtain ⟨rfl, n28, K28, E_b27, F_value_b27⟩ := q28
    have O0 := O0.keep K28 (allS g_b27 all0)
    have K0 := K0.trans K28 (allS (Or.inr sz_b27) all0)
    have N28 := Fr.app N0 n28
    show Run p e below _ (T28.setTop (mkF m 31 #[.val (.int p1)] [(.ref b27)]))
    exact endA X28 hx hlk (w := (.ref b27)) hret rfl rfl (hb hby d_j33_m22_31) (by rw [e28]; exact ⟨b27, rfl, N28, K0, E_b27⟩) (by decide) (by decide)
  · skip
    refine go (fun _ => XS.icmpNo X0.here hx rfl (hb hby d_j33_m22_3) rfl (flt c26).1) ?_
    show Run p e below _ (T0.setTop (mkF m 6 #[.val (.int p1)] []))
    refine go (fun _ => XS.iloadN X0.here hx rfl (hb hby d_j33_m22_6) rfl) ?_
    show Run p e below _ (T0.setTop (mkF m 7 #[.val (.int p1)] [(.int p1)]))
    obtain ⟨T29, X29, e29, st29⟩ := getS2 X0 hx hZ hown (host := "") (Or.inl (wd hw 35 rfl)) Via.refl e0 (S_high.ext O0.2) (g := (mkF m 7 #[.val (.int p1)] [(.int p1)])) rfl (hb hby d_j33_m22_7)
    refine go st29 ?_
    show Run p e below _ (T29.setTop (mkF m 10 #[.val (.int p1)] [(.int (127 : Int32)), (.int p1)]))
    by_cases c30 : (127 : Int32) < p1
    · skip
      refine go (fun _ => XS.icmpYes X29.here hx rfl (pc0 := 10) (pc' := 23) rfl (hb hby d_j33_m22_10) rfl (tlt c30).2.2.1 (by decide) (by decide)) ?_
      show Run p e below _ (T29.setTop (mkF m 23 #[.val (.int p1)] []))
      obtain ⟨T31, h31, X31, e31, E31, A31, D31, -, st31⟩ := newO X29 hx hZ hown (wd hw 37 rfl) (wd hw 38 rfl) (wd hw 33 rfl) e29 (g := (mkF m 23 #[.val (.int p1)] [])) rfl (hb hby d_j33_m22_23) (by decide) (by decide)
      obtain ⟨b31, y31⟩ : ∃ z, z = h0.size := ⟨_, rfl⟩
      rw [← y31] at A31 D31 st31
      have g_b31 : n0 ≤ b31 := y31.symm ▸ old_sz O0
      have sz_b31 : h0.size ≤ b31 := y31.symm ▸ K0.1
      have O0 := O0.ext E31
      have K0 := K0.ext E31
      have E_b31 := A31
      have F_value_b31 : Fld Z h31 b31 "java/lang/Integer" "value" "I" (.int (0 : Int32)) := D31 (Or.inr (wd hw 51 rfl)) (ty := .int) (by decide)
      refine go st31 ?_
      show Run p e below _ (T31.setTop (mkF m 26 #[.val (.int p1)] [(.ref b31)]))
      refine go (fun _ => XS.dup X31.here hx rfl (hb hby d_j33_m22_26) rfl rfl) ?_
      show Run p e below _ (T31.setTop (mkF m 27 #[.val (.int p1)] [(.ref b31), (.ref b31)]))
      refine go (fun _ => XS.iloadN X31.here hx rfl (hb hby d_j33_m22_27) rfl) ?_
      show Run p e below _ (T31.setTop (mkF m 28 #[.val (.int p1)] [(.int p1), (.ref b31), (.ref b31)]))
      refine callSp X31 hx hZ rfl hown (wd hw 39 rfl) (wd hw 40 rfl) (wd hw 42 rfl) (wd hw 33 rfl) (by decide) e31 (a := b31) (argsL := [(.int p1)]) (rest := [(.ref b31)]) (rm_int l Z a0 hw [] b31 p1 h31 n0 O0 E_b31 F_value_b31 g_b31) (W := 1) (by decide) (by decide) (by decide) (by decide) (by rw [hml]; rfl) (lenOf pd_2 rfl) rfl (Nat.le_of_eq rfl) (hb hby d_j33_m22_28) ?_
      intro v32 T32 L32 h32 X32 e32 q32
      obtain ⟨rfl, n32, K32, E_b31, F_value_b31⟩ := q32
      have O0 := O0.keep K32 (allS g_b31 all0)
      have K0 := K0.trans K32 (allS (Or.inr sz_b31) all0)
      have N32 := Fr.app N0 n32
      show Run p e below _ (T32.setTop (mkF m 31 #[.val (.int p1)] [(.ref b31)]))
      exact endA X32 hx hlk (w := (.ref b31)) hret rfl rfl (hb hby d_j33_m22_31) (by rw [e32]; exact ⟨b31, rfl, N32, K0, E_b31⟩) (by decide) (by decide)
    · skip
      refine go (fun _ => XS.icmpNo X29.here hx rfl (hb hby d_j33_m22_10) rfl (flt c30).2.2.1) ?_
      show Run p e below _ (T29.setTop (mkF m 13 #[.val (.int p1)] []))
      obtain ⟨T33, X33, e33, st33⟩ := getS2 X29 hx hZ hown (host := "") (Or.inl (wd hw 55 rfl)) Via.refl e29 (S_cache.ext O0.2) (g := (mkF m 13 #[.val (.int p1)] [])) rfl (hb hby d_j33_m22_13)
      refine go st33 ?_
      show Run p e below _ (T33.setTop (mkF m 16 #[.val (.int p1)] [(.ref wc)]))
      refine go (fun _ => XS.iloadN X33.here hx rfl (hb hby d_j33_m22_16) rfl) ?_
      show Run p e below _ (T33.setTop (mkF m 17 #[.val (.int p1)] [(.int p1), (.ref wc)]))
      refine go (fun _ => XS.sipush X33.here hx rfl (hb hby d_j33_m22_17)) ?_
      show Run p e below _ (T33.setTop (mkF m 20 #[.val (.int p1)] [(.int (128 : Int32)), (.int p1), (.ref wc)]))
      refine go (fun _ => XS.iadd X33.here hx rfl (hb hby d_j33_m22_20) rfl) ?_
      show Run p e below _ (T33.setTop (mkF m 21 #[.val (.int p1)] [(.int (p1 + (128 : Int32))), (.ref wc)]))
      obtain ⟨Ar, Sz, -, El⟩ := Bx
      have hin := inb_of Sz (own_idx p1 c26 c30)
      obtain ⟨bx, hat, Ebx, -⟩ := El _ hin
      have Ar := Ar.ext O0.2
      have Ebx := Ebx.ext O0.2
      refine go (fun _ => X33.aaload hx (j := (p1 + (128 : Int32))) (v := .ref bx) (by rw [e33]; exact Ar.1) (State.isArrayOf_alike hZ.alike Ar.2.1) rfl Ar.2.2 hin hat (g := (mkF m 21 #[.val (.int p1)] [(.int (p1 + (128 : Int32))), (.ref wc)])) rfl rfl (hb hby d_j33_m22_21) _) ?_
      show Run p e below _ (T33.setTop (mkF m 22 #[.val (.int p1)] [(.ref bx)]))
      exact endA X33 hx hlk (w := (.ref bx)) hret rfl rfl (hb hby d_j33_m22_22) (by rw [e33]; exact ⟨bx, rfl, N0, K0, Ebx⟩) (by decide) (by decide)
theorem own_pos (x : Int32) : ¬ (x &&& (2147483647 : Int32)) < 0 := by
  have h := (c_and x 2147483647 (by decide)).1
  have k5 : (0 : Int32).toInt = 0 := by decide
  simp only [Int32.lt_iff_toInt_lt]; omega
theorem pd_3 : parseMethodDescriptor "(II)V" = some ⟨[.int, .int], none⟩ := by decide +kernel
theorem pd_4 : parseMethodDescriptor "(Ljava/lang/Object;)Z" = some ⟨[(.object "java/lang/Object")], some .boolean⟩ := by decide +kernel
theorem pd_5 : parseMethodDescriptor "(I)Ljava/lang/Integer;" = some ⟨[.int], some (.object "java/lang/Integer")⟩ := by decide +kernel
theorem pd_6 : parseMethodDescriptor "()Lcom/example/lateral_guard/lateralguard/core/Radius;" = some ⟨[], some (.object "com/example/lateral_guard/lateralguard/core/Radius")⟩ := by decide +kernel
theorem pn_3 : plainName "com/example/lateral_guard/lateralguard/core/RadiusEqualsPinLaw" = true := by first | (simp [plainName, overriddenIn]; done) | decide +kernel
def Q_rmlaw (p0 p1 p2 p3 p4 : Int32) (wc : Addr) (cl : Cell) (val : Int32 → Value) (h0 : Heap) (n0 : Nat) (v : Option Value) (h : Heap) (L : List Loc) : Prop := v = some (.int 1) ∧ Fr n0 L
set_option maxRecDepth 65536 in
set_option maxHeartbeats 40000000 in
theorem rmlaw (l : Launch) (Z : State) (a0 : Array Value) (hw : ∀ d ∈ tables_1, d.before a0 Z = true) (ws : List Jvm.Cond) (p0 p1 p2 p3 p4 : Int32) (wc : Addr) (cl : Cell) (val : Int32 → Value) (h0 : Heap) (n0 : Nat) (O0 : Old Z n0 h0) (S_high : Sta Z Z.heap "java/lang/Integer$IntegerCache" "high" "I" (.int (127 : Int32))) (S_cache : Sta Z Z.heap "java/lang/Integer$IntegerCache" "cache" "[Ljava/lang/Integer;" (.ref wc)) (Bx : Bxs Z wc cl "java/lang/Integer" "I" (256 : Int32) val) :
    Meets l x code maxLocals ret ws room_1 Z #[(.int p0), (.int p1), (.int p2), (.int p3), (.int p4)] h0 (Q_rmlaw p0 p1 p2 p3 p4 wc cl val h0 n0) 24 128 := by
  refine enter (Ls := #[.val (.int p0), .val (.int p1), .val (.int p2), .val (.int p3), .val (.int p4), .unset, .unset, .unset, .unset, .unset, .unset, .unset, .unset, .unset, .unset, .unset, .unset]) (plainFor_of_name pn_3) (fun m => by first | rfl | (simp [entryFrame, mkF, argsToLocals, Value.category]; done)) ?_
  intro p e s m below meth c T0 hx hby hml hown hnm hret hlk hZ X0 e0
  have N0 := Fr.nil n0
  replace hown : s.vm.findClass "com/example/lateral_guard/lateralguard/core/RadiusEqualsPinLaw" = some m.cls := hown
  show Run p e below _ (T0.setTop (mkF m 0 #[.val (.int p0), .val (.int p1), .val (.int p2), .val (.int p3), .val (.int p4), .unset, .unset, .unset, .unset, .unset, .unset, .unset, .unset, .unset, .unset, .unset, .unset] []))
  refine go (fun _ => XS.iloadN X0.here hx rfl (hb hby at_0) rfl) ?_
  show Run p e below _ (T0.setTop (mkF m 1 #[.val (.int p0), .val (.int p1), .val (.int p2), .val (.int p3), .val (.int p4), .unset, .unset, .unset, .unset, .unset, .unset, .unset, .unset, .unset, .unset, .unset, .unset] [(.int p0)]))
  refine go (fun _ => X0.ldcI hx hown (mvT hZ (wd hw 0 rfl)) rfl (hb hby at_1)) ?_
  show Run p e below _ (T0.setTop (mkF m 3 #[.val (.int p0), .val (.int p1), .val (.int p2), .val (.int p3), .val (.int p4), .unset, .unset, .unset, .unset, .unset, .unset, .unset, .unset, .unset, .unset, .unset, .unset] [(.int (2147483647 : Int32)), (.int p0)]))
  refine go (fun _ => XS.iand X0.here hx rfl (hb hby at_3) rfl) ?_
  show Run p e below _ (T0.setTop (mkF m 4 #[.val (.int p0), .val (.int p1), .val (.int p2), .val (.int p3), .val (.int p4), .unset, .unset, .unset, .unset, .unset, .unset, .unset, .unset, .unset, .unset, .unset, .unset] [(.int (p0 &&& (2147483647 : Int32)))]))
  refine go (fun _ => XS.istore X0.here hx rfl (hb hby at_4) rfl (l' := #[.val (.int p0), .val (.int p1), .val (.int p2), .val (.int p3), .val (.int p4), .val (.int (p0 &&& (2147483647 : Int32))), .unset, .unset, .unset, .unset, .unset, .unset, .unset, .unset, .unset, .unset, .unset]) rfl) ?_
  show Run p e below _ (T0.setTop (mkF m 6 #[.val (.int p0), .val (.int p1), .val (.int p2), .val (.int p3), .val (.int p4), .val (.int (p0 &&& (2147483647 : Int32))), .unset, .unset, .unset, .unset, .unset, .unset, .unset, .unset, .unset, .unset, .unset] []))
  refine go (fun _ => XS.iloadN X0.here hx rfl (hb hby at_6) rfl) ?_
  show Run p e below _ (T0.setTop (mkF m 7 #[.val (.int p0), .val (.int p1), .val (.int p2), .val (.int p3), .val (.int p4), .val (.int (p0 &&& (2147483647 : Int32))), .unset, .unset, .unset, .unset, .unset, .unset, .unset, .unset, .unset, .unset, .unset] [(.int p1)]))
  refine go (fun _ => X0.ldcI hx hown (mvT hZ (wd hw 0 rfl)) rfl (hb hby at_7)) ?_
  show Run p e below _ (T0.setTop (mkF m 9 #[.val (.int p0), .val (.int p1), .val (.int p2), .val (.int p3), .val (.int p4), .val (.int (p0 &&& (2147483647 : Int32))), .unset, .unset, .unset, .unset, .unset, .unset, .unset, .unset, .unset, .unset, .unset] [(.int (2147483647 : Int32)), (.int p1)]))
  refine go (fun _ => XS.iand X0.here hx rfl (hb hby at_9) rfl) ?_
  show Run p e below _ (T0.setTop (mkF m 10 #[.val (.int p0), .val (.int p1), .val (.int p2), .val (.int p3), .val (.int p4), .val (.int (p0 &&& (2147483647 : Int32))), .unset, .unset, .unset, .unset, .unset, .unset, .unset, .unset, .unset, .unset, .unset] [(.int (p1 &&& (2147483647 : Int32)))]))
  refine go (fun _ => XS.istore X0.here hx rfl (hb hby at_10) rfl (l' := #[.val (.int p0), .val (.int p1), .val (.int p2), .val (.int p3), .val (.int p4), .val (.int (p0 &&& (2147483647 : Int32))), .val (.int (p1 &&& (2147483647 : Int32))), .unset, .unset, .unset, .unset, .unset, .unset, .unset, .unset, .unset, .unset]) rfl) ?_
  show Run p e below _ (T0.setTop (mkF m 12 #[.val (.int p0), .val (.int p1), .val (.int p2), .val (.int p3), .val (.int p4), .val (.int (p0 &&& (2147483647 : Int32))), .val (.int (p1 &&& (2147483647 : Int32))), .unset, .unset, .unset, .unset, .unset, .unset, .unset, .unset, .unset, .unset] []))
  refine go (fun _ => XS.iload X0.here hx rfl (hb hby at_12) rfl) ?_
  show Run p e below _ (T0.setTop (mkF m 14 #[.val (.int p0), .val (.int p1), .val (.int p2), .val (.int p3), .val (.int p4), .val (.int (p0 &&& (2147483647 : Int32))), .val (.int (p1 &&& (2147483647 : Int32))), .unset, .unset, .unset, .unset, .unset, .unset, .unset, .unset, .unset, .unset] [(.int p4)]))
  refine go (fun _ => XS.iconst X0.here hx rfl (hb hby at_14)) ?_
  show Run p e below _ (T0.setTop (mkF m 15 #[.val (.int p0), .val (.int p1), .val (.int p2), .val (.int p3), .val (.int p4), .val (.int (p0 &&& (2147483647 : Int32))), .val (.int (p1 &&& (2147483647 : Int32))), .unset, .unset, .unset, .unset, .unset, .unset, .unset, .unset, .unset, .unset] [(.int (4 : Int32)), (.int p4)]))
  refine go (fun _ => XS.iand X0.here hx rfl (hb hby at_15) rfl) ?_
  show Run p e below _ (T0.setTop (mkF m 16 #[.val (.int p0), .val (.int p1), .val (.int p2), .val (.int p3), .val (.int p4), .val (.int (p0 &&& (2147483647 : Int32))), .val (.int (p1 &&& (2147483647 : Int32))), .unset, .unset, .unset, .unset, .unset, .unset, .unset, .unset, .unset, .unset] [(.int (p4 &&& (4 : Int32)))]))
  have J28 : ∀ (T34 : State) (L34 : List Loc) (X34 : Stand p l e room_1 s m #[(.int p0), (.int p1), (.int p2), (.int p3), (.int p4)] below meth c T34 L34 0 0) (e34 : T34.heap = h0) (N34 : Fr n0 L34) (vc : Int32)  (hvc : ¬ vc < 0), Run p e below (Ends s (Q_rmlaw p0 p1 p2 p3 p4 wc cl val h0 n0) 24 128) (T34.setTop (mkF m 28 #[.val (.int p0), .val (.int p1), .val (.int p2), .val (.int p3), .val (.int p4), .val (.int (p0 &&& (2147483647 : Int32))), .val (.int (p1 &&& (2147483647 : Int32))), .unset, .unset, .unset, .unset, .unset, .unset, .unset, .unset, .unset, .unset] [(.int vc)])) := by
    intro T34 L34 X34 e34 N34 vc  hvc
    refine go (fun _ => XS.istore X34.here hx rfl (hb hby at_28) rfl (l' := #[.val (.int p0), .val (.int p1), .val (.int p2), .val (.int p3), .val (.int p4), .val (.int (p0 &&& (2147483647 : Int32))), .val (.int (p1 &&& (2147483647 : Int32))), .val (.int vc), .unset, .unset, .unset, .unset, .unset, .unset, .unset, .unset, .unset]) rfl) ?_
    show Run p e below _ (T34.setTop (mkF m 30 #[.val (.int p0), .val (.int p1), .val (.int p2), .val (.int p3), .val (.int p4), .val (.int (p0 &&& (2147483647 : Int32))), .val (.int (p1 &&& (2147483647 : Int32))), .val (.int vc), .unset, .unset, .unset, .unset, .unset, .unset, .unset, .unset, .unset] []))
    refine go (fun _ => XS.iload X34.here hx rfl (hb hby at_30) rfl) ?_
    show Run p e below _ (T34.setTop (mkF m 32 #[.val (.int p0), .val (.int p1), .val (.int p2), .val (.int p3), .val (.int p4), .val (.int (p0 &&& (2147483647 : Int32))), .val (.int (p1 &&& (2147483647 : Int32))), .val (.int vc), .unset, .unset, .unset, .unset, .unset, .unset, .unset, .unset, .unset] [(.int p4)]))
    refine go (fun _ => XS.bipush X34.here hx rfl (hb hby at_32)) ?_
    show Run p e below _ (T34.setTop (mkF m 34 #[.val (.int p0), .val (.int p1), .val (.int p2), .val (.int p3), .val (.int p4), .val (.int (p0 &&& (2147483647 : Int32))), .val (.int (p1 &&& (2147483647 : Int32))), .val (.int vc), .unset, .unset, .unset, .unset, .unset, .unset, .unset, .unset, .unset] [(.int (8 : Int32)), (.int p4)]))
    refine go (fun _ => XS.iand X34.here hx rfl (hb hby at_34) rfl) ?_
    show Run p e below _ (T34.setTop (mkF m 35 #[.val (.int p0), .val (.int p1), .val (.int p2), .val (.int p3), .val (.int p4), .val (.int (p0 &&& (2147483647 : Int32))), .val (.int (p1 &&& (2147483647 : Int32))), .val (.int vc), .unset, .unset, .unset, .unset, .unset, .unset, .unset, .unset, .unset] [(.int (p4 &&& (8 : Int32)))]))
    have J47 : ∀ (T35 : State) (L35 : List Loc) (X35 : Stand p l e room_1 s m #[(.int p0), (.int p1), (.int p2), (.int p3), (.int p4)] below meth c T35 L35 0 0) (e35 : T35.heap = h0) (N35 : Fr n0 L35) (ve : Int32)  (hve : ¬ ve < 0), Run p e below (Ends s (Q_rmlaw p0 p1 p2 p3 p4 wc cl val h0 n0) 24 128) (T35.setTop (mkF m 47 #[.val (.int p0), .val (.int p1), .val (.int p2), .val (.int p3), .val (.int p4), .val (.int (p0 &&& (2147483647 : Int32))), .val (.int (p1 &&& (2147483647 : Int32))), .val (.int vc), .unset, .unset, .unset, .unset, .unset, .unset, .unset, .unset, .unset] [(.int ve)])) := by
      intro T35 L35 X35 e35 N35 ve  hve
      refine go (fun _ => XS.istore X35.here hx rfl (hb hby at_47) rfl (l' := #[.val (.int p0), .val (.int p1), .val (.int p2), .val (.int p3), .val (.int p4), .val (.int (p0 &&& (2147483647 : Int32))), .val (.int (p1 &&& (2147483647 : Int32))), .val (.int vc), .val (.int ve), .unset, .unset, .unset, .unset, .unset, .unset, .unset, .unset]) rfl) ?_
      show Run p e below _ (T35.setTop (mkF m 49 #[.val (.int p0), .val (.int p1), .val (.int p2), .val (.int p3), .val (.int p4), .val (.int (p0 &&& (2147483647 : Int32))), .val (.int (p1 &&& (2147483647 : Int32))), .val (.int vc), .val (.int ve), .unset, .unset, .unset, .unset, .unset, .unset, .unset, .unset] []))
      refine go (fun _ => XS.iload X35.here hx rfl (hb hby at_49) rfl) ?_
      show Run p e below _ (T35.setTop (mkF m 51 #[.val (.int p0), .val (.int p1), .val (.int p2), .val (.int p3), .val (.int p4), .val (.int (p0 &&& (2147483647 : Int32))), .val (.int (p1 &&& (2147483647 : Int32))), .val (.int vc), .val (.int ve), .unset, .unset, .unset, .unset, .unset, .unset, .unset, .unset] [(.int p4)]))
      refine go (fun _ => XS.iconst X35.here hx rfl (hb hby at_51)) ?_
      show Run p e below _ (T35.setTop (mkF m 52 #[.val (.int p0), .val (.int p1), .val (.int p2), .val (.int p3), .val (.int p4), .val (.int (p0 &&& (2147483647 : Int32))), .val (.int (p1 &&& (2147483647 : Int32))), .val (.int vc), .val (.int ve), .unset, .unset, .unset, .unset, .unset, .unset, .unset, .unset] [(.int (1 : Int32)), (.int p4)]))
      refine go (fun _ => XS.iand X35.here hx rfl (hb hby at_52) rfl) ?_
      show Run p e below _ (T35.setTop (mkF m 53 #[.val (.int p0), .val (.int p1), .val (.int p2), .val (.int p3), .val (.int p4), .val (.int (p0 &&& (2147483647 : Int32))), .val (.int (p1 &&& (2147483647 : Int32))), .val (.int vc), .val (.int ve), .unset, .unset, .unset, .unset, .unset, .unset, .unset, .unset] [(.int (p4 &&& (1 : Int32)))]))
      have J61 : ∀ (T36 : State) (L36 : List Loc) (X36 : Stand p l e room_1 s m #[(.int p0), (.int p1), (.int p2), (.int p3), (.int p4)] below meth c T36 L36 0 0) (e36 : T36.heap = h0) (N36 : Fr n0 L36) (f1 : Int32)  (hf1 : f1 = 0 ∨ f1 = 1), Run p e below (Ends s (Q_rmlaw p0 p1 p2 p3 p4 wc cl val h0 n0) 24 128) (T36.setTop (mkF m 61 #[.val (.int p0), .val (.int p1), .val (.int p2), .val (.int p3), .val (.int p4), .val (.int (p0 &&& (2147483647 : Int32))), .val (.int (p1 &&& (2147483647 : Int32))), .val (.int vc), .val (.int ve), .unset, .unset, .unset, .unset, .unset, .unset, .unset, .unset] [(.int f1)])) := by
        intro T36 L36 X36 e36 N36 f1  hf1
        refine go (fun _ => XS.istore X36.here hx rfl (hb hby at_61) rfl (l' := #[.val (.int p0), .val (.int p1), .val (.int p2), .val (.int p3), .val (.int p4), .val (.int (p0 &&& (2147483647 : Int32))), .val (.int (p1 &&& (2147483647 : Int32))), .val (.int vc), .val (.int ve), .val (.int f1), .unset, .unset, .unset, .unset, .unset, .unset, .unset]) rfl) ?_
        show Run p e below _ (T36.setTop (mkF m 63 #[.val (.int p0), .val (.int p1), .val (.int p2), .val (.int p3), .val (.int p4), .val (.int (p0 &&& (2147483647 : Int32))), .val (.int (p1 &&& (2147483647 : Int32))), .val (.int vc), .val (.int ve), .val (.int f1), .unset, .unset, .unset, .unset, .unset, .unset, .unset] []))
        refine go (fun _ => XS.iload X36.here hx rfl (hb hby at_63) rfl) ?_
        show Run p e below _ (T36.setTop (mkF m 65 #[.val (.int p0), .val (.int p1), .val (.int p2), .val (.int p3), .val (.int p4), .val (.int (p0 &&& (2147483647 : Int32))), .val (.int (p1 &&& (2147483647 : Int32))), .val (.int vc), .val (.int ve), .val (.int f1), .unset, .unset, .unset, .unset, .unset, .unset, .unset] [(.int p4)]))
        refine go (fun _ => XS.iconst X36.here hx rfl (hb hby at_65)) ?_
        show Run p e below _ (T36.setTop (mkF m 66 #[.val (.int p0), .val (.int p1), .val (.int p2), .val (.int p3), .val (.int p4), .val (.int (p0 &&& (2147483647 : Int32))), .val (.int (p1 &&& (2147483647 : Int32))), .val (.int vc), .val (.int ve), .val (.int f1), .unset, .unset, .unset, .unset, .unset, .unset, .unset] [(.int (2 : Int32)), (.int p4)]))
        refine go (fun _ => XS.iand X36.here hx rfl (hb hby at_66) rfl) ?_
        show Run p e below _ (T36.setTop (mkF m 67 #[.val (.int p0), .val (.int p1), .val (.int p2), .val (.int p3), .val (.int p4), .val (.int (p0 &&& (2147483647 : Int32))), .val (.int (p1 &&& (2147483647 : Int32))), .val (.int vc), .val (.int ve), .val (.int f1), .unset, .unset, .unset, .unset, .unset, .unset, .unset] [(.int (p4 &&& (2 : Int32)))]))
        have J75 : ∀ (T37 : State) (L37 : List Loc) (X37 : Stand p l e room_1 s m #[(.int p0), (.int p1), (.int p2), (.int p3), (.int p4)] below meth c T37 L37 0 0) (e37 : T37.heap = h0) (N37 : Fr n0 L37) (f2 : Int32)  (hf2 : f2 = 0 ∨ f2 = 1), Run p e below (Ends s (Q_rmlaw p0 p1 p2 p3 p4 wc cl val h0 n0) 24 128) (T37.setTop (mkF m 75 #[.val (.int p0), .val (.int p1), .val (.int p2), .val (.int p3), .val (.int p4), .val (.int (p0 &&& (2147483647 : Int32))), .val (.int (p1 &&& (2147483647 : Int32))), .val (.int vc), .val (.int ve), .val (.int f1), .unset, .unset, .unset, .unset, .unset, .unset, .unset] [(.int f2)])) := by
          intro T37 L37 X37 e37 N37 f2  hf2
          refine go (fun _ => XS.istore X37.here hx rfl (hb hby at_75) rfl (l' := #[.val (.int p0), .val (.int p1), .val (.int p2), .val (.int p3), .val (.int p4), .val (.int (p0 &&& (2147483647 : Int32))), .val (.int (p1 &&& (2147483647 : Int32))), .val (.int vc), .val (.int ve), .val (.int f1), .val (.int f2), .unset, .unset, .unset, .unset, .unset, .unset]) rfl) ?_
          show Run p e below _ (T37.setTop (mkF m 77 #[.val (.int p0), .val (.int p1), .val (.int p2), .val (.int p3), .val (.int p4), .val (.int (p0 &&& (2147483647 : Int32))), .val (.int (p1 &&& (2147483647 : Int32))), .val (.int vc), .val (.int ve), .val (.int f1), .val (.int f2), .unset, .unset, .unset, .unset, .unset, .unset] []))
          obtain ⟨T38, h38, X38, e38, E38, A38, D38, -, st38⟩ := newO X37 hx hZ hown (wd hw 1 rfl) (wd hw 2 rfl) (wd hw 3 rfl) e37 (g := (mkF m 77 #[.val (.int p0), .val (.int p1), .val (.int p2), .val (.int p3), .val (.int p4), .val (.int (p0 &&& (2147483647 : Int32))), .val (.int (p1 &&& (2147483647 : Int32))), .val (.int vc), .val (.int ve), .val (.int f1), .val (.int f2), .unset, .unset, .unset, .unset, .unset, .unset] [])) rfl (hb hby at_77) (by decide) (by decide)
          obtain ⟨b38, y38⟩ : ∃ z, z = h0.size := ⟨_, rfl⟩
          rw [← y38] at A38 D38 st38
          have g_b38 : n0 ≤ b38 := y38.symm ▸ old_sz O0
          have O0 := O0.ext E38
          have E_b38 := A38
          have F_up_b38 : Fld Z h38 b38 "com/example/lateral_guard/lateralguard/core/Radius" "up" "I" (.int (0 : Int32)) := D38 (Or.inr (wd hw 14 rfl)) (ty := .int) (by decide)
          have F_down_b38 : Fld Z h38 b38 "com/example/lateral_guard/lateralguard/core/Radius" "down" "I" (.int (0 : Int32)) := D38 (Or.inr (wd hw 16 rfl)) (ty := .int) (by decide)
          have F_flows_b38 : Fld Z h38 b38 "com/example/lateral_guard/lateralguard/core/Radius" "flows" "Z" (.int (0 : Int32)) := D38 (Or.inr (wd hw 18 rfl)) (ty := .boolean) (by decide)
          refine go st38 ?_
          show Run p e below _ (T38.setTop (mkF m 80 #[.val (.int p0), .val (.int p1), .val (.int p2), .val (.int p3), .val (.int p4), .val (.int (p0 &&& (2147483647 : Int32))), .val (.int (p1 &&& (2147483647 : Int32))), .val (.int vc), .val (.int ve), .val (.int f1), .val (.int f2), .unset, .unset, .unset, .unset, .unset, .unset] [(.ref b38)]))
          refine go (fun _ => XS.dup X38.here hx rfl (hb hby at_80) rfl rfl) ?_
          show Run p e below _ (T38.setTop (mkF m 81 #[.val (.int p0), .val (.int p1), .val (.int p2), .val (.int p3), .val (.int p4), .val (.int (p0 &&& (2147483647 : Int32))), .val (.int (p1 &&& (2147483647 : Int32))), .val (.int vc), .val (.int ve), .val (.int f1), .val (.int f2), .unset, .unset, .unset, .unset, .unset, .unset] [(.ref b38), (.ref b38)]))
          refine go (fun _ => XS.iload X38.here hx rfl (hb hby at_81) rfl) ?_
          show Run p e below _ (T38.setTop (mkF m 83 #[.val (.int p0), .val (.int p1), .val (.int p2), .val (.int p3), .val (.int p4), .val (.int (p0 &&& (2147483647 : Int32))), .val (.int (p1 &&& (2147483647 : Int32))), .val (.int vc), .val (.int ve), .val (.int f1), .val (.int f2), .unset, .unset, .unset, .unset, .unset, .unset] [(.int (p0 &&& (2147483647 : Int32))), (.ref b38), (.ref b38)]))
          refine go (fun _ => XS.iload X38.here hx rfl (hb hby at_83) rfl) ?_
          show Run p e below _ (T38.setTop (mkF m 85 #[.val (.int p0), .val (.int p1), .val (.int p2), .val (.int p3), .val (.int p4), .val (.int (p0 &&& (2147483647 : Int32))), .val (.int (p1 &&& (2147483647 : Int32))), .val (.int vc), .val (.int ve), .val (.int f1), .val (.int f2), .unset, .unset, .unset, .unset, .unset, .unset] [(.int (p1 &&& (2147483647 : Int32))), (.int (p0 &&& (2147483647 : Int32))), (.ref b38), (.ref b38)]))
          refine callSp X38 hx hZ rfl hown (wd hw 4 rfl) (wd hw 5 rfl) (wd hw 6 rfl) (wd hw 3 rfl) (by decide) e38 (a := b38) (argsL := [(.int (p0 &&& (2147483647 : Int32))), (.int (p1 &&& (2147483647 : Int32)))]) (rest := [(.ref b38)]) (rm_i2 l Z a0 hw [] b38 (p0 &&& (2147483647 : Int32)) (p1 &&& (2147483647 : Int32)) h38 n0 O0 E_b38 F_up_b38 F_down_b38 F_flows_b38 g_b38 (own_pos _) (own_pos _)) (W := 1) (by decide) (by decide) (by decide) (by decide) (by rw [hml]; rfl) (lenOf pd_3 rfl) rfl (Nat.le_of_eq rfl) (hb hby at_85) ?_
          intro v39 T39 L39 h39 X39 e39 q39
          obtain ⟨rfl, n39, K39, E_b38, F_up_b38, F_down_b38, F_flows_b38⟩ := q39
          have O0 := O0.keep K39 (allS g_b38 all0)
          have N39 := Fr.app N37 n39
          show Run p e below _ (T39.setTop (mkF m 88 #[.val (.int p0), .val (.int p1), .val (.int p2), .val (.int p3), .val (.int p4), .val (.int (p0 &&& (2147483647 : Int32))), .val (.int (p1 &&& (2147483647 : Int32))), .val (.int vc), .val (.int ve), .val (.int f1), .val (.int f2), .unset, .unset, .unset, .unset, .unset, .unset] [(.ref b38)]))
          refine go (fun _ => XS.astore X39.here hx rfl (hb hby at_88) rfl rfl (l' := #[.val (.int p0), .val (.int p1), .val (.int p2), .val (.int p3), .val (.int p4), .val (.int (p0 &&& (2147483647 : Int32))), .val (.int (p1 &&& (2147483647 : Int32))), .val (.int vc), .val (.int ve), .val (.int f1), .val (.int f2), .val (.ref b38), .unset, .unset, .unset, .unset, .unset]) rfl) ?_
          show Run p e below _ (T39.setTop (mkF m 90 #[.val (.int p0), .val (.int p1), .val (.int p2), .val (.int p3), .val (.int p4), .val (.int (p0 &&& (2147483647 : Int32))), .val (.int (p1 &&& (2147483647 : Int32))), .val (.int vc), .val (.int ve), .val (.int f1), .val (.int f2), .val (.ref b38), .unset, .unset, .unset, .unset, .unset] []))
          have J102 : ∀ (T40 : State) (L40 : List Loc) (h40 : Heap) (X40 : Stand p l e room_1 s m #[(.int p0), (.int p1), (.int p2), (.int p3), (.int p4)] below meth c T40 L40 2 6) (e40 : T40.heap = h40) (N40 : Fr n0 L40) (r : Addr) (O0 : Old Z n0 h40) (E_r : Exa Z h40 r "com/example/lateral_guard/lateralguard/core/Radius") (F_up_r : Fld Z h40 r "com/example/lateral_guard/lateralguard/core/Radius" "up" "I" (.int (p0 &&& (2147483647 : Int32)))) (F_down_r : Fld Z h40 r "com/example/lateral_guard/lateralguard/core/Radius" "down" "I" (.int (p1 &&& (2147483647 : Int32)))) (F_flows_r : Fld Z h40 r "com/example/lateral_guard/lateralguard/core/Radius" "flows" "Z" (.int f1)) , Run p e below (Ends s (Q_rmlaw p0 p1 p2 p3 p4 wc cl val h0 n0) 24 128) (T40.setTop (mkF m 102 #[.val (.int p0), .val (.int p1), .val (.int p2), .val (.int p3), .val (.int p4), .val (.int (p0 &&& (2147483647 : Int32))), .val (.int (p1 &&& (2147483647 : Int32))), .val (.int vc), .val (.int ve), .val (.int f1), .val (.int f2), .val (.ref r), .unset, .unset, .unset, .unset, .unset] [])) := by
            intro T40 L40 h40 X40 e40 N40 r O0 E_r F_up_r F_down_r F_flows_r 
            obtain ⟨T41, h41, X41, e41, E41, A41, D41, -, st41⟩ := newO X40 hx hZ hown (wd hw 1 rfl) (wd hw 2 rfl) (wd hw 3 rfl) e40 (g := (mkF m 102 #[.val (.int p0), .val (.int p1), .val (.int p2), .val (.int p3), .val (.int p4), .val (.int (p0 &&& (2147483647 : Int32))), .val (.int (p1 &&& (2147483647 : Int32))), .val (.int vc), .val (.int ve), .val (.int f1), .val (.int f2), .val (.ref r), .unset, .unset, .unset, .unset, .unset] [])) rfl (hb hby at_102) (by decide) (by decide)
            obtain ⟨b41, y41⟩ : ∃ z, z = h40.size := ⟨_, rfl⟩
            rw [← y41] at A41 D41 st41
            have g_b41 : n0 ≤ b41 := y41.symm ▸ old_sz O0
            have ne_r_b41 : r ≠ b41 := Nat.ne_of_lt (y41.symm ▸ E_r.lt)
            have O0 := O0.ext E41
            have E_r := E_r.ext E41
            have F_up_r := F_up_r.ext E41
            have F_down_r := F_down_r.ext E41
            have F_flows_r := F_flows_r.ext E41
            have E_b41 := A41
            have F_up_b41 : Fld Z h41 b41 "com/example/lateral_guard/lateralguard/core/Radius" "up" "I" (.int (0 : Int32)) := D41 (Or.inr (wd hw 14 rfl)) (ty := .int) (by decide)
            have F_down_b41 : Fld Z h41 b41 "com/example/lateral_guard/lateralguard/core/Radius" "down" "I" (.int (0 : Int32)) := D41 (Or.inr (wd hw 16 rfl)) (ty := .int) (by decide)
            have F_flows_b41 : Fld Z h41 b41 "com/example/lateral_guard/lateralguard/core/Radius" "flows" "Z" (.int (0 : Int32)) := D41 (Or.inr (wd hw 18 rfl)) (ty := .boolean) (by decide)
            refine go st41 ?_
            show Run p e below _ (T41.setTop (mkF m 105 #[.val (.int p0), .val (.int p1), .val (.int p2), .val (.int p3), .val (.int p4), .val (.int (p0 &&& (2147483647 : Int32))), .val (.int (p1 &&& (2147483647 : Int32))), .val (.int vc), .val (.int ve), .val (.int f1), .val (.int f2), .val (.ref r), .unset, .unset, .unset, .unset, .unset] [(.ref b41)]))
            refine go (fun _ => XS.dup X41.here hx rfl (hb hby at_105) rfl rfl) ?_
            show Run p e below _ (T41.setTop (mkF m 106 #[.val (.int p0), .val (.int p1), .val (.int p2), .val (.int p3), .val (.int p4), .val (.int (p0 &&& (2147483647 : Int32))), .val (.int (p1 &&& (2147483647 : Int32))), .val (.int vc), .val (.int ve), .val (.int f1), .val (.int f2), .val (.ref r), .unset, .unset, .unset, .unset, .unset] [(.ref b41), (.ref b41)]))
            refine go (fun _ => XS.iload X41.here hx rfl (hb hby at_106) rfl) ?_
            show Run p e below _ (T41.setTop (mkF m 108 #[.val (.int p0), .val (.int p1), .val (.int p2), .val (.int p3), .val (.int p4), .val (.int (p0 &&& (2147483647 : Int32))), .val (.int (p1 &&& (2147483647 : Int32))), .val (.int vc), .val (.int ve), .val (.int f1), .val (.int f2), .val (.ref r), .unset, .unset, .unset, .unset, .unset] [(.int vc), (.ref b41), (.ref b41)]))
            refine go (fun _ => XS.iload X41.here hx rfl (hb hby at_108) rfl) ?_
            show Run p e below _ (T41.setTop (mkF m 110 #[.val (.int p0), .val (.int p1), .val (.int p2), .val (.int p3), .val (.int p4), .val (.int (p0 &&& (2147483647 : Int32))), .val (.int (p1 &&& (2147483647 : Int32))), .val (.int vc), .val (.int ve), .val (.int f1), .val (.int f2), .val (.ref r), .unset, .unset, .unset, .unset, .unset] [(.int ve), (.int vc), (.ref b41), (.ref b41)]))
            refine callSp X41 hx hZ rfl hown (wd hw 4 rfl) (wd hw 5 rfl) (wd hw 6 rfl) (wd hw 3 rfl) (by decide) e41 (a := b41) (argsL := [(.int vc), (.int ve)]) (rest := [(.ref b41)]) (rm_i2 l Z a0 hw [] b41 vc ve h41 n0 O0 E_b41 F_up_b41 F_down_b41 F_flows_b41 g_b41 hvc hve) (W := 1) (by decide) (by decide) (by decide) (by decide) (by rw [hml]; rfl) (lenOf pd_3 rfl) rfl (Nat.le_of_eq rfl) (hb hby at_110) ?_
            intro v42 T42 L42 h42 X42 e42 q42
            obtain ⟨rfl, n42, K42, E_b41, F_up_b41, F_down_b41, F_flows_b41⟩ := q42
            have O0 := O0.keep K42 (allS g_b41 all0)
            have E_r := E_r.keep K42
            have F_up_r := F_up_r.keep K42 (ninS ne_r_b41 nin0)
            have F_down_r := F_down_r.keep K42 (ninS ne_r_b41 nin0)
            have F_flows_r := F_flows_r.keep K42 (ninS ne_r_b41 nin0)
            have N42 := Fr.app N40 n42
            show Run p e below _ (T42.setTop (mkF m 113 #[.val (.int p0), .val (.int p1), .val (.int p2), .val (.int p3), .val (.int p4), .val (.int (p0 &&& (2147483647 : Int32))), .val (.int (p1 &&& (2147483647 : Int32))), .val (.int vc), .val (.int ve), .val (.int f1), .val (.int f2), .val (.ref r), .unset, .unset, .unset, .unset, .unset] [(.ref b41)]))
            refine go (fun _ => XS.astore X42.here hx rfl (hb hby at_113) rfl rfl (l' := #[.val (.int p0), .val (.int p1), .val (.int p2), .val (.int p3), .val (.int p4), .val (.int (p0 &&& (2147483647 : Int32))), .val (.int (p1 &&& (2147483647 : Int32))), .val (.int vc), .val (.int ve), .val (.int f1), .val (.int f2), .val (.ref r), .val (.ref b41), .unset, .unset, .unset, .unset]) rfl) ?_
            show Run p e below _ (T42.setTop (mkF m 115 #[.val (.int p0), .val (.int p1), .val (.int p2), .val (.int p3), .val (.int p4), .val (.int (p0 &&& (2147483647 : Int32))), .val (.int (p1 &&& (2147483647 : Int32))), .val (.int vc), .val (.int ve), .val (.int f1), .val (.int f2), .val (.ref r), .val (.ref b41), .unset, .unset, .unset, .unset] []))
            have J127 : ∀ (T43 : State) (L43 : List Loc) (h43 : Heap) (X43 : Stand p l e room_1 s m #[(.int p0), (.int p1), (.int p2), (.int p3), (.int p4)] below meth c T43 L43 4 12) (e43 : T43.heap = h43) (N43 : Fr n0 L43) (u : Addr) (O0 : Old Z n0 h43) (E_r : Exa Z h43 r "com/example/lateral_guard/lateralguard/core/Radius") (F_up_r : Fld Z h43 r "com/example/lateral_guard/lateralguard/core/Radius" "up" "I" (.int (p0 &&& (2147483647 : Int32)))) (F_down_r : Fld Z h43 r "com/example/lateral_guard/lateralguard/core/Radius" "down" "I" (.int (p1 &&& (2147483647 : Int32)))) (F_flows_r : Fld Z h43 r "com/example/lateral_guard/lateralguard/core/Radius" "flows" "Z" (.int f1)) (E_u : Exa Z h43 u "com/example/lateral_guard/lateralguard/core/Radius") (F_up_u : Fld Z h43 u "com/example/lateral_guard/lateralguard/core/Radius" "up" "I" (.int vc)) (F_down_u : Fld Z h43 u "com/example/lateral_guard/lateralguard/core/Radius" "down" "I" (.int ve)) (F_flows_u : Fld Z h43 u "com/example/lateral_guard/lateralguard/core/Radius" "flows" "Z" (.int f2)) , Run p e below (Ends s (Q_rmlaw p0 p1 p2 p3 p4 wc cl val h0 n0) 24 128) (T43.setTop (mkF m 127 #[.val (.int p0), .val (.int p1), .val (.int p2), .val (.int p3), .val (.int p4), .val (.int (p0 &&& (2147483647 : Int32))), .val (.int (p1 &&& (2147483647 : Int32))), .val (.int vc), .val (.int ve), .val (.int f1), .val (.int f2), .val (.ref r), .val (.ref u), .unset, .unset, .unset, .unset] [])) := by
              intro T43 L43 h43 X43 e43 N43 u O0 E_r F_up_r F_down_r F_flows_r E_u F_up_u F_down_u F_flows_u 
              refine go (fun _ => XS.iload X43.here hx rfl (hb hby at_127) rfl) ?_
              show Run p e below _ (T43.setTop (mkF m 129 #[.val (.int p0), .val (.int p1), .val (.int p2), .val (.int p3), .val (.int p4), .val (.int (p0 &&& (2147483647 : Int32))), .val (.int (p1 &&& (2147483647 : Int32))), .val (.int vc), .val (.int ve), .val (.int f1), .val (.int f2), .val (.ref r), .val (.ref u), .unset, .unset, .unset, .unset] [(.int p4)]))
              refine go (fun _ => XS.iconst X43.here hx rfl (hb hby at_129)) ?_
              show Run p e below _ (T43.setTop (mkF m 130 #[.val (.int p0), .val (.int p1), .val (.int p2), .val (.int p3), .val (.int p4), .val (.int (p0 &&& (2147483647 : Int32))), .val (.int (p1 &&& (2147483647 : Int32))), .val (.int vc), .val (.int ve), .val (.int f1), .val (.int f2), .val (.ref r), .val (.ref u), .unset, .unset, .unset, .unset] [(.int (4 : Int32)), (.int p4)]))
              refine go (fun _ => XS.iushr X43.here hx rfl (hb hby at_130) rfl) ?_
              show Run p e below _ (T43.setTop (mkF m 131 #[.val (.int p0), .val (.int p1), .val (.int p2), .val (.int p3), .val (.int p4), .val (.int (p0 &&& (2147483647 : Int32))), .val (.int (p1 &&& (2147483647 : Int32))), .val (.int vc), .val (.int ve), .val (.int f1), .val (.int f2), .val (.ref r), .val (.ref u), .unset, .unset, .unset, .unset] [(.int ((p4.toUInt32 >>> ((4 : Int32) &&& 31).toUInt32).toInt32))]))
              refine go (fun _ => XS.iconst X43.here hx rfl (hb hby at_131)) ?_
              show Run p e below _ (T43.setTop (mkF m 132 #[.val (.int p0), .val (.int p1), .val (.int p2), .val (.int p3), .val (.int p4), .val (.int (p0 &&& (2147483647 : Int32))), .val (.int (p1 &&& (2147483647 : Int32))), .val (.int vc), .val (.int ve), .val (.int f1), .val (.int f2), .val (.ref r), .val (.ref u), .unset, .unset, .unset, .unset] [(.int (3 : Int32)), (.int ((p4.toUInt32 >>> ((4 : Int32) &&& 31).toUInt32).toInt32))]))
              refine go (fun _ => XS.iand X43.here hx rfl (hb hby at_132) rfl) ?_
              show Run p e below _ (T43.setTop (mkF m 133 #[.val (.int p0), .val (.int p1), .val (.int p2), .val (.int p3), .val (.int p4), .val (.int (p0 &&& (2147483647 : Int32))), .val (.int (p1 &&& (2147483647 : Int32))), .val (.int vc), .val (.int ve), .val (.int f1), .val (.int f2), .val (.ref r), .val (.ref u), .unset, .unset, .unset, .unset] [(.int (((p4.toUInt32 >>> ((4 : Int32) &&& 31).toUInt32).toInt32) &&& (3 : Int32)))]))
              refine go (fun _ => XS.istore X43.here hx rfl (hb hby at_133) rfl (l' := #[.val (.int p0), .val (.int p1), .val (.int p2), .val (.int p3), .val (.int p4), .val (.int (p0 &&& (2147483647 : Int32))), .val (.int (p1 &&& (2147483647 : Int32))), .val (.int vc), .val (.int ve), .val (.int f1), .val (.int f2), .val (.ref r), .val (.ref u), .val (.int (((p4.toUInt32 >>> ((4 : Int32) &&& 31).toUInt32).toInt32) &&& (3 : Int32))), .unset, .unset, .unset]) rfl) ?_
              show Run p e below _ (T43.setTop (mkF m 135 #[.val (.int p0), .val (.int p1), .val (.int p2), .val (.int p3), .val (.int p4), .val (.int (p0 &&& (2147483647 : Int32))), .val (.int (p1 &&& (2147483647 : Int32))), .val (.int vc), .val (.int ve), .val (.int f1), .val (.int f2), .val (.ref r), .val (.ref u), .val (.int (((p4.toUInt32 >>> ((4 : Int32) &&& 31).toUInt32).toInt32) &&& (3 : Int32))), .unset, .unset, .unset] []))
              refine go (fun _ => XS.iload X43.here hx rfl (hb hby at_135) rfl) ?_
              show Run p e below _ (T43.setTop (mkF m 137 #[.val (.int p0), .val (.int p1), .val (.int p2), .val (.int p3), .val (.int p4), .val (.int (p0 &&& (2147483647 : Int32))), .val (.int (p1 &&& (2147483647 : Int32))), .val (.int vc), .val (.int ve), .val (.int f1), .val (.int f2), .val (.ref r), .val (.ref u), .val (.int (((p4.toUInt32 >>> ((4 : Int32) &&& 31).toUInt32).toInt32) &&& (3 : Int32))), .unset, .unset, .unset] [(.int (((p4.toUInt32 >>> ((4 : Int32) &&& 31).toUInt32).toInt32) &&& (3 : Int32)))]))
              by_cases c44 : (((p4.toUInt32 >>> ((4 : Int32) &&& 31).toUInt32).toInt32) &&& (3 : Int32)) = 0
              · skip
                refine go (fun _ => XS.ifNo X43.here hx rfl (hb hby at_137) rfl ((if0 _ _).trans (teq c44).2)) ?_
                show Run p e below _ (T43.setTop (mkF m 140 #[.val (.int p0), .val (.int p1), .val (.int p2), .val (.int p3), .val (.int p4), .val (.int (p0 &&& (2147483647 : Int32))), .val (.int (p1 &&& (2147483647 : Int32))), .val (.int vc), .val (.int ve), .val (.int f1), .val (.int f2), .val (.ref r), .val (.ref u), .val (.int (((p4.toUInt32 >>> ((4 : Int32) &&& 31).toUInt32).toInt32) &&& (3 : Int32))), .unset, .unset, .unset] []))
                refine go (fun _ => XS.aload X43.here hx rfl (hb hby at_140) rfl rfl) ?_
                show Run p e below _ (T43.setTop (mkF m 142 #[.val (.int p0), .val (.int p1), .val (.int p2), .val (.int p3), .val (.int p4), .val (.int (p0 &&& (2147483647 : Int32))), .val (.int (p1 &&& (2147483647 : Int32))), .val (.int vc), .val (.int ve), .val (.int f1), .val (.int f2), .val (.ref r), .val (.ref u), .val (.int (((p4.toUInt32 >>> ((4 : Int32) &&& 31).toUInt32).toInt32) &&& (3 : Int32))), .unset, .unset, .unset] [(.ref u)]))
                refine go (fun _ => XS.astore X43.here hx rfl (hb hby at_142) rfl rfl (l' := #[.val (.int p0), .val (.int p1), .val (.int p2), .val (.int p3), .val (.int p4), .val (.int (p0 &&& (2147483647 : Int32))), .val (.int (p1 &&& (2147483647 : Int32))), .val (.int vc), .val (.int ve), .val (.int f1), .val (.int f2), .val (.ref r), .val (.ref u), .val (.int (((p4.toUInt32 >>> ((4 : Int32) &&& 31).toUInt32).toInt32) &&& (3 : Int32))), .val (.ref u), .unset, .unset]) rfl) ?_
                show Run p e below _ (T43.setTop (mkF m 144 #[.val (.int p0), .val (.int p1), .val (.int p2), .val (.int p3), .val (.int p4), .val (.int (p0 &&& (2147483647 : Int32))), .val (.int (p1 &&& (2147483647 : Int32))), .val (.int vc), .val (.int ve), .val (.int f1), .val (.int f2), .val (.ref r), .val (.ref u), .val (.int (((p4.toUInt32 >>> ((4 : Int32) &&& 31).toUInt32).toInt32) &&& (3 : Int32))), .val (.ref u), .unset, .unset] []))
                refine go (fun _ => XS.iload X43.here hx rfl (hb hby at_144) rfl) ?_
                show Run p e below _ (T43.setTop (mkF m 146 #[.val (.int p0), .val (.int p1), .val (.int p2), .val (.int p3), .val (.int p4), .val (.int (p0 &&& (2147483647 : Int32))), .val (.int (p1 &&& (2147483647 : Int32))), .val (.int vc), .val (.int ve), .val (.int f1), .val (.int f2), .val (.ref r), .val (.ref u), .val (.int (((p4.toUInt32 >>> ((4 : Int32) &&& 31).toUInt32).toInt32) &&& (3 : Int32))), .val (.ref u), .unset, .unset] [(.int (p0 &&& (2147483647 : Int32)))]))
                refine go (fun _ => XS.iload X43.here hx rfl (hb hby at_146) rfl) ?_
                show Run p e below _ (T43.setTop (mkF m 148 #[.val (.int p0), .val (.int p1), .val (.int p2), .val (.int p3), .val (.int p4), .val (.int (p0 &&& (2147483647 : Int32))), .val (.int (p1 &&& (2147483647 : Int32))), .val (.int vc), .val (.int ve), .val (.int f1), .val (.int f2), .val (.ref r), .val (.ref u), .val (.int (((p4.toUInt32 >>> ((4 : Int32) &&& 31).toUInt32).toInt32) &&& (3 : Int32))), .val (.ref u), .unset, .unset] [(.int vc), (.int (p0 &&& (2147483647 : Int32)))]))
                by_cases c45 : (p0 &&& (2147483647 : Int32)) = vc
                · skip
                  refine go (fun _ => XS.icmpNo X43.here hx rfl (hb hby at_148) rfl (teq c45).2) ?_
                  show Run p e below _ (T43.setTop (mkF m 151 #[.val (.int p0), .val (.int p1), .val (.int p2), .val (.int p3), .val (.int p4), .val (.int (p0 &&& (2147483647 : Int32))), .val (.int (p1 &&& (2147483647 : Int32))), .val (.int vc), .val (.int ve), .val (.int f1), .val (.int f2), .val (.ref r), .val (.ref u), .val (.int (((p4.toUInt32 >>> ((4 : Int32) &&& 31).toUInt32).toInt32) &&& (3 : Int32))), .val (.ref u), .unset, .unset] []))
                  refine go (fun _ => XS.iload X43.here hx rfl (hb hby at_151) rfl) ?_
                  show Run p e below _ (T43.setTop (mkF m 153 #[.val (.int p0), .val (.int p1), .val (.int p2), .val (.int p3), .val (.int p4), .val (.int (p0 &&& (2147483647 : Int32))), .val (.int (p1 &&& (2147483647 : Int32))), .val (.int vc), .val (.int ve), .val (.int f1), .val (.int f2), .val (.ref r), .val (.ref u), .val (.int (((p4.toUInt32 >>> ((4 : Int32) &&& 31).toUInt32).toInt32) &&& (3 : Int32))), .val (.ref u), .unset, .unset] [(.int (p1 &&& (2147483647 : Int32)))]))
                  refine go (fun _ => XS.iload X43.here hx rfl (hb hby at_153) rfl) ?_
                  show Run p e below _ (T43.setTop (mkF m 155 #[.val (.int p0), .val (.int p1), .val (.int p2), .val (.int p3), .val (.int p4), .val (.int (p0 &&& (2147483647 : Int32))), .val (.int (p1 &&& (2147483647 : Int32))), .val (.int vc), .val (.int ve), .val (.int f1), .val (.int f2), .val (.ref r), .val (.ref u), .val (.int (((p4.toUInt32 >>> ((4 : Int32) &&& 31).toUInt32).toInt32) &&& (3 : Int32))), .val (.ref u), .unset, .unset] [(.int ve), (.int (p1 &&& (2147483647 : Int32)))]))
                  by_cases c46 : (p1 &&& (2147483647 : Int32)) = ve
                  · skip
                    refine go (fun _ => XS.icmpNo X43.here hx rfl (hb hby at_155) rfl (teq c46).2) ?_
                    show Run p e below _ (T43.setTop (mkF m 158 #[.val (.int p0), .val (.int p1), .val (.int p2), .val (.int p3), .val (.int p4), .val (.int (p0 &&& (2147483647 : Int32))), .val (.int (p1 &&& (2147483647 : Int32))), .val (.int vc), .val (.int ve), .val (.int f1), .val (.int f2), .val (.ref r), .val (.ref u), .val (.int (((p4.toUInt32 >>> ((4 : Int32) &&& 31).toUInt32).toInt32) &&& (3 : Int32))), .val (.ref u), .unset, .unset] []))
                    refine go (fun _ => XS.iload X43.here hx rfl (hb hby at_158) rfl) ?_
                    show Run p e below _ (T43.setTop (mkF m 160 #[.val (.int p0), .val (.int p1), .val (.int p2), .val (.int p3), .val (.int p4), .val (.int (p0 &&& (2147483647 : Int32))), .val (.int (p1 &&& (2147483647 : Int32))), .val (.int vc), .val (.int ve), .val (.int f1), .val (.int f2), .val (.ref r), .val (.ref u), .val (.int (((p4.toUInt32 >>> ((4 : Int32) &&& 31).toUInt32).toInt32) &&& (3 : Int32))), .val (.ref u), .unset, .unset] [(.int f1)]))
                    refine go (fun _ => XS.iload X43.here hx rfl (hb hby at_160) rfl) ?_
                    show Run p e below _ (T43.setTop (mkF m 162 #[.val (.int p0), .val (.int p1), .val (.int p2), .val (.int p3), .val (.int p4), .val (.int (p0 &&& (2147483647 : Int32))), .val (.int (p1 &&& (2147483647 : Int32))), .val (.int vc), .val (.int ve), .val (.int f1), .val (.int f2), .val (.ref r), .val (.ref u), .val (.int (((p4.toUInt32 >>> ((4 : Int32) &&& 31).toUInt32).toInt32) &&& (3 : Int32))), .val (.ref u), .unset, .unset] [(.int f2), (.int f1)]))
                    by_cases c47 : f1 = f2
                    · skip
                      refine go (fun _ => XS.icmpNo X43.here hx rfl (hb hby at_162) rfl (teq c47).2) ?_
                      show Run p e below _ (T43.setTop (mkF m 165 #[.val (.int p0), .val (.int p1), .val (.int p2), .val (.int p3), .val (.int p4), .val (.int (p0 &&& (2147483647 : Int32))), .val (.int (p1 &&& (2147483647 : Int32))), .val (.int vc), .val (.int ve), .val (.int f1), .val (.int f2), .val (.ref r), .val (.ref u), .val (.int (((p4.toUInt32 >>> ((4 : Int32) &&& 31).toUInt32).toInt32) &&& (3 : Int32))), .val (.ref u), .unset, .unset] []))
                      refine go (fun _ => XS.iconst X43.here hx rfl (hb hby at_165)) ?_
                      show Run p e below _ (T43.setTop (mkF m 166 #[.val (.int p0), .val (.int p1), .val (.int p2), .val (.int p3), .val (.int p4), .val (.int (p0 &&& (2147483647 : Int32))), .val (.int (p1 &&& (2147483647 : Int32))), .val (.int vc), .val (.int ve), .val (.int f1), .val (.int f2), .val (.ref r), .val (.ref u), .val (.int (((p4.toUInt32 >>> ((4 : Int32) &&& 31).toUInt32).toInt32) &&& (3 : Int32))), .val (.ref u), .unset, .unset] [(.int (1 : Int32))]))
                      refine go (fun _ => XS.goto X43.here hx rfl (pc0 := 166) (pc' := 170) rfl (hb hby at_166) (by decide) (by decide)) ?_
                      show Run p e below _ (T43.setTop (mkF m 170 #[.val (.int p0), .val (.int p1), .val (.int p2), .val (.int p3), .val (.int p4), .val (.int (p0 &&& (2147483647 : Int32))), .val (.int (p1 &&& (2147483647 : Int32))), .val (.int vc), .val (.int ve), .val (.int f1), .val (.int f2), .val (.ref r), .val (.ref u), .val (.int (((p4.toUInt32 >>> ((4 : Int32) &&& 31).toUInt32).toInt32) &&& (3 : Int32))), .val (.ref u), .unset, .unset] [(.int (1 : Int32))]))
                      refine go (fun _ => XS.istore X43.here hx rfl (hb hby at_170) rfl (l' := #[.val (.int p0), .val (.int p1), .val (.int p2), .val (.int p3), .val (.int p4), .val (.int (p0 &&& (2147483647 : Int32))), .val (.int (p1 &&& (2147483647 : Int32))), .val (.int vc), .val (.int ve), .val (.int f1), .val (.int f2), .val (.ref r), .val (.ref u), .val (.int (((p4.toUInt32 >>> ((4 : Int32) &&& 31).toUInt32).toInt32) &&& (3 : Int32))), .val (.ref u), .val (.int (1 : Int32)), .unset]) rfl) ?_
                      show Run p e below _ (T43.setTop (mkF m 172 #[.val (.int p0), .val (.int p1), .val (.int p2), .val (.int p3), .val (.int p4), .val (.int (p0 &&& (2147483647 : Int32))), .val (.int (p1 &&& (2147483647 : Int32))), .val (.int vc), .val (.int ve), .val (.int f1), .val (.int f2), .val (.ref r), .val (.ref u), .val (.int (((p4.toUInt32 >>> ((4 : Int32) &&& 31).toUInt32).toInt32) &&& (3 : Int32))), .val (.ref u), .val (.int (1 : Int32)), .unset] []))
                      refine go (fun _ => XS.goto X43.here hx rfl (pc0 := 172) (pc' := 216) rfl (hb hby at_172) (by decide) (by decide)) ?_
                      show Run p e below _ (T43.setTop (mkF m 216 #[.val (.int p0), .val (.int p1), .val (.int p2), .val (.int p3), .val (.int p4), .val (.int (p0 &&& (2147483647 : Int32))), .val (.int (p1 &&& (2147483647 : Int32))), .val (.int vc), .val (.int ve), .val (.int f1), .val (.int f2), .val (.ref r), .val (.ref u), .val (.int (((p4.toUInt32 >>> ((4 : Int32) &&& 31).toUInt32).toInt32) &&& (3 : Int32))), .val (.ref u), .val (.int (1 : Int32)), .unset] []))
                      refine go (fun _ => XS.aload X43.here hx rfl (hb hby at_216) rfl rfl) ?_
                      show Run p e below _ (T43.setTop (mkF m 218 #[.val (.int p0), .val (.int p1), .val (.int p2), .val (.int p3), .val (.int p4), .val (.int (p0 &&& (2147483647 : Int32))), .val (.int (p1 &&& (2147483647 : Int32))), .val (.int vc), .val (.int ve), .val (.int f1), .val (.int f2), .val (.ref r), .val (.ref u), .val (.int (((p4.toUInt32 >>> ((4 : Int32) &&& 31).toUInt32).toInt32) &&& (3 : Int32))), .val (.ref u), .val (.int (1 : Int32)), .unset] [(.ref r)]))
                      refine go (fun _ => XS.aload X43.here hx rfl (hb hby at_218) rfl rfl) ?_
                      show Run p e below _ (T43.setTop (mkF m 220 #[.val (.int p0), .val (.int p1), .val (.int p2), .val (.int p3), .val (.int p4), .val (.int (p0 &&& (2147483647 : Int32))), .val (.int (p1 &&& (2147483647 : Int32))), .val (.int vc), .val (.int ve), .val (.int f1), .val (.int f2), .val (.ref r), .val (.ref u), .val (.int (((p4.toUInt32 >>> ((4 : Int32) &&& 31).toUInt32).toInt32) &&& (3 : Int32))), .val (.ref u), .val (.int (1 : Int32)), .unset] [(.ref u), (.ref r)]))
                      refine callVi X43 hx hZ hown (wd hw 19 rfl) (wd hw 20 rfl) (notFace_of_selects (args := #[]) (mvT hZ (wd hw 22 rfl))) (wd hw 22 rfl) (wd hw 21 rfl) (wd hw 23 rfl) (wd hw 3 rfl) (by decide) e43 E_r (argsL := [(.ref u)]) (rest := []) (rm_eR l Z a0 hw [] r u (p0 &&& (2147483647 : Int32)) (p1 &&& (2147483647 : Int32)) f1 vc ve f2 h43 n0 O0 E_r F_up_r F_down_r F_flows_r E_u F_up_u F_down_u F_flows_u) (W := 0) (by decide) (by decide) (by decide) (by decide) (by rw [hml]; rfl) (lenOf pd_4 rfl) rfl (Nat.le_of_eq rfl) (hb hby at_220) ?_
                      intro v48 T48 L48 h48 X48 e48 q48
                      obtain ⟨rv, n48, k48⟩ := q48
                      replace rv : v48 = some (.int (1 : Int32)) := by simpa [c45, c46, c47] using rv
                      subst rv
                      have e48 := e48.trans k48
                      have N48 := Fr.app N43 n48
                      show Run p e below _ (T48.setTop (mkF m 223 #[.val (.int p0), .val (.int p1), .val (.int p2), .val (.int p3), .val (.int p4), .val (.int (p0 &&& (2147483647 : Int32))), .val (.int (p1 &&& (2147483647 : Int32))), .val (.int vc), .val (.int ve), .val (.int f1), .val (.int f2), .val (.ref r), .val (.ref u), .val (.int (((p4.toUInt32 >>> ((4 : Int32) &&& 31).toUInt32).toInt32) &&& (3 : Int32))), .val (.ref u), .val (.int (1 : Int32)), .unset] [(.int (1 : Int32))]))
                      refine go (fun _ => XS.iload X48.here hx rfl (hb hby at_223) rfl) ?_
                      show Run p e below _ (T48.setTop (mkF m 225 #[.val (.int p0), .val (.int p1), .val (.int p2), .val (.int p3), .val (.int p4), .val (.int (p0 &&& (2147483647 : Int32))), .val (.int (p1 &&& (2147483647 : Int32))), .val (.int vc), .val (.int ve), .val (.int f1), .val (.int f2), .val (.ref r), .val (.ref u), .val (.int (((p4.toUInt32 >>> ((4 : Int32) &&& 31).toUInt32).toInt32) &&& (3 : Int32))), .val (.ref u), .val (.int (1 : Int32)), .unset] [(.int (1 : Int32)), (.int (1 : Int32))]))
                      refine go (fun _ => XS.icmpNo X48.here hx rfl (hb hby at_225) rfl (teq (by decide : (1 : Int32) = 1)).2) ?_
                      show Run p e below _ (T48.setTop (mkF m 228 #[.val (.int p0), .val (.int p1), .val (.int p2), .val (.int p3), .val (.int p4), .val (.int (p0 &&& (2147483647 : Int32))), .val (.int (p1 &&& (2147483647 : Int32))), .val (.int vc), .val (.int ve), .val (.int f1), .val (.int f2), .val (.ref r), .val (.ref u), .val (.int (((p4.toUInt32 >>> ((4 : Int32) &&& 31).toUInt32).toInt32) &&& (3 : Int32))), .val (.ref u), .val (.int (1 : Int32)), .unset] []))
                      refine go (fun _ => XS.iconst X48.here hx rfl (hb hby at_228)) ?_
                      show Run p e below _ (T48.setTop (mkF m 229 #[.val (.int p0), .val (.int p1), .val (.int p2), .val (.int p3), .val (.int p4), .val (.int (p0 &&& (2147483647 : Int32))), .val (.int (p1 &&& (2147483647 : Int32))), .val (.int vc), .val (.int ve), .val (.int f1), .val (.int f2), .val (.ref r), .val (.ref u), .val (.int (((p4.toUInt32 >>> ((4 : Int32) &&& 31).toUInt32).toInt32) &&& (3 : Int32))), .val (.ref u), .val (.int (1 : Int32)), .unset] [(.int (1 : Int32))]))
                      refine go (fun _ => XS.goto X48.here hx rfl (pc0 := 229) (pc' := 233) rfl (hb hby at_229) (by decide) (by decide)) ?_
                      show Run p e below _ (T48.setTop (mkF m 233 #[.val (.int p0), .val (.int p1), .val (.int p2), .val (.int p3), .val (.int p4), .val (.int (p0 &&& (2147483647 : Int32))), .val (.int (p1 &&& (2147483647 : Int32))), .val (.int vc), .val (.int ve), .val (.int f1), .val (.int f2), .val (.ref r), .val (.ref u), .val (.int (((p4.toUInt32 >>> ((4 : Int32) &&& 31).toUInt32).toInt32) &&& (3 : Int32))), .val (.ref u), .val (.int (1 : Int32)), .unset] [(.int (1 : Int32))]))
                      refine go (fun _ => XS.istore X48.here hx rfl (hb hby at_233) rfl (l' := #[.val (.int p0), .val (.int p1), .val (.int p2), .val (.int p3), .val (.int p4), .val (.int (p0 &&& (2147483647 : Int32))), .val (.int (p1 &&& (2147483647 : Int32))), .val (.int vc), .val (.int ve), .val (.int f1), .val (.int f2), .val (.ref r), .val (.ref u), .val (.int (((p4.toUInt32 >>> ((4 : Int32) &&& 31).toUInt32).toInt32) &&& (3 : Int32))), .val (.ref u), .val (.int (1 : Int32)), .val (.int (1 : Int32))]) rfl) ?_
                      show Run p e below _ (T48.setTop (mkF m 235 #[.val (.int p0), .val (.int p1), .val (.int p2), .val (.int p3), .val (.int p4), .val (.int (p0 &&& (2147483647 : Int32))), .val (.int (p1 &&& (2147483647 : Int32))), .val (.int vc), .val (.int ve), .val (.int f1), .val (.int f2), .val (.ref r), .val (.ref u), .val (.int (((p4.toUInt32 >>> ((4 : Int32) &&& 31).toUInt32).toInt32) &&& (3 : Int32))), .val (.ref u), .val (.int (1 : Int32)), .val (.int (1 : Int32))] []))
                      refine go (fun _ => XS.iload X48.here hx rfl (hb hby at_235) rfl) ?_
                      show Run p e below _ (T48.setTop (mkF m 237 #[.val (.int p0), .val (.int p1), .val (.int p2), .val (.int p3), .val (.int p4), .val (.int (p0 &&& (2147483647 : Int32))), .val (.int (p1 &&& (2147483647 : Int32))), .val (.int vc), .val (.int ve), .val (.int f1), .val (.int f2), .val (.ref r), .val (.ref u), .val (.int (((p4.toUInt32 >>> ((4 : Int32) &&& 31).toUInt32).toInt32) &&& (3 : Int32))), .val (.ref u), .val (.int (1 : Int32)), .val (.int (1 : Int32))] [(.int (((p4.toUInt32 >>> ((4 : Int32) &&& 31).toUInt32).toInt32) &&& (3 : Int32)))]))
                      refine go (fun _ => XS.ifNo X48.here hx rfl (hb hby at_237) rfl ((if0 _ _).trans (teq c44).2)) ?_
                      show Run p e below _ (T48.setTop (mkF m 240 #[.val (.int p0), .val (.int p1), .val (.int p2), .val (.int p3), .val (.int p4), .val (.int (p0 &&& (2147483647 : Int32))), .val (.int (p1 &&& (2147483647 : Int32))), .val (.int vc), .val (.int ve), .val (.int f1), .val (.int f2), .val (.ref r), .val (.ref u), .val (.int (((p4.toUInt32 >>> ((4 : Int32) &&& 31).toUInt32).toInt32) &&& (3 : Int32))), .val (.ref u), .val (.int (1 : Int32)), .val (.int (1 : Int32))] []))
                      refine go (fun _ => XS.iload X48.here hx rfl (hb hby at_240) rfl) ?_
                      show Run p e below _ (T48.setTop (mkF m 242 #[.val (.int p0), .val (.int p1), .val (.int p2), .val (.int p3), .val (.int p4), .val (.int (p0 &&& (2147483647 : Int32))), .val (.int (p1 &&& (2147483647 : Int32))), .val (.int vc), .val (.int ve), .val (.int f1), .val (.int f2), .val (.ref r), .val (.ref u), .val (.int (((p4.toUInt32 >>> ((4 : Int32) &&& 31).toUInt32).toInt32) &&& (3 : Int32))), .val (.ref u), .val (.int (1 : Int32)), .val (.int (1 : Int32))] [(.int (1 : Int32))]))
                      refine go (fun _ => XS.ifNo X48.here hx rfl (hb hby at_242) rfl ((if0 _ _).trans (feq (by decide : ¬ ((1 : Int32) = 0))).1)) ?_
                      show Run p e below _ (T48.setTop (mkF m 245 #[.val (.int p0), .val (.int p1), .val (.int p2), .val (.int p3), .val (.int p4), .val (.int (p0 &&& (2147483647 : Int32))), .val (.int (p1 &&& (2147483647 : Int32))), .val (.int vc), .val (.int ve), .val (.int f1), .val (.int f2), .val (.ref r), .val (.ref u), .val (.int (((p4.toUInt32 >>> ((4 : Int32) &&& 31).toUInt32).toInt32) &&& (3 : Int32))), .val (.ref u), .val (.int (1 : Int32)), .val (.int (1 : Int32))] []))
                      refine go (fun _ => XS.aload X48.here hx rfl (hb hby at_245) rfl rfl) ?_
                      show Run p e below _ (T48.setTop (mkF m 247 #[.val (.int p0), .val (.int p1), .val (.int p2), .val (.int p3), .val (.int p4), .val (.int (p0 &&& (2147483647 : Int32))), .val (.int (p1 &&& (2147483647 : Int32))), .val (.int vc), .val (.int ve), .val (.int f1), .val (.int f2), .val (.ref r), .val (.ref u), .val (.int (((p4.toUInt32 >>> ((4 : Int32) &&& 31).toUInt32).toInt32) &&& (3 : Int32))), .val (.ref u), .val (.int (1 : Int32)), .val (.int (1 : Int32))] [(.ref u)]))
                      refine go (fun _ => XS.aload X48.here hx rfl (hb hby at_247) rfl rfl) ?_
                      show Run p e below _ (T48.setTop (mkF m 249 #[.val (.int p0), .val (.int p1), .val (.int p2), .val (.int p3), .val (.int p4), .val (.int (p0 &&& (2147483647 : Int32))), .val (.int (p1 &&& (2147483647 : Int32))), .val (.int vc), .val (.int ve), .val (.int f1), .val (.int f2), .val (.ref r), .val (.ref u), .val (.int (((p4.toUInt32 >>> ((4 : Int32) &&& 31).toUInt32).toInt32) &&& (3 : Int32))), .val (.ref u), .val (.int (1 : Int32)), .val (.int (1 : Int32))] [(.ref r), (.ref u)]))
                      refine callVi X48 hx hZ hown (wd hw 19 rfl) (wd hw 20 rfl) (notFace_of_selects (args := #[]) (mvT hZ (wd hw 22 rfl))) (wd hw 22 rfl) (wd hw 21 rfl) (wd hw 23 rfl) (wd hw 3 rfl) (by decide) e48 E_u (argsL := [(.ref r)]) (rest := []) (rm_eR l Z a0 hw [] u r vc ve f2 (p0 &&& (2147483647 : Int32)) (p1 &&& (2147483647 : Int32)) f1 h43 n0 O0 E_u F_up_u F_down_u F_flows_u E_r F_up_r F_down_r F_flows_r) (W := 0) (by decide) (by decide) (by decide) (by decide) (by rw [hml]; rfl) (lenOf pd_4 rfl) rfl (Nat.le_of_eq rfl) (hb hby at_249) ?_
                      intro v49 T49 L49 h49 X49 e49 q49
                      obtain ⟨rv, n49, k49⟩ := q49
                      replace rv : v49 = some (.int (1 : Int32)) := by simpa [eq_comm (a := vc), eq_comm (a := ve), eq_comm (a := f2), c45, c46, c47] using rv
                      subst rv
                      have e49 := e49.trans k49
                      have N49 := Fr.app N48 n49
                      show Run p e below _ (T49.setTop (mkF m 252 #[.val (.int p0), .val (.int p1), .val (.int p2), .val (.int p3), .val (.int p4), .val (.int (p0 &&& (2147483647 : Int32))), .val (.int (p1 &&& (2147483647 : Int32))), .val (.int vc), .val (.int ve), .val (.int f1), .val (.int f2), .val (.ref r), .val (.ref u), .val (.int (((p4.toUInt32 >>> ((4 : Int32) &&& 31).toUInt32).toInt32) &&& (3 : Int32))), .val (.ref u), .val (.int (1 : Int32)), .val (.int (1 : Int32))] [(.int (1 : Int32))]))
                      refine go (fun _ => XS.iload X49.here hx rfl (hb hby at_252) rfl) ?_
                      show Run p e below _ (T49.setTop (mkF m 254 #[.val (.int p0), .val (.int p1), .val (.int p2), .val (.int p3), .val (.int p4), .val (.int (p0 &&& (2147483647 : Int32))), .val (.int (p1 &&& (2147483647 : Int32))), .val (.int vc), .val (.int ve), .val (.int f1), .val (.int f2), .val (.ref r), .val (.ref u), .val (.int (((p4.toUInt32 >>> ((4 : Int32) &&& 31).toUInt32).toInt32) &&& (3 : Int32))), .val (.ref u), .val (.int (1 : Int32)), .val (.int (1 : Int32))] [(.int (1 : Int32)), (.int (1 : Int32))]))
                      refine go (fun _ => XS.icmpNo X49.here hx rfl (hb hby at_254) rfl (teq (by decide : (1 : Int32) = 1)).2) ?_
                      show Run p e below _ (T49.setTop (mkF m 257 #[.val (.int p0), .val (.int p1), .val (.int p2), .val (.int p3), .val (.int p4), .val (.int (p0 &&& (2147483647 : Int32))), .val (.int (p1 &&& (2147483647 : Int32))), .val (.int vc), .val (.int ve), .val (.int f1), .val (.int f2), .val (.ref r), .val (.ref u), .val (.int (((p4.toUInt32 >>> ((4 : Int32) &&& 31).toUInt32).toInt32) &&& (3 : Int32))), .val (.ref u), .val (.int (1 : Int32)), .val (.int (1 : Int32))] []))
                      refine go (fun _ => XS.iconst X49.here hx rfl (hb hby at_257)) ?_
                      show Run p e below _ (T49.setTop (mkF m 258 #[.val (.int p0), .val (.int p1), .val (.int p2), .val (.int p3), .val (.int p4), .val (.int (p0 &&& (2147483647 : Int32))), .val (.int (p1 &&& (2147483647 : Int32))), .val (.int vc), .val (.int ve), .val (.int f1), .val (.int f2), .val (.ref r), .val (.ref u), .val (.int (((p4.toUInt32 >>> ((4 : Int32) &&& 31).toUInt32).toInt32) &&& (3 : Int32))), .val (.ref u), .val (.int (1 : Int32)), .val (.int (1 : Int32))] [(.int (1 : Int32))]))
                      refine go (fun _ => XS.goto X49.here hx rfl (pc0 := 258) (pc' := 262) rfl (hb hby at_258) (by decide) (by decide)) ?_
                      show Run p e below _ (T49.setTop (mkF m 262 #[.val (.int p0), .val (.int p1), .val (.int p2), .val (.int p3), .val (.int p4), .val (.int (p0 &&& (2147483647 : Int32))), .val (.int (p1 &&& (2147483647 : Int32))), .val (.int vc), .val (.int ve), .val (.int f1), .val (.int f2), .val (.ref r), .val (.ref u), .val (.int (((p4.toUInt32 >>> ((4 : Int32) &&& 31).toUInt32).toInt32) &&& (3 : Int32))), .val (.ref u), .val (.int (1 : Int32)), .val (.int (1 : Int32))] [(.int (1 : Int32))]))
                      refine go (fun _ => XS.istore X49.here hx rfl (hb hby at_262) rfl (l' := #[.val (.int p0), .val (.int p1), .val (.int p2), .val (.int p3), .val (.int p4), .val (.int (p0 &&& (2147483647 : Int32))), .val (.int (p1 &&& (2147483647 : Int32))), .val (.int vc), .val (.int ve), .val (.int f1), .val (.int f2), .val (.ref r), .val (.ref u), .val (.int (((p4.toUInt32 >>> ((4 : Int32) &&& 31).toUInt32).toInt32) &&& (3 : Int32))), .val (.ref u), .val (.int (1 : Int32)), .val (.int (1 : Int32))]) rfl) ?_
                      show Run p e below _ (T49.setTop (mkF m 264 #[.val (.int p0), .val (.int p1), .val (.int p2), .val (.int p3), .val (.int p4), .val (.int (p0 &&& (2147483647 : Int32))), .val (.int (p1 &&& (2147483647 : Int32))), .val (.int vc), .val (.int ve), .val (.int f1), .val (.int f2), .val (.ref r), .val (.ref u), .val (.int (((p4.toUInt32 >>> ((4 : Int32) &&& 31).toUInt32).toInt32) &&& (3 : Int32))), .val (.ref u), .val (.int (1 : Int32)), .val (.int (1 : Int32))] []))
                      refine go (fun _ => XS.iload X49.here hx rfl (hb hby at_264) rfl) ?_
                      show Run p e below _ (T49.setTop (mkF m 266 #[.val (.int p0), .val (.int p1), .val (.int p2), .val (.int p3), .val (.int p4), .val (.int (p0 &&& (2147483647 : Int32))), .val (.int (p1 &&& (2147483647 : Int32))), .val (.int vc), .val (.int ve), .val (.int f1), .val (.int f2), .val (.ref r), .val (.ref u), .val (.int (((p4.toUInt32 >>> ((4 : Int32) &&& 31).toUInt32).toInt32) &&& (3 : Int32))), .val (.ref u), .val (.int (1 : Int32)), .val (.int (1 : Int32))] [(.int (1 : Int32))]))
                      exact endN X49 hx hlk (t := .boolean) hret (by simp) (hb hby at_266) (⟨rfl, N49⟩) (by decide) (by decide)
                    · skip
                      refine go (fun _ => XS.icmpYes X43.here hx rfl (pc0 := 162) (pc' := 169) rfl (hb hby at_162) rfl (feq c47).2 (by decide) (by decide)) ?_
                      show Run p e below _ (T43.setTop (mkF m 169 #[.val (.int p0), .val (.int p1), .val (.int p2), .val (.int p3), .val (.int p4), .val (.int (p0 &&& (2147483647 : Int32))), .val (.int (p1 &&& (2147483647 : Int32))), .val (.int vc), .val (.int ve), .val (.int f1), .val (.int f2), .val (.ref r), .val (.ref u), .val (.int (((p4.toUInt32 >>> ((4 : Int32) &&& 31).toUInt32).toInt32) &&& (3 : Int32))), .val (.ref u), .unset, .unset] []))
                      refine go (fun _ => XS.iconst X43.here hx rfl (hb hby at_169)) ?_
                      show Run p e below _ (T43.setTop (mkF m 170 #[.val (.int p0), .val (.int p1), .val (.int p2), .val (.int p3), .val (.int p4), .val (.int (p0 &&& (2147483647 : Int32))), .val (.int (p1 &&& (2147483647 : Int32))), .val (.int vc), .val (.int ve), .val (.int f1), .val (.int f2), .val (.ref r), .val (.ref u), .val (.int (((p4.toUInt32 >>> ((4 : Int32) &&& 31).toUInt32).toInt32) &&& (3 : Int32))), .val (.ref u), .unset, .unset] [(.int (0 : Int32))]))
                      refine go (fun _ => XS.istore X43.here hx rfl (hb hby at_170) rfl (l' := #[.val (.int p0), .val (.int p1), .val (.int p2), .val (.int p3), .val (.int p4), .val (.int (p0 &&& (2147483647 : Int32))), .val (.int (p1 &&& (2147483647 : Int32))), .val (.int vc), .val (.int ve), .val (.int f1), .val (.int f2), .val (.ref r), .val (.ref u), .val (.int (((p4.toUInt32 >>> ((4 : Int32) &&& 31).toUInt32).toInt32) &&& (3 : Int32))), .val (.ref u), .val (.int (0 : Int32)), .unset]) rfl) ?_
                      show Run p e below _ (T43.setTop (mkF m 172 #[.val (.int p0), .val (.int p1), .val (.int p2), .val (.int p3), .val (.int p4), .val (.int (p0 &&& (2147483647 : Int32))), .val (.int (p1 &&& (2147483647 : Int32))), .val (.int vc), .val (.int ve), .val (.int f1), .val (.int f2), .val (.ref r), .val (.ref u), .val (.int (((p4.toUInt32 >>> ((4 : Int32) &&& 31).toUInt32).toInt32) &&& (3 : Int32))), .val (.ref u), .val (.int (0 : Int32)), .unset] []))
                      refine go (fun _ => XS.goto X43.here hx rfl (pc0 := 172) (pc' := 216) rfl (hb hby at_172) (by decide) (by decide)) ?_
                      show Run p e below _ (T43.setTop (mkF m 216 #[.val (.int p0), .val (.int p1), .val (.int p2), .val (.int p3), .val (.int p4), .val (.int (p0 &&& (2147483647 : Int32))), .val (.int (p1 &&& (2147483647 : Int32))), .val (.int vc), .val (.int ve), .val (.int f1), .val (.int f2), .val (.ref r), .val (.ref u), .val (.int (((p4.toUInt32 >>> ((4 : Int32) &&& 31).toUInt32).toInt32) &&& (3 : Int32))), .val (.ref u), .val (.int (0 : Int32)), .unset] []))
                      refine go (fun _ => XS.aload X43.here hx rfl (hb hby at_216) rfl rfl) ?_
                      show Run p e below _ (T43.setTop (mkF m 218 #[.val (.int p0), .val (.int p1), .val (.int p2), .val (.int p3), .val (.int p4), .val (.int (p0 &&& (2147483647 : Int32))), .val (.int (p1 &&& (2147483647 : Int32))), .val (.int vc), .val (.int ve), .val (.int f1), .val (.int f2), .val (.ref r), .val (.ref u), .val (.int (((p4.toUInt32 >>> ((4 : Int32) &&& 31).toUInt32).toInt32) &&& (3 : Int32))), .val (.ref u), .val (.int (0 : Int32)), .unset] [(.ref r)]))
                      refine go (fun _ => XS.aload X43.here hx rfl (hb hby at_218) rfl rfl) ?_
                      show Run p e below _ (T43.setTop (mkF m 220 #[.val (.int p0), .val (.int p1), .val (.int p2), .val (.int p3), .val (.int p4), .val (.int (p0 &&& (2147483647 : Int32))), .val (.int (p1 &&& (2147483647 : Int32))), .val (.int vc), .val (.int ve), .val (.int f1), .val (.int f2), .val (.ref r), .val (.ref u), .val (.int (((p4.toUInt32 >>> ((4 : Int32) &&& 31).toUInt32).toInt32) &&& (3 : Int32))), .val (.ref u), .val (.int (0 : Int32)), .unset] [(.ref u), (.ref r)]))
                      refine callVi X43 hx hZ hown (wd hw 19 rfl) (wd hw 20 rfl) (notFace_of_selects (args := #[]) (mvT hZ (wd hw 22 rfl))) (wd hw 22 rfl) (wd hw 21 rfl) (wd hw 23 rfl) (wd hw 3 rfl) (by decide) e43 E_r (argsL := [(.ref u)]) (rest := []) (rm_eR l Z a0 hw [] r u (p0 &&& (2147483647 : Int32)) (p1 &&& (2147483647 : Int32)) f1 vc ve f2 h43 n0 O0 E_r F_up_r F_down_r F_flows_r E_u F_up_u F_down_u F_flows_u) (W := 0) (by decide) (by decide) (by decide) (by decide) (by rw [hml]; rfl) (lenOf pd_4 rfl) rfl (Nat.le_of_eq rfl) (hb hby at_220) ?_
                      intro v50 T50 L50 h50 X50 e50 q50
                      obtain ⟨rv, n50, k50⟩ := q50
                      replace rv : v50 = some (.int (0 : Int32)) := by simpa [c45, c46, c47] using rv
                      subst rv
                      have e50 := e50.trans k50
                      have N50 := Fr.app N43 n50
                      show Run p e below _ (T50.setTop (mkF m 223 #[.val (.int p0), .val (.int p1), .val (.int p2), .val (.int p3), .val (.int p4), .val (.int (p0 &&& (2147483647 : Int32))), .val (.int (p1 &&& (2147483647 : Int32))), .val (.int vc), .val (.int ve), .val (.int f1), .val (.int f2), .val (.ref r), .val (.ref u), .val (.int (((p4.toUInt32 >>> ((4 : Int32) &&& 31).toUInt32).toInt32) &&& (3 : Int32))), .val (.ref u), .val (.int (0 : Int32)), .unset] [(.int (0 : Int32))]))
                      refine go (fun _ => XS.iload X50.here hx rfl (hb hby at_223) rfl) ?_
                      show Run p e below _ (T50.setTop (mkF m 225 #[.val (.int p0), .val (.int p1), .val (.int p2), .val (.int p3), .val (.int p4), .val (.int (p0 &&& (2147483647 : Int32))), .val (.int (p1 &&& (2147483647 : Int32))), .val (.int vc), .val (.int ve), .val (.int f1), .val (.int f2), .val (.ref r), .val (.ref u), .val (.int (((p4.toUInt32 >>> ((4 : Int32) &&& 31).toUInt32).toInt32) &&& (3 : Int32))), .val (.ref u), .val (.int (0 : Int32)), .unset] [(.int (0 : Int32)), (.int (0 : Int32))]))
                      refine go (fun _ => XS.icmpNo X50.here hx rfl (hb hby at_225) rfl (teq (by decide : (0 : Int32) = 0)).2) ?_
                      show Run p e below _ (T50.setTop (mkF m 228 #[.val (.int p0), .val (.int p1), .val (.int p2), .val (.int p3), .val (.int p4), .val (.int (p0 &&& (2147483647 : Int32))), .val (.int (p1 &&& (2147483647 : Int32))), .val (.int vc), .val (.int ve), .val (.int f1), .val (.int f2), .val (.ref r), .val (.ref u), .val (.int (((p4.toUInt32 >>> ((4 : Int32) &&& 31).toUInt32).toInt32) &&& (3 : Int32))), .val (.ref u), .val (.int (0 : Int32)), .unset] []))
                      refine go (fun _ => XS.iconst X50.here hx rfl (hb hby at_228)) ?_
                      show Run p e below _ (T50.setTop (mkF m 229 #[.val (.int p0), .val (.int p1), .val (.int p2), .val (.int p3), .val (.int p4), .val (.int (p0 &&& (2147483647 : Int32))), .val (.int (p1 &&& (2147483647 : Int32))), .val (.int vc), .val (.int ve), .val (.int f1), .val (.int f2), .val (.ref r), .val (.ref u), .val (.int (((p4.toUInt32 >>> ((4 : Int32) &&& 31).toUInt32).toInt32) &&& (3 : Int32))), .val (.ref u), .val (.int (0 : Int32)), .unset] [(.int (1 : Int32))]))
                      refine go (fun _ => XS.goto X50.here hx rfl (pc0 := 229) (pc' := 233) rfl (hb hby at_229) (by decide) (by decide)) ?_
                      show Run p e below _ (T50.setTop (mkF m 233 #[.val (.int p0), .val (.int p1), .val (.int p2), .val (.int p3), .val (.int p4), .val (.int (p0 &&& (2147483647 : Int32))), .val (.int (p1 &&& (2147483647 : Int32))), .val (.int vc), .val (.int ve), .val (.int f1), .val (.int f2), .val (.ref r), .val (.ref u), .val (.int (((p4.toUInt32 >>> ((4 : Int32) &&& 31).toUInt32).toInt32) &&& (3 : Int32))), .val (.ref u), .val (.int (0 : Int32)), .unset] [(.int (1 : Int32))]))
                      refine go (fun _ => XS.istore X50.here hx rfl (hb hby at_233) rfl (l' := #[.val (.int p0), .val (.int p1), .val (.int p2), .val (.int p3), .val (.int p4), .val (.int (p0 &&& (2147483647 : Int32))), .val (.int (p1 &&& (2147483647 : Int32))), .val (.int vc), .val (.int ve), .val (.int f1), .val (.int f2), .val (.ref r), .val (.ref u), .val (.int (((p4.toUInt32 >>> ((4 : Int32) &&& 31).toUInt32).toInt32) &&& (3 : Int32))), .val (.ref u), .val (.int (0 : Int32)), .val (.int (1 : Int32))]) rfl) ?_
                      show Run p e below _ (T50.setTop (mkF m 235 #[.val (.int p0), .val (.int p1), .val (.int p2), .val (.int p3), .val (.int p4), .val (.int (p0 &&& (2147483647 : Int32))), .val (.int (p1 &&& (2147483647 : Int32))), .val (.int vc), .val (.int ve), .val (.int f1), .val (.int f2), .val (.ref r), .val (.ref u), .val (.int (((p4.toUInt32 >>> ((4 : Int32) &&& 31).toUInt32).toInt32) &&& (3 : Int32))), .val (.ref u), .val (.int (0 : Int32)), .val (.int (1 : Int32))] []))
                      refine go (fun _ => XS.iload X50.here hx rfl (hb hby at_235) rfl) ?_
                      show Run p e below _ (T50.setTop (mkF m 237 #[.val (.int p0), .val (.int p1), .val (.int p2), .val (.int p3), .val (.int p4), .val (.int (p0 &&& (2147483647 : Int32))), .val (.int (p1 &&& (2147483647 : Int32))), .val (.int vc), .val (.int ve), .val (.int f1), .val (.int f2), .val (.ref r), .val (.ref u), .val (.int (((p4.toUInt32 >>> ((4 : Int32) &&& 31).toUInt32).toInt32) &&& (3 : Int32))), .val (.ref u), .val (.int (0 : Int32)), .val (.int (1 : Int32))] [(.int (((p4.toUInt32 >>> ((4 : Int32) &&& 31).toUInt32).toInt32) &&& (3 : Int32)))]))
                      refine go (fun _ => XS.ifNo X50.here hx rfl (hb hby at_237) rfl ((if0 _ _).trans (teq c44).2)) ?_
                      show Run p e below _ (T50.setTop (mkF m 240 #[.val (.int p0), .val (.int p1), .val (.int p2), .val (.int p3), .val (.int p4), .val (.int (p0 &&& (2147483647 : Int32))), .val (.int (p1 &&& (2147483647 : Int32))), .val (.int vc), .val (.int ve), .val (.int f1), .val (.int f2), .val (.ref r), .val (.ref u), .val (.int (((p4.toUInt32 >>> ((4 : Int32) &&& 31).toUInt32).toInt32) &&& (3 : Int32))), .val (.ref u), .val (.int (0 : Int32)), .val (.int (1 : Int32))] []))
                      refine go (fun _ => XS.iload X50.here hx rfl (hb hby at_240) rfl) ?_
                      show Run p e below _ (T50.setTop (mkF m 242 #[.val (.int p0), .val (.int p1), .val (.int p2), .val (.int p3), .val (.int p4), .val (.int (p0 &&& (2147483647 : Int32))), .val (.int (p1 &&& (2147483647 : Int32))), .val (.int vc), .val (.int ve), .val (.int f1), .val (.int f2), .val (.ref r), .val (.ref u), .val (.int (((p4.toUInt32 >>> ((4 : Int32) &&& 31).toUInt32).toInt32) &&& (3 : Int32))), .val (.ref u), .val (.int (0 : Int32)), .val (.int (1 : Int32))] [(.int (1 : Int32))]))
                      refine go (fun _ => XS.ifNo X50.here hx rfl (hb hby at_242) rfl ((if0 _ _).trans (feq (by decide : ¬ ((1 : Int32) = 0))).1)) ?_
                      show Run p e below _ (T50.setTop (mkF m 245 #[.val (.int p0), .val (.int p1), .val (.int p2), .val (.int p3), .val (.int p4), .val (.int (p0 &&& (2147483647 : Int32))), .val (.int (p1 &&& (2147483647 : Int32))), .val (.int vc), .val (.int ve), .val (.int f1), .val (.int f2), .val (.ref r), .val (.ref u), .val (.int (((p4.toUInt32 >>> ((4 : Int32) &&& 31).toUInt32).toInt32) &&& (3 : Int32))), .val (.ref u), .val (.int (0 : Int32)), .val (.int (1 : Int32))] []))
                      refine go (fun _ => XS.aload X50.here hx rfl (hb hby at_245) rfl rfl) ?_
                      show Run p e below _ (T50.setTop (mkF m 247 #[.val (.int p0), .val (.int p1), .val (.int p2), .val (.int p3), .val (.int p4), .val (.int (p0 &&& (2147483647 : Int32))), .val (.int (p1 &&& (2147483647 : Int32))), .val (.int vc), .val (.int ve), .val (.int f1), .val (.int f2), .val (.ref r), .val (.ref u), .val (.int (((p4.toUInt32 >>> ((4 : Int32) &&& 31).toUInt32).toInt32) &&& (3 : Int32))), .val (.ref u), .val (.int (0 : Int32)), .val (.int (1 : Int32))] [(.ref u)]))
                      refine go (fun _ => XS.aload X50.here hx rfl (hb hby at_247) rfl rfl) ?_
                      show Run p e below _ (T50.setTop (mkF m 249 #[.val (.int p0), .val (.int p1), .val (.int p2), .val (.int p3), .val (.int p4), .val (.int (p0 &&& (2147483647 : Int32))), .val (.int (p1 &&& (2147483647 : Int32))), .val (.int vc), .val (.int ve), .val (.int f1), .val (.int f2), .val (.ref r), .val (.ref u), .val (.int (((p4.toUInt32 >>> ((4 : Int32) &&& 31).toUInt32).toInt32) &&& (3 : Int32))), .val (.ref u), .val (.int (0 : Int32)), .val (.int (1 : Int32))] [(.ref r), (.ref u)]))
                      refine callVi X50 hx hZ hown (wd hw 19 rfl) (wd hw 20 rfl) (notFace_of_selects (args := #[]) (mvT hZ (wd hw 22 rfl))) (wd hw 22 rfl) (wd hw 21 rfl) (wd hw 23 rfl) (wd hw 3 rfl) (by decide) e50 E_u (argsL := [(.ref r)]) (rest := []) (rm_eR l Z a0 hw [] u r vc ve f2 (p0 &&& (2147483647 : Int32)) (p1 &&& (2147483647 : Int32)) f1 h43 n0 O0 E_u F_up_u F_down_u F_flows_u E_r F_up_r F_down_r F_flows_r) (W := 0) (by decide) (by decide) (by decide) (by decide) (by rw [hml]; rfl) (lenOf pd_4 rfl) rfl (Nat.le_of_eq rfl) (hb hby at_249) ?_
                      intro v51 T51 L51 h51 X51 e51 q51
                      obtain ⟨rv, n51, k51⟩ := q51
                      replace rv : v51 = some (.int (0 : Int32)) := by simpa [eq_comm (a := vc), eq_comm (a := ve), eq_comm (a := f2), c45, c46, c47] using rv
                      subst rv
                      have e51 := e51.trans k51
                      have N51 := Fr.app N50 n51
                      show Run p e below _ (T51.setTop (mkF m 252 #[.val (.int p0), .val (.int p1), .val (.int p2), .val (.int p3), .val (.int p4), .val (.int (p0 &&& (2147483647 : Int32))), .val (.int (p1 &&& (2147483647 : Int32))), .val (.int vc), .val (.int ve), .val (.int f1), .val (.int f2), .val (.ref r), .val (.ref u), .val (.int (((p4.toUInt32 >>> ((4 : Int32) &&& 31).toUInt32).toInt32) &&& (3 : Int32))), .val (.ref u), .val (.int (0 : Int32)), .val (.int (1 : Int32))] [(.int (0 : Int32))]))
                      refine go (fun _ => XS.iload X51.here hx rfl (hb hby at_252) rfl) ?_
                      show Run p e below _ (T51.setTop (mkF m 254 #[.val (.int p0), .val (.int p1), .val (.int p2), .val (.int p3), .val (.int p4), .val (.int (p0 &&& (2147483647 : Int32))), .val (.int (p1 &&& (2147483647 : Int32))), .val (.int vc), .val (.int ve), .val (.int f1), .val (.int f2), .val (.ref r), .val (.ref u), .val (.int (((p4.toUInt32 >>> ((4 : Int32) &&& 31).toUInt32).toInt32) &&& (3 : Int32))), .val (.ref u), .val (.int (0 : Int32)), .val (.int (1 : Int32))] [(.int (0 : Int32)), (.int (0 : Int32))]))
                      refine go (fun _ => XS.icmpNo X51.here hx rfl (hb hby at_254) rfl (teq (by decide : (0 : Int32) = 0)).2) ?_
                      show Run p e below _ (T51.setTop (mkF m 257 #[.val (.int p0), .val (.int p1), .val (.int p2), .val (.int p3), .val (.int p4), .val (.int (p0 &&& (2147483647 : Int32))), .val (.int (p1 &&& (2147483647 : Int32))), .val (.int vc), .val (.int ve), .val (.int f1), .val (.int f2), .val (.ref r), .val (.ref u), .val (.int (((p4.toUInt32 >>> ((4 : Int32) &&& 31).toUInt32).toInt32) &&& (3 : Int32))), .val (.ref u), .val (.int (0 : Int32)), .val (.int (1 : Int32))] []))
                      refine go (fun _ => XS.iconst X51.here hx rfl (hb hby at_257)) ?_
                      show Run p e below _ (T51.setTop (mkF m 258 #[.val (.int p0), .val (.int p1), .val (.int p2), .val (.int p3), .val (.int p4), .val (.int (p0 &&& (2147483647 : Int32))), .val (.int (p1 &&& (2147483647 : Int32))), .val (.int vc), .val (.int ve), .val (.int f1), .val (.int f2), .val (.ref r), .val (.ref u), .val (.int (((p4.toUInt32 >>> ((4 : Int32) &&& 31).toUInt32).toInt32) &&& (3 : Int32))), .val (.ref u), .val (.int (0 : Int32)), .val (.int (1 : Int32))] [(.int (1 : Int32))]))
                      refine go (fun _ => XS.goto X51.here hx rfl (pc0 := 258) (pc' := 262) rfl (hb hby at_258) (by decide) (by decide)) ?_
                      show Run p e below _ (T51.setTop (mkF m 262 #[.val (.int p0), .val (.int p1), .val (.int p2), .val (.int p3), .val (.int p4), .val (.int (p0 &&& (2147483647 : Int32))), .val (.int (p1 &&& (2147483647 : Int32))), .val (.int vc), .val (.int ve), .val (.int f1), .val (.int f2), .val (.ref r), .val (.ref u), .val (.int (((p4.toUInt32 >>> ((4 : Int32) &&& 31).toUInt32).toInt32) &&& (3 : Int32))), .val (.ref u), .val (.int (0 : Int32)), .val (.int (1 : Int32))] [(.int (1 : Int32))]))
                      refine go (fun _ => XS.istore X51.here hx rfl (hb hby at_262) rfl (l' := #[.val (.int p0), .val (.int p1), .val (.int p2), .val (.int p3), .val (.int p4), .val (.int (p0 &&& (2147483647 : Int32))), .val (.int (p1 &&& (2147483647 : Int32))), .val (.int vc), .val (.int ve), .val (.int f1), .val (.int f2), .val (.ref r), .val (.ref u), .val (.int (((p4.toUInt32 >>> ((4 : Int32) &&& 31).toUInt32).toInt32) &&& (3 : Int32))), .val (.ref u), .val (.int (0 : Int32)), .val (.int (1 : Int32))]) rfl) ?_
                      show Run p e below _ (T51.setTop (mkF m 264 #[.val (.int p0), .val (.int p1), .val (.int p2), .val (.int p3), .val (.int p4), .val (.int (p0 &&& (2147483647 : Int32))), .val (.int (p1 &&& (2147483647 : Int32))), .val (.int vc), .val (.int ve), .val (.int f1), .val (.int f2), .val (.ref r), .val (.ref u), .val (.int (((p4.toUInt32 >>> ((4 : Int32) &&& 31).toUInt32).toInt32) &&& (3 : Int32))), .val (.ref u), .val (.int (0 : Int32)), .val (.int (1 : Int32))] []))
                      refine go (fun _ => XS.iload X51.here hx rfl (hb hby at_264) rfl) ?_
                      show Run p e below _ (T51.setTop (mkF m 266 #[.val (.int p0), .val (.int p1), .val (.int p2), .val (.int p3), .val (.int p4), .val (.int (p0 &&& (2147483647 : Int32))), .val (.int (p1 &&& (2147483647 : Int32))), .val (.int vc), .val (.int ve), .val (.int f1), .val (.int f2), .val (.ref r), .val (.ref u), .val (.int (((p4.toUInt32 >>> ((4 : Int32) &&& 31).toUInt32).toInt32) &&& (3 : Int32))), .val (.ref u), .val (.int (0 : Int32)), .val (.int (1 : Int32))] [(.int (1 : Int32))]))
                      exact endN X51 hx hlk (t := .boolean) hret (by simp) (hb hby at_266) (⟨rfl, N51⟩) (by decide) (by decide)
                  · skip
                    refine go (fun _ => XS.icmpYes X43.here hx rfl (pc0 := 155) (pc' := 169) rfl (hb hby at_155) rfl (feq c46).2 (by decide) (by decide)) ?_
                    show Run p e below _ (T43.setTop (mkF m 169 #[.val (.int p0), .val (.int p1), .val (.int p2), .val (.int p3), .val (.int p4), .val (.int (p0 &&& (2147483647 : Int32))), .val (.int (p1 &&& (2147483647 : Int32))), .val (.int vc), .val (.int ve), .val (.int f1), .val (.int f2), .val (.ref r), .val (.ref u), .val (.int (((p4.toUInt32 >>> ((4 : Int32) &&& 31).toUInt32).toInt32) &&& (3 : Int32))), .val (.ref u), .unset, .unset] []))
                    refine go (fun _ => XS.iconst X43.here hx rfl (hb hby at_169)) ?_
                    show Run p e below _ (T43.setTop (mkF m 170 #[.val (.int p0), .val (.int p1), .val (.int p2), .val (.int p3), .val (.int p4), .val (.int (p0 &&& (2147483647 : Int32))), .val (.int (p1 &&& (2147483647 : Int32))), .val (.int vc), .val (.int ve), .val (.int f1), .val (.int f2), .val (.ref r), .val (.ref u), .val (.int (((p4.toUInt32 >>> ((4 : Int32) &&& 31).toUInt32).toInt32) &&& (3 : Int32))), .val (.ref u), .unset, .unset] [(.int (0 : Int32))]))
                    refine go (fun _ => XS.istore X43.here hx rfl (hb hby at_170) rfl (l' := #[.val (.int p0), .val (.int p1), .val (.int p2), .val (.int p3), .val (.int p4), .val (.int (p0 &&& (2147483647 : Int32))), .val (.int (p1 &&& (2147483647 : Int32))), .val (.int vc), .val (.int ve), .val (.int f1), .val (.int f2), .val (.ref r), .val (.ref u), .val (.int (((p4.toUInt32 >>> ((4 : Int32) &&& 31).toUInt32).toInt32) &&& (3 : Int32))), .val (.ref u), .val (.int (0 : Int32)), .unset]) rfl) ?_
                    show Run p e below _ (T43.setTop (mkF m 172 #[.val (.int p0), .val (.int p1), .val (.int p2), .val (.int p3), .val (.int p4), .val (.int (p0 &&& (2147483647 : Int32))), .val (.int (p1 &&& (2147483647 : Int32))), .val (.int vc), .val (.int ve), .val (.int f1), .val (.int f2), .val (.ref r), .val (.ref u), .val (.int (((p4.toUInt32 >>> ((4 : Int32) &&& 31).toUInt32).toInt32) &&& (3 : Int32))), .val (.ref u), .val (.int (0 : Int32)), .unset] []))
                    refine go (fun _ => XS.goto X43.here hx rfl (pc0 := 172) (pc' := 216) rfl (hb hby at_172) (by decide) (by decide)) ?_
                    show Run p e below _ (T43.setTop (mkF m 216 #[.val (.int p0), .val (.int p1), .val (.int p2), .val (.int p3), .val (.int p4), .val (.int (p0 &&& (2147483647 : Int32))), .val (.int (p1 &&& (2147483647 : Int32))), .val (.int vc), .val (.int ve), .val (.int f1), .val (.int f2), .val (.ref r), .val (.ref u), .val (.int (((p4.toUInt32 >>> ((4 : Int32) &&& 31).toUInt32).toInt32) &&& (3 : Int32))), .val (.ref u), .val (.int (0 : Int32)), .unset] []))
                    refine go (fun _ => XS.aload X43.here hx rfl (hb hby at_216) rfl rfl) ?_
                    show Run p e below _ (T43.setTop (mkF m 218 #[.val (.int p0), .val (.int p1), .val (.int p2), .val (.int p3), .val (.int p4), .val (.int (p0 &&& (2147483647 : Int32))), .val (.int (p1 &&& (2147483647 : Int32))), .val (.int vc), .val (.int ve), .val (.int f1), .val (.int f2), .val (.ref r), .val (.ref u), .val (.int (((p4.toUInt32 >>> ((4 : Int32) &&& 31).toUInt32).toInt32) &&& (3 : Int32))), .val (.ref u), .val (.int (0 : Int32)), .unset] [(.ref r)]))
                    refine go (fun _ => XS.aload X43.here hx rfl (hb hby at_218) rfl rfl) ?_
                    show Run p e below _ (T43.setTop (mkF m 220 #[.val (.int p0), .val (.int p1), .val (.int p2), .val (.int p3), .val (.int p4), .val (.int (p0 &&& (2147483647 : Int32))), .val (.int (p1 &&& (2147483647 : Int32))), .val (.int vc), .val (.int ve), .val (.int f1), .val (.int f2), .val (.ref r), .val (.ref u), .val (.int (((p4.toUInt32 >>> ((4 : Int32) &&& 31).toUInt32).toInt32) &&& (3 : Int32))), .val (.ref u), .val (.int (0 : Int32)), .unset] [(.ref u), (.ref r)]))
                    refine callVi X43 hx hZ hown (wd hw 19 rfl) (wd hw 20 rfl) (notFace_of_selects (args := #[]) (mvT hZ (wd hw 22 rfl))) (wd hw 22 rfl) (wd hw 21 rfl) (wd hw 23 rfl) (wd hw 3 rfl) (by decide) e43 E_r (argsL := [(.ref u)]) (rest := []) (rm_eR l Z a0 hw [] r u (p0 &&& (2147483647 : Int32)) (p1 &&& (2147483647 : Int32)) f1 vc ve f2 h43 n0 O0 E_r F_up_r F_down_r F_flows_r E_u F_up_u F_down_u F_flows_u) (W := 0) (by decide) (by decide) (by decide) (by decide) (by rw [hml]; rfl) (lenOf pd_4 rfl) rfl (Nat.le_of_eq rfl) (hb hby at_220) ?_
                    intro v52 T52 L52 h52 X52 e52 q52
                    obtain ⟨rv, n52, k52⟩ := q52
                    replace rv : v52 = some (.int (0 : Int32)) := by simpa [c45, c46] using rv
                    subst rv
                    have e52 := e52.trans k52
                    have N52 := Fr.app N43 n52
                    show Run p e below _ (T52.setTop (mkF m 223 #[.val (.int p0), .val (.int p1), .val (.int p2), .val (.int p3), .val (.int p4), .val (.int (p0 &&& (2147483647 : Int32))), .val (.int (p1 &&& (2147483647 : Int32))), .val (.int vc), .val (.int ve), .val (.int f1), .val (.int f2), .val (.ref r), .val (.ref u), .val (.int (((p4.toUInt32 >>> ((4 : Int32) &&& 31).toUInt32).toInt32) &&& (3 : Int32))), .val (.ref u), .val (.int (0 : Int32)), .unset] [(.int (0 : Int32))]))
                    refine go (fun _ => XS.iload X52.here hx rfl (hb hby at_223) rfl) ?_
                    show Run p e below _ (T52.setTop (mkF m 225 #[.val (.int p0), .val (.int p1), .val (.int p2), .val (.int p3), .val (.int p4), .val (.int (p0 &&& (2147483647 : Int32))), .val (.int (p1 &&& (2147483647 : Int32))), .val (.int vc), .val (.int ve), .val (.int f1), .val (.int f2), .val (.ref r), .val (.ref u), .val (.int (((p4.toUInt32 >>> ((4 : Int32) &&& 31).toUInt32).toInt32) &&& (3 : Int32))), .val (.ref u), .val (.int (0 : Int32)), .unset] [(.int (0 : Int32)), (.int (0 : Int32))]))
                    refine go (fun _ => XS.icmpNo X52.here hx rfl (hb hby at_225) rfl (teq (by decide : (0 : Int32) = 0)).2) ?_
                    show Run p e below _ (T52.setTop (mkF m 228 #[.val (.int p0), .val (.int p1), .val (.int p2), .val (.int p3), .val (.int p4), .val (.int (p0 &&& (2147483647 : Int32))), .val (.int (p1 &&& (2147483647 : Int32))), .val (.int vc), .val (.int ve), .val (.int f1), .val (.int f2), .val (.ref r), .val (.ref u), .val (.int (((p4.toUInt32 >>> ((4 : Int32) &&& 31).toUInt32).toInt32) &&& (3 : Int32))), .val (.ref u), .val (.int (0 : Int32)), .unset] []))
                    refine go (fun _ => XS.iconst X52.here hx rfl (hb hby at_228)) ?_
                    show Run p e below _ (T52.setTop (mkF m 229 #[.val (.int p0), .val (.int p1), .val (.int p2), .val (.int p3), .val (.int p4), .val (.int (p0 &&& (2147483647 : Int32))), .val (.int (p1 &&& (2147483647 : Int32))), .val (.int vc), .val (.int ve), .val (.int f1), .val (.int f2), .val (.ref r), .val (.ref u), .val (.int (((p4.toUInt32 >>> ((4 : Int32) &&& 31).toUInt32).toInt32) &&& (3 : Int32))), .val (.ref u), .val (.int (0 : Int32)), .unset] [(.int (1 : Int32))]))
                    refine go (fun _ => XS.goto X52.here hx rfl (pc0 := 229) (pc' := 233) rfl (hb hby at_229) (by decide) (by decide)) ?_
                    show Run p e below _ (T52.setTop (mkF m 233 #[.val (.int p0), .val (.int p1), .val (.int p2), .val (.int p3), .val (.int p4), .val (.int (p0 &&& (2147483647 : Int32))), .val (.int (p1 &&& (2147483647 : Int32))), .val (.int vc), .val (.int ve), .val (.int f1), .val (.int f2), .val (.ref r), .val (.ref u), .val (.int (((p4.toUInt32 >>> ((4 : Int32) &&& 31).toUInt32).toInt32) &&& (3 : Int32))), .val (.ref u), .val (.int (0 : Int32)), .unset] [(.int (1 : Int32))]))
                    refine go (fun _ => XS.istore X52.here hx rfl (hb hby at_233) rfl (l' := #[.val (.int p0), .val (.int p1), .val (.int p2), .val (.int p3), .val (.int p4), .val (.int (p0 &&& (2147483647 : Int32))), .val (.int (p1 &&& (2147483647 : Int32))), .val (.int vc), .val (.int ve), .val (.int f1), .val (.int f2), .val (.ref r), .val (.ref u), .val (.int (((p4.toUInt32 >>> ((4 : Int32) &&& 31).toUInt32).toInt32) &&& (3 : Int32))), .val (.ref u), .val (.int (0 : Int32)), .val (.int (1 : Int32))]) rfl) ?_
                    show Run p e below _ (T52.setTop (mkF m 235 #[.val (.int p0), .val (.int p1), .val (.int p2), .val (.int p3), .val (.int p4), .val (.int (p0 &&& (2147483647 : Int32))), .val (.int (p1 &&& (2147483647 : Int32))), .val (.int vc), .val (.int ve), .val (.int f1), .val (.int f2), .val (.ref r), .val (.ref u), .val (.int (((p4.toUInt32 >>> ((4 : Int32) &&& 31).toUInt32).toInt32) &&& (3 : Int32))), .val (.ref u), .val (.int (0 : Int32)), .val (.int (1 : Int32))] []))
                    refine go (fun _ => XS.iload X52.here hx rfl (hb hby at_235) rfl) ?_
                    show Run p e below _ (T52.setTop (mkF m 237 #[.val (.int p0), .val (.int p1), .val (.int p2), .val (.int p3), .val (.int p4), .val (.int (p0 &&& (2147483647 : Int32))), .val (.int (p1 &&& (2147483647 : Int32))), .val (.int vc), .val (.int ve), .val (.int f1), .val (.int f2), .val (.ref r), .val (.ref u), .val (.int (((p4.toUInt32 >>> ((4 : Int32) &&& 31).toUInt32).toInt32) &&& (3 : Int32))), .val (.ref u), .val (.int (0 : Int32)), .val (.int (1 : Int32))] [(.int (((p4.toUInt32 >>> ((4 : Int32) &&& 31).toUInt32).toInt32) &&& (3 : Int32)))]))
                    refine go (fun _ => XS.ifNo X52.here hx rfl (hb hby at_237) rfl ((if0 _ _).trans (teq c44).2)) ?_
                    show Run p e below _ (T52.setTop (mkF m 240 #[.val (.int p0), .val (.int p1), .val (.int p2), .val (.int p3), .val (.int p4), .val (.int (p0 &&& (2147483647 : Int32))), .val (.int (p1 &&& (2147483647 : Int32))), .val (.int vc), .val (.int ve), .val (.int f1), .val (.int f2), .val (.ref r), .val (.ref u), .val (.int (((p4.toUInt32 >>> ((4 : Int32) &&& 31).toUInt32).toInt32) &&& (3 : Int32))), .val (.ref u), .val (.int (0 : Int32)), .val (.int (1 : Int32))] []))
                    refine go (fun _ => XS.iload X52.here hx rfl (hb hby at_240) rfl) ?_
                    show Run p e below _ (T52.setTop (mkF m 242 #[.val (.int p0), .val (.int p1), .val (.int p2), .val (.int p3), .val (.int p4), .val (.int (p0 &&& (2147483647 : Int32))), .val (.int (p1 &&& (2147483647 : Int32))), .val (.int vc), .val (.int ve), .val (.int f1), .val (.int f2), .val (.ref r), .val (.ref u), .val (.int (((p4.toUInt32 >>> ((4 : Int32) &&& 31).toUInt32).toInt32) &&& (3 : Int32))), .val (.ref u), .val (.int (0 : Int32)), .val (.int (1 : Int32))] [(.int (1 : Int32))]))
                    refine go (fun _ => XS.ifNo X52.here hx rfl (hb hby at_242) rfl ((if0 _ _).trans (feq (by decide : ¬ ((1 : Int32) = 0))).1)) ?_
                    show Run p e below _ (T52.setTop (mkF m 245 #[.val (.int p0), .val (.int p1), .val (.int p2), .val (.int p3), .val (.int p4), .val (.int (p0 &&& (2147483647 : Int32))), .val (.int (p1 &&& (2147483647 : Int32))), .val (.int vc), .val (.int ve), .val (.int f1), .val (.int f2), .val (.ref r), .val (.ref u), .val (.int (((p4.toUInt32 >>> ((4 : Int32) &&& 31).toUInt32).toInt32) &&& (3 : Int32))), .val (.ref u), .val (.int (0 : Int32)), .val (.int (1 : Int32))] []))
                    refine go (fun _ => XS.aload X52.here hx rfl (hb hby at_245) rfl rfl) ?_
                    show Run p e below _ (T52.setTop (mkF m 247 #[.val (.int p0), .val (.int p1), .val (.int p2), .val (.int p3), .val (.int p4), .val (.int (p0 &&& (2147483647 : Int32))), .val (.int (p1 &&& (2147483647 : Int32))), .val (.int vc), .val (.int ve), .val (.int f1), .val (.int f2), .val (.ref r), .val (.ref u), .val (.int (((p4.toUInt32 >>> ((4 : Int32) &&& 31).toUInt32).toInt32) &&& (3 : Int32))), .val (.ref u), .val (.int (0 : Int32)), .val (.int (1 : Int32))] [(.ref u)]))
                    refine go (fun _ => XS.aload X52.here hx rfl (hb hby at_247) rfl rfl) ?_
                    show Run p e below _ (T52.setTop (mkF m 249 #[.val (.int p0), .val (.int p1), .val (.int p2), .val (.int p3), .val (.int p4), .val (.int (p0 &&& (2147483647 : Int32))), .val (.int (p1 &&& (2147483647 : Int32))), .val (.int vc), .val (.int ve), .val (.int f1), .val (.int f2), .val (.ref r), .val (.ref u), .val (.int (((p4.toUInt32 >>> ((4 : Int32) &&& 31).toUInt32).toInt32) &&& (3 : Int32))), .val (.ref u), .val (.int (0 : Int32)), .val (.int (1 : Int32))] [(.ref r), (.ref u)]))
                    refine callVi X52 hx hZ hown (wd hw 19 rfl) (wd hw 20 rfl) (notFace_of_selects (args := #[]) (mvT hZ (wd hw 22 rfl))) (wd hw 22 rfl) (wd hw 21 rfl) (wd hw 23 rfl) (wd hw 3 rfl) (by decide) e52 E_u (argsL := [(.ref r)]) (rest := []) (rm_eR l Z a0 hw [] u r vc ve f2 (p0 &&& (2147483647 : Int32)) (p1 &&& (2147483647 : Int32)) f1 h43 n0 O0 E_u F_up_u F_down_u F_flows_u E_r F_up_r F_down_r F_flows_r) (W := 0) (by decide) (by decide) (by decide) (by decide) (by rw [hml]; rfl) (lenOf pd_4 rfl) rfl (Nat.le_of_eq rfl) (hb hby at_249) ?_
                    intro v53 T53 L53 h53 X53 e53 q53
                    obtain ⟨rv, n53, k53⟩ := q53
                    replace rv : v53 = some (.int (0 : Int32)) := by simpa [eq_comm (a := vc), eq_comm (a := ve), eq_comm (a := f2), c45, c46] using rv
                    subst rv
                    have e53 := e53.trans k53
                    have N53 := Fr.app N52 n53
                    show Run p e below _ (T53.setTop (mkF m 252 #[.val (.int p0), .val (.int p1), .val (.int p2), .val (.int p3), .val (.int p4), .val (.int (p0 &&& (2147483647 : Int32))), .val (.int (p1 &&& (2147483647 : Int32))), .val (.int vc), .val (.int ve), .val (.int f1), .val (.int f2), .val (.ref r), .val (.ref u), .val (.int (((p4.toUInt32 >>> ((4 : Int32) &&& 31).toUInt32).toInt32) &&& (3 : Int32))), .val (.ref u), .val (.int (0 : Int32)), .val (.int (1 : Int32))] [(.int (0 : Int32))]))
                    refine go (fun _ => XS.iload X53.here hx rfl (hb hby at_252) rfl) ?_
                    show Run p e below _ (T53.setTop (mkF m 254 #[.val (.int p0), .val (.int p1), .val (.int p2), .val (.int p3), .val (.int p4), .val (.int (p0 &&& (2147483647 : Int32))), .val (.int (p1 &&& (2147483647 : Int32))), .val (.int vc), .val (.int ve), .val (.int f1), .val (.int f2), .val (.ref r), .val (.ref u), .val (.int (((p4.toUInt32 >>> ((4 : Int32) &&& 31).toUInt32).toInt32) &&& (3 : Int32))), .val (.ref u), .val (.int (0 : Int32)), .val (.int (1 : Int32))] [(.int (0 : Int32)), (.int (0 : Int32))]))
                    refine go (fun _ => XS.icmpNo X53.here hx rfl (hb hby at_254) rfl (teq (by decide : (0 : Int32) = 0)).2) ?_
                    show Run p e below _ (T53.setTop (mkF m 257 #[.val (.int p0), .val (.int p1), .val (.int p2), .val (.int p3), .val (.int p4), .val (.int (p0 &&& (2147483647 : Int32))), .val (.int (p1 &&& (2147483647 : Int32))), .val (.int vc), .val (.int ve), .val (.int f1), .val (.int f2), .val (.ref r), .val (.ref u), .val (.int (((p4.toUInt32 >>> ((4 : Int32) &&& 31).toUInt32).toInt32) &&& (3 : Int32))), .val (.ref u), .val (.int (0 : Int32)), .val (.int (1 : Int32))] []))
                    refine go (fun _ => XS.iconst X53.here hx rfl (hb hby at_257)) ?_
                    show Run p e below _ (T53.setTop (mkF m 258 #[.val (.int p0), .val (.int p1), .val (.int p2), .val (.int p3), .val (.int p4), .val (.int (p0 &&& (2147483647 : Int32))), .val (.int (p1 &&& (2147483647 : Int32))), .val (.int vc), .val (.int ve), .val (.int f1), .val (.int f2), .val (.ref r), .val (.ref u), .val (.int (((p4.toUInt32 >>> ((4 : Int32) &&& 31).toUInt32).toInt32) &&& (3 : Int32))), .val (.ref u), .val (.int (0 : Int32)), .val (.int (1 : Int32))] [(.int (1 : Int32))]))
                    refine go (fun _ => XS.goto X53.here hx rfl (pc0 := 258) (pc' := 262) rfl (hb hby at_258) (by decide) (by decide)) ?_
                    show Run p e below _ (T53.setTop (mkF m 262 #[.val (.int p0), .val (.int p1), .val (.int p2), .val (.int p3), .val (.int p4), .val (.int (p0 &&& (2147483647 : Int32))), .val (.int (p1 &&& (2147483647 : Int32))), .val (.int vc), .val (.int ve), .val (.int f1), .val (.int f2), .val (.ref r), .val (.ref u), .val (.int (((p4.toUInt32 >>> ((4 : Int32) &&& 31).toUInt32).toInt32) &&& (3 : Int32))), .val (.ref u), .val (.int (0 : Int32)), .val (.int (1 : Int32))] [(.int (1 : Int32))]))
                    refine go (fun _ => XS.istore X53.here hx rfl (hb hby at_262) rfl (l' := #[.val (.int p0), .val (.int p1), .val (.int p2), .val (.int p3), .val (.int p4), .val (.int (p0 &&& (2147483647 : Int32))), .val (.int (p1 &&& (2147483647 : Int32))), .val (.int vc), .val (.int ve), .val (.int f1), .val (.int f2), .val (.ref r), .val (.ref u), .val (.int (((p4.toUInt32 >>> ((4 : Int32) &&& 31).toUInt32).toInt32) &&& (3 : Int32))), .val (.ref u), .val (.int (0 : Int32)), .val (.int (1 : Int32))]) rfl) ?_
                    show Run p e below _ (T53.setTop (mkF m 264 #[.val (.int p0), .val (.int p1), .val (.int p2), .val (.int p3), .val (.int p4), .val (.int (p0 &&& (2147483647 : Int32))), .val (.int (p1 &&& (2147483647 : Int32))), .val (.int vc), .val (.int ve), .val (.int f1), .val (.int f2), .val (.ref r), .val (.ref u), .val (.int (((p4.toUInt32 >>> ((4 : Int32) &&& 31).toUInt32).toInt32) &&& (3 : Int32))), .val (.ref u), .val (.int (0 : Int32)), .val (.int (1 : Int32))] []))
                    refine go (fun _ => XS.iload X53.here hx rfl (hb hby at_264) rfl) ?_
                    show Run p e below _ (T53.setTop (mkF m 266 #[.val (.int p0), .val (.int p1), .val (.int p2), .val (.int p3), .val (.int p4), .val (.int (p0 &&& (2147483647 : Int32))), .val (.int (p1 &&& (2147483647 : Int32))), .val (.int vc), .val (.int ve), .val (.int f1), .val (.int f2), .val (.ref r), .val (.ref u), .val (.int (((p4.toUInt32 >>> ((4 : Int32) &&& 31).toUInt32).toInt32) &&& (3 : Int32))), .val (.ref u), .val (.int (0 : Int32)), .val (.int (1 : Int32))] [(.int (1 : Int32))]))
                    exact endN X53 hx hlk (t := .boolean) hret (by simp) (hb hby at_266) (⟨rfl, N53⟩) (by decide) (by decide)
                · skip
                  refine go (fun _ => XS.icmpYes X43.here hx rfl (pc0 := 148) (pc' := 169) rfl (hb hby at_148) rfl (feq c45).2 (by decide) (by decide)) ?_
                  show Run p e below _ (T43.setTop (mkF m 169 #[.val (.int p0), .val (.int p1), .val (.int p2), .val (.int p3), .val (.int p4), .val (.int (p0 &&& (2147483647 : Int32))), .val (.int (p1 &&& (2147483647 : Int32))), .val (.int vc), .val (.int ve), .val (.int f1), .val (.int f2), .val (.ref r), .val (.ref u), .val (.int (((p4.toUInt32 >>> ((4 : Int32) &&& 31).toUInt32).toInt32) &&& (3 : Int32))), .val (.ref u), .unset, .unset] []))
                  refine go (fun _ => XS.iconst X43.here hx rfl (hb hby at_169)) ?_
                  show Run p e below _ (T43.setTop (mkF m 170 #[.val (.int p0), .val (.int p1), .val (.int p2), .val (.int p3), .val (.int p4), .val (.int (p0 &&& (2147483647 : Int32))), .val (.int (p1 &&& (2147483647 : Int32))), .val (.int vc), .val (.int ve), .val (.int f1), .val (.int f2), .val (.ref r), .val (.ref u), .val (.int (((p4.toUInt32 >>> ((4 : Int32) &&& 31).toUInt32).toInt32) &&& (3 : Int32))), .val (.ref u), .unset, .unset] [(.int (0 : Int32))]))
                  refine go (fun _ => XS.istore X43.here hx rfl (hb hby at_170) rfl (l' := #[.val (.int p0), .val (.int p1), .val (.int p2), .val (.int p3), .val (.int p4), .val (.int (p0 &&& (2147483647 : Int32))), .val (.int (p1 &&& (2147483647 : Int32))), .val (.int vc), .val (.int ve), .val (.int f1), .val (.int f2), .val (.ref r), .val (.ref u), .val (.int (((p4.toUInt32 >>> ((4 : Int32) &&& 31).toUInt32).toInt32) &&& (3 : Int32))), .val (.ref u), .val (.int (0 : Int32)), .unset]) rfl) ?_
                  show Run p e below _ (T43.setTop (mkF m 172 #[.val (.int p0), .val (.int p1), .val (.int p2), .val (.int p3), .val (.int p4), .val (.int (p0 &&& (2147483647 : Int32))), .val (.int (p1 &&& (2147483647 : Int32))), .val (.int vc), .val (.int ve), .val (.int f1), .val (.int f2), .val (.ref r), .val (.ref u), .val (.int (((p4.toUInt32 >>> ((4 : Int32) &&& 31).toUInt32).toInt32) &&& (3 : Int32))), .val (.ref u), .val (.int (0 : Int32)), .unset] []))
                  refine go (fun _ => XS.goto X43.here hx rfl (pc0 := 172) (pc' := 216) rfl (hb hby at_172) (by decide) (by decide)) ?_
                  show Run p e below _ (T43.setTop (mkF m 216 #[.val (.int p0), .val (.int p1), .val (.int p2), .val (.int p3), .val (.int p4), .val (.int (p0 &&& (2147483647 : Int32))), .val (.int (p1 &&& (2147483647 : Int32))), .val (.int vc), .val (.int ve), .val (.int f1), .val (.int f2), .val (.ref r), .val (.ref u), .val (.int (((p4.toUInt32 >>> ((4 : Int32) &&& 31).toUInt32).toInt32) &&& (3 : Int32))), .val (.ref u), .val (.int (0 : Int32)), .unset] []))
                  refine go (fun _ => XS.aload X43.here hx rfl (hb hby at_216) rfl rfl) ?_
                  show Run p e below _ (T43.setTop (mkF m 218 #[.val (.int p0), .val (.int p1), .val (.int p2), .val (.int p3), .val (.int p4), .val (.int (p0 &&& (2147483647 : Int32))), .val (.int (p1 &&& (2147483647 : Int32))), .val (.int vc), .val (.int ve), .val (.int f1), .val (.int f2), .val (.ref r), .val (.ref u), .val (.int (((p4.toUInt32 >>> ((4 : Int32) &&& 31).toUInt32).toInt32) &&& (3 : Int32))), .val (.ref u), .val (.int (0 : Int32)), .unset] [(.ref r)]))
                  refine go (fun _ => XS.aload X43.here hx rfl (hb hby at_218) rfl rfl) ?_
                  show Run p e below _ (T43.setTop (mkF m 220 #[.val (.int p0), .val (.int p1), .val (.int p2), .val (.int p3), .val (.int p4), .val (.int (p0 &&& (2147483647 : Int32))), .val (.int (p1 &&& (2147483647 : Int32))), .val (.int vc), .val (.int ve), .val (.int f1), .val (.int f2), .val (.ref r), .val (.ref u), .val (.int (((p4.toUInt32 >>> ((4 : Int32) &&& 31).toUInt32).toInt32) &&& (3 : Int32))), .val (.ref u), .val (.int (0 : Int32)), .unset] [(.ref u), (.ref r)]))
                  refine callVi X43 hx hZ hown (wd hw 19 rfl) (wd hw 20 rfl) (notFace_of_selects (args := #[]) (mvT hZ (wd hw 22 rfl))) (wd hw 22 rfl) (wd hw 21 rfl) (wd hw 23 rfl) (wd hw 3 rfl) (by decide) e43 E_r (argsL := [(.ref u)]) (rest := []) (rm_eR l Z a0 hw [] r u (p0 &&& (2147483647 : Int32)) (p1 &&& (2147483647 : Int32)) f1 vc ve f2 h43 n0 O0 E_r F_up_r F_down_r F_flows_r E_u F_up_u F_down_u F_flows_u) (W := 0) (by decide) (by decide) (by decide) (by decide) (by rw [hml]; rfl) (lenOf pd_4 rfl) rfl (Nat.le_of_eq rfl) (hb hby at_220) ?_
                  intro v54 T54 L54 h54 X54 e54 q54
                  obtain ⟨rv, n54, k54⟩ := q54
                  replace rv : v54 = some (.int (0 : Int32)) := by simpa [c45] using rv
                  subst rv
                  have e54 := e54.trans k54
                  have N54 := Fr.app N43 n54
                  show Run p e below _ (T54.setTop (mkF m 223 #[.val (.int p0), .val (.int p1), .val (.int p2), .val (.int p3), .val (.int p4), .val (.int (p0 &&& (2147483647 : Int32))), .val (.int (p1 &&& (2147483647 : Int32))), .val (.int vc), .val (.int ve), .val (.int f1), .val (.int f2), .val (.ref r), .val (.ref u), .val (.int (((p4.toUInt32 >>> ((4 : Int32) &&& 31).toUInt32).toInt32) &&& (3 : Int32))), .val (.ref u), .val (.int (0 : Int32)), .unset] [(.int (0 : Int32))]))
                  refine go (fun _ => XS.iload X54.here hx rfl (hb hby at_223) rfl) ?_
                  show Run p e below _ (T54.setTop (mkF m 225 #[.val (.int p0), .val (.int p1), .val (.int p2), .val (.int p3), .val (.int p4), .val (.int (p0 &&& (2147483647 : Int32))), .val (.int (p1 &&& (2147483647 : Int32))), .val (.int vc), .val (.int ve), .val (.int f1), .val (.int f2), .val (.ref r), .val (.ref u), .val (.int (((p4.toUInt32 >>> ((4 : Int32) &&& 31).toUInt32).toInt32) &&& (3 : Int32))), .val (.ref u), .val (.int (0 : Int32)), .unset] [(.int (0 : Int32)), (.int (0 : Int32))]))
                  refine go (fun _ => XS.icmpNo X54.here hx rfl (hb hby at_225) rfl (teq (by decide : (0 : Int32) = 0)).2) ?_
                  show Run p e below _ (T54.setTop (mkF m 228 #[.val (.int p0), .val (.int p1), .val (.int p2), .val (.int p3), .val (.int p4), .val (.int (p0 &&& (2147483647 : Int32))), .val (.int (p1 &&& (2147483647 : Int32))), .val (.int vc), .val (.int ve), .val (.int f1), .val (.int f2), .val (.ref r), .val (.ref u), .val (.int (((p4.toUInt32 >>> ((4 : Int32) &&& 31).toUInt32).toInt32) &&& (3 : Int32))), .val (.ref u), .val (.int (0 : Int32)), .unset] []))
                  refine go (fun _ => XS.iconst X54.here hx rfl (hb hby at_228)) ?_
                  show Run p e below _ (T54.setTop (mkF m 229 #[.val (.int p0), .val (.int p1), .val (.int p2), .val (.int p3), .val (.int p4), .val (.int (p0 &&& (2147483647 : Int32))), .val (.int (p1 &&& (2147483647 : Int32))), .val (.int vc), .val (.int ve), .val (.int f1), .val (.int f2), .val (.ref r), .val (.ref u), .val (.int (((p4.toUInt32 >>> ((4 : Int32) &&& 31).toUInt32).toInt32) &&& (3 : Int32))), .val (.ref u), .val (.int (0 : Int32)), .unset] [(.int (1 : Int32))]))
                  refine go (fun _ => XS.goto X54.here hx rfl (pc0 := 229) (pc' := 233) rfl (hb hby at_229) (by decide) (by decide)) ?_
                  show Run p e below _ (T54.setTop (mkF m 233 #[.val (.int p0), .val (.int p1), .val (.int p2), .val (.int p3), .val (.int p4), .val (.int (p0 &&& (2147483647 : Int32))), .val (.int (p1 &&& (2147483647 : Int32))), .val (.int vc), .val (.int ve), .val (.int f1), .val (.int f2), .val (.ref r), .val (.ref u), .val (.int (((p4.toUInt32 >>> ((4 : Int32) &&& 31).toUInt32).toInt32) &&& (3 : Int32))), .val (.ref u), .val (.int (0 : Int32)), .unset] [(.int (1 : Int32))]))
                  refine go (fun _ => XS.istore X54.here hx rfl (hb hby at_233) rfl (l' := #[.val (.int p0), .val (.int p1), .val (.int p2), .val (.int p3), .val (.int p4), .val (.int (p0 &&& (2147483647 : Int32))), .val (.int (p1 &&& (2147483647 : Int32))), .val (.int vc), .val (.int ve), .val (.int f1), .val (.int f2), .val (.ref r), .val (.ref u), .val (.int (((p4.toUInt32 >>> ((4 : Int32) &&& 31).toUInt32).toInt32) &&& (3 : Int32))), .val (.ref u), .val (.int (0 : Int32)), .val (.int (1 : Int32))]) rfl) ?_
                  show Run p e below _ (T54.setTop (mkF m 235 #[.val (.int p0), .val (.int p1), .val (.int p2), .val (.int p3), .val (.int p4), .val (.int (p0 &&& (2147483647 : Int32))), .val (.int (p1 &&& (2147483647 : Int32))), .val (.int vc), .val (.int ve), .val (.int f1), .val (.int f2), .val (.ref r), .val (.ref u), .val (.int (((p4.toUInt32 >>> ((4 : Int32) &&& 31).toUInt32).toInt32) &&& (3 : Int32))), .val (.ref u), .val (.int (0 : Int32)), .val (.int (1 : Int32))] []))
                  refine go (fun _ => XS.iload X54.here hx rfl (hb hby at_235) rfl) ?_
                  show Run p e below _ (T54.setTop (mkF m 237 #[.val (.int p0), .val (.int p1), .val (.int p2), .val (.int p3), .val (.int p4), .val (.int (p0 &&& (2147483647 : Int32))), .val (.int (p1 &&& (2147483647 : Int32))), .val (.int vc), .val (.int ve), .val (.int f1), .val (.int f2), .val (.ref r), .val (.ref u), .val (.int (((p4.toUInt32 >>> ((4 : Int32) &&& 31).toUInt32).toInt32) &&& (3 : Int32))), .val (.ref u), .val (.int (0 : Int32)), .val (.int (1 : Int32))] [(.int (((p4.toUInt32 >>> ((4 : Int32) &&& 31).toUInt32).toInt32) &&& (3 : Int32)))]))
                  refine go (fun _ => XS.ifNo X54.here hx rfl (hb hby at_237) rfl ((if0 _ _).trans (teq c44).2)) ?_
                  show Run p e below _ (T54.setTop (mkF m 240 #[.val (.int p0), .val (.int p1), .val (.int p2), .val (.int p3), .val (.int p4), .val (.int (p0 &&& (2147483647 : Int32))), .val (.int (p1 &&& (2147483647 : Int32))), .val (.int vc), .val (.int ve), .val (.int f1), .val (.int f2), .val (.ref r), .val (.ref u), .val (.int (((p4.toUInt32 >>> ((4 : Int32) &&& 31).toUInt32).toInt32) &&& (3 : Int32))), .val (.ref u), .val (.int (0 : Int32)), .val (.int (1 : Int32))] []))
                  refine go (fun _ => XS.iload X54.here hx rfl (hb hby at_240) rfl) ?_
                  show Run p e below _ (T54.setTop (mkF m 242 #[.val (.int p0), .val (.int p1), .val (.int p2), .val (.int p3), .val (.int p4), .val (.int (p0 &&& (2147483647 : Int32))), .val (.int (p1 &&& (2147483647 : Int32))), .val (.int vc), .val (.int ve), .val (.int f1), .val (.int f2), .val (.ref r), .val (.ref u), .val (.int (((p4.toUInt32 >>> ((4 : Int32) &&& 31).toUInt32).toInt32) &&& (3 : Int32))), .val (.ref u), .val (.int (0 : Int32)), .val (.int (1 : Int32))] [(.int (1 : Int32))]))
                  refine go (fun _ => XS.ifNo X54.here hx rfl (hb hby at_242) rfl ((if0 _ _).trans (feq (by decide : ¬ ((1 : Int32) = 0))).1)) ?_
                  show Run p e below _ (T54.setTop (mkF m 245 #[.val (.int p0), .val (.int p1), .val (.int p2), .val (.int p3), .val (.int p4), .val (.int (p0 &&& (2147483647 : Int32))), .val (.int (p1 &&& (2147483647 : Int32))), .val (.int vc), .val (.int ve), .val (.int f1), .val (.int f2), .val (.ref r), .val (.ref u), .val (.int (((p4.toUInt32 >>> ((4 : Int32) &&& 31).toUInt32).toInt32) &&& (3 : Int32))), .val (.ref u), .val (.int (0 : Int32)), .val (.int (1 : Int32))] []))
                  refine go (fun _ => XS.aload X54.here hx rfl (hb hby at_245) rfl rfl) ?_
                  show Run p e below _ (T54.setTop (mkF m 247 #[.val (.int p0), .val (.int p1), .val (.int p2), .val (.int p3), .val (.int p4), .val (.int (p0 &&& (2147483647 : Int32))), .val (.int (p1 &&& (2147483647 : Int32))), .val (.int vc), .val (.int ve), .val (.int f1), .val (.int f2), .val (.ref r), .val (.ref u), .val (.int (((p4.toUInt32 >>> ((4 : Int32) &&& 31).toUInt32).toInt32) &&& (3 : Int32))), .val (.ref u), .val (.int (0 : Int32)), .val (.int (1 : Int32))] [(.ref u)]))
                  refine go (fun _ => XS.aload X54.here hx rfl (hb hby at_247) rfl rfl) ?_
                  show Run p e below _ (T54.setTop (mkF m 249 #[.val (.int p0), .val (.int p1), .val (.int p2), .val (.int p3), .val (.int p4), .val (.int (p0 &&& (2147483647 : Int32))), .val (.int (p1 &&& (2147483647 : Int32))), .val (.int vc), .val (.int ve), .val (.int f1), .val (.int f2), .val (.ref r), .val (.ref u), .val (.int (((p4.toUInt32 >>> ((4 : Int32) &&& 31).toUInt32).toInt32) &&& (3 : Int32))), .val (.ref u), .val (.int (0 : Int32)), .val (.int (1 : Int32))] [(.ref r), (.ref u)]))
                  refine callVi X54 hx hZ hown (wd hw 19 rfl) (wd hw 20 rfl) (notFace_of_selects (args := #[]) (mvT hZ (wd hw 22 rfl))) (wd hw 22 rfl) (wd hw 21 rfl) (wd hw 23 rfl) (wd hw 3 rfl) (by decide) e54 E_u (argsL := [(.ref r)]) (rest := []) (rm_eR l Z a0 hw [] u r vc ve f2 (p0 &&& (2147483647 : Int32)) (p1 &&& (2147483647 : Int32)) f1 h43 n0 O0 E_u F_up_u F_down_u F_flows_u E_r F_up_r F_down_r F_flows_r) (W := 0) (by decide) (by decide) (by decide) (by decide) (by rw [hml]; rfl) (lenOf pd_4 rfl) rfl (Nat.le_of_eq rfl) (hb hby at_249) ?_
                  intro v55 T55 L55 h55 X55 e55 q55
                  obtain ⟨rv, n55, k55⟩ := q55
                  replace rv : v55 = some (.int (0 : Int32)) := by simpa [eq_comm (a := vc), eq_comm (a := ve), eq_comm (a := f2), c45] using rv
                  subst rv
                  have e55 := e55.trans k55
                  have N55 := Fr.app N54 n55
                  show Run p e below _ (T55.setTop (mkF m 252 #[.val (.int p0), .val (.int p1), .val (.int p2), .val (.int p3), .val (.int p4), .val (.int (p0 &&& (2147483647 : Int32))), .val (.int (p1 &&& (2147483647 : Int32))), .val (.int vc), .val (.int ve), .val (.int f1), .val (.int f2), .val (.ref r), .val (.ref u), .val (.int (((p4.toUInt32 >>> ((4 : Int32) &&& 31).toUInt32).toInt32) &&& (3 : Int32))), .val (.ref u), .val (.int (0 : Int32)), .val (.int (1 : Int32))] [(.int (0 : Int32))]))
                  refine go (fun _ => XS.iload X55.here hx rfl (hb hby at_252) rfl) ?_
                  show Run p e below _ (T55.setTop (mkF m 254 #[.val (.int p0), .val (.int p1), .val (.int p2), .val (.int p3), .val (.int p4), .val (.int (p0 &&& (2147483647 : Int32))), .val (.int (p1 &&& (2147483647 : Int32))), .val (.int vc), .val (.int ve), .val (.int f1), .val (.int f2), .val (.ref r), .val (.ref u), .val (.int (((p4.toUInt32 >>> ((4 : Int32) &&& 31).toUInt32).toInt32) &&& (3 : Int32))), .val (.ref u), .val (.int (0 : Int32)), .val (.int (1 : Int32))] [(.int (0 : Int32)), (.int (0 : Int32))]))
                  refine go (fun _ => XS.icmpNo X55.here hx rfl (hb hby at_254) rfl (teq (by decide : (0 : Int32) = 0)).2) ?_
                  show Run p e below _ (T55.setTop (mkF m 257 #[.val (.int p0), .val (.int p1), .val (.int p2), .val (.int p3), .val (.int p4), .val (.int (p0 &&& (2147483647 : Int32))), .val (.int (p1 &&& (2147483647 : Int32))), .val (.int vc), .val (.int ve), .val (.int f1), .val (.int f2), .val (.ref r), .val (.ref u), .val (.int (((p4.toUInt32 >>> ((4 : Int32) &&& 31).toUInt32).toInt32) &&& (3 : Int32))), .val (.ref u), .val (.int (0 : Int32)), .val (.int (1 : Int32))] []))
                  refine go (fun _ => XS.iconst X55.here hx rfl (hb hby at_257)) ?_
                  show Run p e below _ (T55.setTop (mkF m 258 #[.val (.int p0), .val (.int p1), .val (.int p2), .val (.int p3), .val (.int p4), .val (.int (p0 &&& (2147483647 : Int32))), .val (.int (p1 &&& (2147483647 : Int32))), .val (.int vc), .val (.int ve), .val (.int f1), .val (.int f2), .val (.ref r), .val (.ref u), .val (.int (((p4.toUInt32 >>> ((4 : Int32) &&& 31).toUInt32).toInt32) &&& (3 : Int32))), .val (.ref u), .val (.int (0 : Int32)), .val (.int (1 : Int32))] [(.int (1 : Int32))]))
                  refine go (fun _ => XS.goto X55.here hx rfl (pc0 := 258) (pc' := 262) rfl (hb hby at_258) (by decide) (by decide)) ?_
                  show Run p e below _ (T55.setTop (mkF m 262 #[.val (.int p0), .val (.int p1), .val (.int p2), .val (.int p3), .val (.int p4), .val (.int (p0 &&& (2147483647 : Int32))), .val (.int (p1 &&& (2147483647 : Int32))), .val (.int vc), .val (.int ve), .val (.int f1), .val (.int f2), .val (.ref r), .val (.ref u), .val (.int (((p4.toUInt32 >>> ((4 : Int32) &&& 31).toUInt32).toInt32) &&& (3 : Int32))), .val (.ref u), .val (.int (0 : Int32)), .val (.int (1 : Int32))] [(.int (1 : Int32))]))
                  refine go (fun _ => XS.istore X55.here hx rfl (hb hby at_262) rfl (l' := #[.val (.int p0), .val (.int p1), .val (.int p2), .val (.int p3), .val (.int p4), .val (.int (p0 &&& (2147483647 : Int32))), .val (.int (p1 &&& (2147483647 : Int32))), .val (.int vc), .val (.int ve), .val (.int f1), .val (.int f2), .val (.ref r), .val (.ref u), .val (.int (((p4.toUInt32 >>> ((4 : Int32) &&& 31).toUInt32).toInt32) &&& (3 : Int32))), .val (.ref u), .val (.int (0 : Int32)), .val (.int (1 : Int32))]) rfl) ?_
                  show Run p e below _ (T55.setTop (mkF m 264 #[.val (.int p0), .val (.int p1), .val (.int p2), .val (.int p3), .val (.int p4), .val (.int (p0 &&& (2147483647 : Int32))), .val (.int (p1 &&& (2147483647 : Int32))), .val (.int vc), .val (.int ve), .val (.int f1), .val (.int f2), .val (.ref r), .val (.ref u), .val (.int (((p4.toUInt32 >>> ((4 : Int32) &&& 31).toUInt32).toInt32) &&& (3 : Int32))), .val (.ref u), .val (.int (0 : Int32)), .val (.int (1 : Int32))] []))
                  refine go (fun _ => XS.iload X55.here hx rfl (hb hby at_264) rfl) ?_
                  show Run p e below _ (T55.setTop (mkF m 266 #[.val (.int p0), .val (.int p1), .val (.int p2), .val (.int p3), .val (.int p4), .val (.int (p0 &&& (2147483647 : Int32))), .val (.int (p1 &&& (2147483647 : Int32))), .val (.int vc), .val (.int ve), .val (.int f1), .val (.int f2), .val (.ref r), .val (.ref u), .val (.int (((p4.toUInt32 >>> ((4 : Int32) &&& 31).toUInt32).toInt32) &&& (3 : Int32))), .val (.ref u), .val (.int (0 : Int32)), .val (.int (1 : Int32))] [(.int (1 : Int32))]))
                  exact endN X55 hx hlk (t := .boolean) hret (by simp) (hb hby at_266) (⟨rfl, N55⟩) (by decide) (by decide)
              · skip
                refine go (fun _ => XS.ifYes X43.here hx rfl (pc0 := 137) (pc' := 175) rfl (hb hby at_137) rfl ((if0 _ _).trans (feq c44).2) (by decide) (by decide)) ?_
                show Run p e below _ (T43.setTop (mkF m 175 #[.val (.int p0), .val (.int p1), .val (.int p2), .val (.int p3), .val (.int p4), .val (.int (p0 &&& (2147483647 : Int32))), .val (.int (p1 &&& (2147483647 : Int32))), .val (.int vc), .val (.int ve), .val (.int f1), .val (.int f2), .val (.ref r), .val (.ref u), .val (.int (((p4.toUInt32 >>> ((4 : Int32) &&& 31).toUInt32).toInt32) &&& (3 : Int32))), .unset, .unset, .unset] []))
                refine go (fun _ => XS.iload X43.here hx rfl (hb hby at_175) rfl) ?_
                show Run p e below _ (T43.setTop (mkF m 177 #[.val (.int p0), .val (.int p1), .val (.int p2), .val (.int p3), .val (.int p4), .val (.int (p0 &&& (2147483647 : Int32))), .val (.int (p1 &&& (2147483647 : Int32))), .val (.int vc), .val (.int ve), .val (.int f1), .val (.int f2), .val (.ref r), .val (.ref u), .val (.int (((p4.toUInt32 >>> ((4 : Int32) &&& 31).toUInt32).toInt32) &&& (3 : Int32))), .unset, .unset, .unset] [(.int (((p4.toUInt32 >>> ((4 : Int32) &&& 31).toUInt32).toInt32) &&& (3 : Int32)))]))
                refine go (fun _ => XS.iconst X43.here hx rfl (hb hby at_177)) ?_
                show Run p e below _ (T43.setTop (mkF m 178 #[.val (.int p0), .val (.int p1), .val (.int p2), .val (.int p3), .val (.int p4), .val (.int (p0 &&& (2147483647 : Int32))), .val (.int (p1 &&& (2147483647 : Int32))), .val (.int vc), .val (.int ve), .val (.int f1), .val (.int f2), .val (.ref r), .val (.ref u), .val (.int (((p4.toUInt32 >>> ((4 : Int32) &&& 31).toUInt32).toInt32) &&& (3 : Int32))), .unset, .unset, .unset] [(.int (1 : Int32)), (.int (((p4.toUInt32 >>> ((4 : Int32) &&& 31).toUInt32).toInt32) &&& (3 : Int32)))]))
                by_cases c56 : (((p4.toUInt32 >>> ((4 : Int32) &&& 31).toUInt32).toInt32) &&& (3 : Int32)) = (1 : Int32)
                · skip
                  refine go (fun _ => XS.icmpNo X43.here hx rfl (hb hby at_178) rfl (teq c56).2) ?_
                  show Run p e below _ (T43.setTop (mkF m 181 #[.val (.int p0), .val (.int p1), .val (.int p2), .val (.int p3), .val (.int p4), .val (.int (p0 &&& (2147483647 : Int32))), .val (.int (p1 &&& (2147483647 : Int32))), .val (.int vc), .val (.int ve), .val (.int f1), .val (.int f2), .val (.ref r), .val (.ref u), .val (.int (((p4.toUInt32 >>> ((4 : Int32) &&& 31).toUInt32).toInt32) &&& (3 : Int32))), .unset, .unset, .unset] []))
                  refine go (fun _ => XS.aconstNull X43.here hx rfl (hb hby at_181)) ?_
                  show Run p e below _ (T43.setTop (mkF m 182 #[.val (.int p0), .val (.int p1), .val (.int p2), .val (.int p3), .val (.int p4), .val (.int (p0 &&& (2147483647 : Int32))), .val (.int (p1 &&& (2147483647 : Int32))), .val (.int vc), .val (.int ve), .val (.int f1), .val (.int f2), .val (.ref r), .val (.ref u), .val (.int (((p4.toUInt32 >>> ((4 : Int32) &&& 31).toUInt32).toInt32) &&& (3 : Int32))), .unset, .unset, .unset] [.null]))
                  refine go (fun _ => XS.astore X43.here hx rfl (hb hby at_182) rfl rfl (l' := #[.val (.int p0), .val (.int p1), .val (.int p2), .val (.int p3), .val (.int p4), .val (.int (p0 &&& (2147483647 : Int32))), .val (.int (p1 &&& (2147483647 : Int32))), .val (.int vc), .val (.int ve), .val (.int f1), .val (.int f2), .val (.ref r), .val (.ref u), .val (.int (((p4.toUInt32 >>> ((4 : Int32) &&& 31).toUInt32).toInt32) &&& (3 : Int32))), .val .null, .unset, .unset]) rfl) ?_
                  show Run p e below _ (T43.setTop (mkF m 184 #[.val (.int p0), .val (.int p1), .val (.int p2), .val (.int p3), .val (.int p4), .val (.int (p0 &&& (2147483647 : Int32))), .val (.int (p1 &&& (2147483647 : Int32))), .val (.int vc), .val (.int ve), .val (.int f1), .val (.int f2), .val (.ref r), .val (.ref u), .val (.int (((p4.toUInt32 >>> ((4 : Int32) &&& 31).toUInt32).toInt32) &&& (3 : Int32))), .val .null, .unset, .unset] []))
                  refine go (fun _ => XS.iconst X43.here hx rfl (hb hby at_184)) ?_
                  show Run p e below _ (T43.setTop (mkF m 185 #[.val (.int p0), .val (.int p1), .val (.int p2), .val (.int p3), .val (.int p4), .val (.int (p0 &&& (2147483647 : Int32))), .val (.int (p1 &&& (2147483647 : Int32))), .val (.int vc), .val (.int ve), .val (.int f1), .val (.int f2), .val (.ref r), .val (.ref u), .val (.int (((p4.toUInt32 >>> ((4 : Int32) &&& 31).toUInt32).toInt32) &&& (3 : Int32))), .val .null, .unset, .unset] [(.int (0 : Int32))]))
                  refine go (fun _ => XS.istore X43.here hx rfl (hb hby at_185) rfl (l' := #[.val (.int p0), .val (.int p1), .val (.int p2), .val (.int p3), .val (.int p4), .val (.int (p0 &&& (2147483647 : Int32))), .val (.int (p1 &&& (2147483647 : Int32))), .val (.int vc), .val (.int ve), .val (.int f1), .val (.int f2), .val (.ref r), .val (.ref u), .val (.int (((p4.toUInt32 >>> ((4 : Int32) &&& 31).toUInt32).toInt32) &&& (3 : Int32))), .val .null, .val (.int (0 : Int32)), .unset]) rfl) ?_
                  show Run p e below _ (T43.setTop (mkF m 187 #[.val (.int p0), .val (.int p1), .val (.int p2), .val (.int p3), .val (.int p4), .val (.int (p0 &&& (2147483647 : Int32))), .val (.int (p1 &&& (2147483647 : Int32))), .val (.int vc), .val (.int ve), .val (.int f1), .val (.int f2), .val (.ref r), .val (.ref u), .val (.int (((p4.toUInt32 >>> ((4 : Int32) &&& 31).toUInt32).toInt32) &&& (3 : Int32))), .val .null, .val (.int (0 : Int32)), .unset] []))
                  refine go (fun _ => XS.goto X43.here hx rfl (pc0 := 187) (pc' := 216) rfl (hb hby at_187) (by decide) (by decide)) ?_
                  show Run p e below _ (T43.setTop (mkF m 216 #[.val (.int p0), .val (.int p1), .val (.int p2), .val (.int p3), .val (.int p4), .val (.int (p0 &&& (2147483647 : Int32))), .val (.int (p1 &&& (2147483647 : Int32))), .val (.int vc), .val (.int ve), .val (.int f1), .val (.int f2), .val (.ref r), .val (.ref u), .val (.int (((p4.toUInt32 >>> ((4 : Int32) &&& 31).toUInt32).toInt32) &&& (3 : Int32))), .val .null, .val (.int (0 : Int32)), .unset] []))
                  refine go (fun _ => XS.aload X43.here hx rfl (hb hby at_216) rfl rfl) ?_
                  show Run p e below _ (T43.setTop (mkF m 218 #[.val (.int p0), .val (.int p1), .val (.int p2), .val (.int p3), .val (.int p4), .val (.int (p0 &&& (2147483647 : Int32))), .val (.int (p1 &&& (2147483647 : Int32))), .val (.int vc), .val (.int ve), .val (.int f1), .val (.int f2), .val (.ref r), .val (.ref u), .val (.int (((p4.toUInt32 >>> ((4 : Int32) &&& 31).toUInt32).toInt32) &&& (3 : Int32))), .val .null, .val (.int (0 : Int32)), .unset] [(.ref r)]))
                  refine go (fun _ => XS.aload X43.here hx rfl (hb hby at_218) rfl rfl) ?_
                  show Run p e below _ (T43.setTop (mkF m 220 #[.val (.int p0), .val (.int p1), .val (.int p2), .val (.int p3), .val (.int p4), .val (.int (p0 &&& (2147483647 : Int32))), .val (.int (p1 &&& (2147483647 : Int32))), .val (.int vc), .val (.int ve), .val (.int f1), .val (.int f2), .val (.ref r), .val (.ref u), .val (.int (((p4.toUInt32 >>> ((4 : Int32) &&& 31).toUInt32).toInt32) &&& (3 : Int32))), .val .null, .val (.int (0 : Int32)), .unset] [.null, (.ref r)]))
                  refine callVi X43 hx hZ hown (wd hw 19 rfl) (wd hw 20 rfl) (notFace_of_selects (args := #[]) (mvT hZ (wd hw 22 rfl))) (wd hw 22 rfl) (wd hw 21 rfl) (wd hw 23 rfl) (wd hw 3 rfl) (by decide) e43 E_r (argsL := [.null]) (rest := []) (rm_e0 l Z a0 hw [] r h43 n0 O0) (W := 0) (by decide) (by decide) (by decide) (by decide) (by rw [hml]; rfl) (lenOf pd_4 rfl) rfl (Nat.le_of_eq rfl) (hb hby at_220) ?_
                  intro v57 T57 L57 h57 X57 e57 q57
                  obtain ⟨rv, n57, k57⟩ := q57
                  replace rv : v57 = some (.int (0 : Int32)) := rv
                  subst rv
                  have e57 := e57.trans k57
                  have N57 := Fr.app N43 n57
                  show Run p e below _ (T57.setTop (mkF m 223 #[.val (.int p0), .val (.int p1), .val (.int p2), .val (.int p3), .val (.int p4), .val (.int (p0 &&& (2147483647 : Int32))), .val (.int (p1 &&& (2147483647 : Int32))), .val (.int vc), .val (.int ve), .val (.int f1), .val (.int f2), .val (.ref r), .val (.ref u), .val (.int (((p4.toUInt32 >>> ((4 : Int32) &&& 31).toUInt32).toInt32) &&& (3 : Int32))), .val .null, .val (.int (0 : Int32)), .unset] [(.int (0 : Int32))]))
                  refine go (fun _ => XS.iload X57.here hx rfl (hb hby at_223) rfl) ?_
                  show Run p e below _ (T57.setTop (mkF m 225 #[.val (.int p0), .val (.int p1), .val (.int p2), .val (.int p3), .val (.int p4), .val (.int (p0 &&& (2147483647 : Int32))), .val (.int (p1 &&& (2147483647 : Int32))), .val (.int vc), .val (.int ve), .val (.int f1), .val (.int f2), .val (.ref r), .val (.ref u), .val (.int (((p4.toUInt32 >>> ((4 : Int32) &&& 31).toUInt32).toInt32) &&& (3 : Int32))), .val .null, .val (.int (0 : Int32)), .unset] [(.int (0 : Int32)), (.int (0 : Int32))]))
                  refine go (fun _ => XS.icmpNo X57.here hx rfl (hb hby at_225) rfl (teq (by decide : (0 : Int32) = 0)).2) ?_
                  show Run p e below _ (T57.setTop (mkF m 228 #[.val (.int p0), .val (.int p1), .val (.int p2), .val (.int p3), .val (.int p4), .val (.int (p0 &&& (2147483647 : Int32))), .val (.int (p1 &&& (2147483647 : Int32))), .val (.int vc), .val (.int ve), .val (.int f1), .val (.int f2), .val (.ref r), .val (.ref u), .val (.int (((p4.toUInt32 >>> ((4 : Int32) &&& 31).toUInt32).toInt32) &&& (3 : Int32))), .val .null, .val (.int (0 : Int32)), .unset] []))
                  refine go (fun _ => XS.iconst X57.here hx rfl (hb hby at_228)) ?_
                  show Run p e below _ (T57.setTop (mkF m 229 #[.val (.int p0), .val (.int p1), .val (.int p2), .val (.int p3), .val (.int p4), .val (.int (p0 &&& (2147483647 : Int32))), .val (.int (p1 &&& (2147483647 : Int32))), .val (.int vc), .val (.int ve), .val (.int f1), .val (.int f2), .val (.ref r), .val (.ref u), .val (.int (((p4.toUInt32 >>> ((4 : Int32) &&& 31).toUInt32).toInt32) &&& (3 : Int32))), .val .null, .val (.int (0 : Int32)), .unset] [(.int (1 : Int32))]))
                  refine go (fun _ => XS.goto X57.here hx rfl (pc0 := 229) (pc' := 233) rfl (hb hby at_229) (by decide) (by decide)) ?_
                  show Run p e below _ (T57.setTop (mkF m 233 #[.val (.int p0), .val (.int p1), .val (.int p2), .val (.int p3), .val (.int p4), .val (.int (p0 &&& (2147483647 : Int32))), .val (.int (p1 &&& (2147483647 : Int32))), .val (.int vc), .val (.int ve), .val (.int f1), .val (.int f2), .val (.ref r), .val (.ref u), .val (.int (((p4.toUInt32 >>> ((4 : Int32) &&& 31).toUInt32).toInt32) &&& (3 : Int32))), .val .null, .val (.int (0 : Int32)), .unset] [(.int (1 : Int32))]))
                  refine go (fun _ => XS.istore X57.here hx rfl (hb hby at_233) rfl (l' := #[.val (.int p0), .val (.int p1), .val (.int p2), .val (.int p3), .val (.int p4), .val (.int (p0 &&& (2147483647 : Int32))), .val (.int (p1 &&& (2147483647 : Int32))), .val (.int vc), .val (.int ve), .val (.int f1), .val (.int f2), .val (.ref r), .val (.ref u), .val (.int (((p4.toUInt32 >>> ((4 : Int32) &&& 31).toUInt32).toInt32) &&& (3 : Int32))), .val .null, .val (.int (0 : Int32)), .val (.int (1 : Int32))]) rfl) ?_
                  show Run p e below _ (T57.setTop (mkF m 235 #[.val (.int p0), .val (.int p1), .val (.int p2), .val (.int p3), .val (.int p4), .val (.int (p0 &&& (2147483647 : Int32))), .val (.int (p1 &&& (2147483647 : Int32))), .val (.int vc), .val (.int ve), .val (.int f1), .val (.int f2), .val (.ref r), .val (.ref u), .val (.int (((p4.toUInt32 >>> ((4 : Int32) &&& 31).toUInt32).toInt32) &&& (3 : Int32))), .val .null, .val (.int (0 : Int32)), .val (.int (1 : Int32))] []))
                  refine go (fun _ => XS.iload X57.here hx rfl (hb hby at_235) rfl) ?_
                  show Run p e below _ (T57.setTop (mkF m 237 #[.val (.int p0), .val (.int p1), .val (.int p2), .val (.int p3), .val (.int p4), .val (.int (p0 &&& (2147483647 : Int32))), .val (.int (p1 &&& (2147483647 : Int32))), .val (.int vc), .val (.int ve), .val (.int f1), .val (.int f2), .val (.ref r), .val (.ref u), .val (.int (((p4.toUInt32 >>> ((4 : Int32) &&& 31).toUInt32).toInt32) &&& (3 : Int32))), .val .null, .val (.int (0 : Int32)), .val (.int (1 : Int32))] [(.int (((p4.toUInt32 >>> ((4 : Int32) &&& 31).toUInt32).toInt32) &&& (3 : Int32)))]))
                  refine go (fun _ => XS.ifYes X57.here hx rfl (pc0 := 237) (pc' := 264) rfl (hb hby at_237) rfl ((if0 _ _).trans (feq c44).2) (by decide) (by decide)) ?_
                  show Run p e below _ (T57.setTop (mkF m 264 #[.val (.int p0), .val (.int p1), .val (.int p2), .val (.int p3), .val (.int p4), .val (.int (p0 &&& (2147483647 : Int32))), .val (.int (p1 &&& (2147483647 : Int32))), .val (.int vc), .val (.int ve), .val (.int f1), .val (.int f2), .val (.ref r), .val (.ref u), .val (.int (((p4.toUInt32 >>> ((4 : Int32) &&& 31).toUInt32).toInt32) &&& (3 : Int32))), .val .null, .val (.int (0 : Int32)), .val (.int (1 : Int32))] []))
                  refine go (fun _ => XS.iload X57.here hx rfl (hb hby at_264) rfl) ?_
                  show Run p e below _ (T57.setTop (mkF m 266 #[.val (.int p0), .val (.int p1), .val (.int p2), .val (.int p3), .val (.int p4), .val (.int (p0 &&& (2147483647 : Int32))), .val (.int (p1 &&& (2147483647 : Int32))), .val (.int vc), .val (.int ve), .val (.int f1), .val (.int f2), .val (.ref r), .val (.ref u), .val (.int (((p4.toUInt32 >>> ((4 : Int32) &&& 31).toUInt32).toInt32) &&& (3 : Int32))), .val .null, .val (.int (0 : Int32)), .val (.int (1 : Int32))] [(.int (1 : Int32))]))
                  exact endN X57 hx hlk (t := .boolean) hret (by simp) (hb hby at_266) (⟨rfl, N57⟩) (by decide) (by decide)
                · skip
                  refine go (fun _ => XS.icmpYes X43.here hx rfl (pc0 := 178) (pc' := 190) rfl (hb hby at_178) rfl (feq c56).2 (by decide) (by decide)) ?_
                  show Run p e below _ (T43.setTop (mkF m 190 #[.val (.int p0), .val (.int p1), .val (.int p2), .val (.int p3), .val (.int p4), .val (.int (p0 &&& (2147483647 : Int32))), .val (.int (p1 &&& (2147483647 : Int32))), .val (.int vc), .val (.int ve), .val (.int f1), .val (.int f2), .val (.ref r), .val (.ref u), .val (.int (((p4.toUInt32 >>> ((4 : Int32) &&& 31).toUInt32).toInt32) &&& (3 : Int32))), .unset, .unset, .unset] []))
                  refine go (fun _ => XS.iload X43.here hx rfl (hb hby at_190) rfl) ?_
                  show Run p e below _ (T43.setTop (mkF m 192 #[.val (.int p0), .val (.int p1), .val (.int p2), .val (.int p3), .val (.int p4), .val (.int (p0 &&& (2147483647 : Int32))), .val (.int (p1 &&& (2147483647 : Int32))), .val (.int vc), .val (.int ve), .val (.int f1), .val (.int f2), .val (.ref r), .val (.ref u), .val (.int (((p4.toUInt32 >>> ((4 : Int32) &&& 31).toUInt32).toInt32) &&& (3 : Int32))), .unset, .unset, .unset] [(.int (((p4.toUInt32 >>> ((4 : Int32) &&& 31).toUInt32).toInt32) &&& (3 : Int32)))]))
                  refine go (fun _ => XS.iconst X43.here hx rfl (hb hby at_192)) ?_
                  show Run p e below _ (T43.setTop (mkF m 193 #[.val (.int p0), .val (.int p1), .val (.int p2), .val (.int p3), .val (.int p4), .val (.int (p0 &&& (2147483647 : Int32))), .val (.int (p1 &&& (2147483647 : Int32))), .val (.int vc), .val (.int ve), .val (.int f1), .val (.int f2), .val (.ref r), .val (.ref u), .val (.int (((p4.toUInt32 >>> ((4 : Int32) &&& 31).toUInt32).toInt32) &&& (3 : Int32))), .unset, .unset, .unset] [(.int (2 : Int32)), (.int (((p4.toUInt32 >>> ((4 : Int32) &&& 31).toUInt32).toInt32) &&& (3 : Int32)))]))
                  by_cases c58 : (((p4.toUInt32 >>> ((4 : Int32) &&& 31).toUInt32).toInt32) &&& (3 : Int32)) = (2 : Int32)
                  · skip
                    refine go (fun _ => XS.icmpNo X43.here hx rfl (hb hby at_193) rfl (teq c58).2) ?_
                    show Run p e below _ (T43.setTop (mkF m 196 #[.val (.int p0), .val (.int p1), .val (.int p2), .val (.int p3), .val (.int p4), .val (.int (p0 &&& (2147483647 : Int32))), .val (.int (p1 &&& (2147483647 : Int32))), .val (.int vc), .val (.int ve), .val (.int f1), .val (.int f2), .val (.ref r), .val (.ref u), .val (.int (((p4.toUInt32 >>> ((4 : Int32) &&& 31).toUInt32).toInt32) &&& (3 : Int32))), .unset, .unset, .unset] []))
                    refine go (fun _ => XS.iload X43.here hx rfl (hb hby at_196) rfl) ?_
                    show Run p e below _ (T43.setTop (mkF m 198 #[.val (.int p0), .val (.int p1), .val (.int p2), .val (.int p3), .val (.int p4), .val (.int (p0 &&& (2147483647 : Int32))), .val (.int (p1 &&& (2147483647 : Int32))), .val (.int vc), .val (.int ve), .val (.int f1), .val (.int f2), .val (.ref r), .val (.ref u), .val (.int (((p4.toUInt32 >>> ((4 : Int32) &&& 31).toUInt32).toInt32) &&& (3 : Int32))), .unset, .unset, .unset] [(.int (p0 &&& (2147483647 : Int32)))]))
                    refine callSt X43 hx hZ hown (wd hw 31 rfl) (wd hw 32 rfl) (wd hw 33 rfl) (wd hw 34 rfl) (by decide) e43 (argsL := [(.int (p0 &&& (2147483647 : Int32)))]) (rest := []) (rm_vo l Z a0 hw [] (p0 &&& (2147483647 : Int32)) wc cl val h43 n0 O0 S_high S_cache Bx) (W := 0) (by decide) (by decide) (by decide) (by decide) (by rw [hml]; rfl) (lenOf pd_5 rfl) rfl (Nat.le_of_eq rfl) (hb hby at_198) ?_
                    intro v59 T59 L59 h59 X59 e59 q59
                    obtain ⟨b59, rfl, n59, K59, E_b59⟩ := q59
                    have O0 := O0.keep K59 all0
                    have E_r := E_r.keep K59
                    have F_up_r := F_up_r.keep K59 nin0
                    have F_down_r := F_down_r.keep K59 nin0
                    have F_flows_r := F_flows_r.keep K59 nin0
                    have E_u := E_u.keep K59
                    have F_up_u := F_up_u.keep K59 nin0
                    have F_down_u := F_down_u.keep K59 nin0
                    have F_flows_u := F_flows_u.keep K59 nin0
                    have N59 := Fr.app N43 n59
                    show Run p e below _ (T59.setTop (mkF m 201 #[.val (.int p0), .val (.int p1), .val (.int p2), .val (.int p3), .val (.int p4), .val (.int (p0 &&& (2147483647 : Int32))), .val (.int (p1 &&& (2147483647 : Int32))), .val (.int vc), .val (.int ve), .val (.int f1), .val (.int f2), .val (.ref r), .val (.ref u), .val (.int (((p4.toUInt32 >>> ((4 : Int32) &&& 31).toUInt32).toInt32) &&& (3 : Int32))), .unset, .unset, .unset] [(.ref b59)]))
                    refine go (fun _ => XS.astore X59.here hx rfl (hb hby at_201) rfl rfl (l' := #[.val (.int p0), .val (.int p1), .val (.int p2), .val (.int p3), .val (.int p4), .val (.int (p0 &&& (2147483647 : Int32))), .val (.int (p1 &&& (2147483647 : Int32))), .val (.int vc), .val (.int ve), .val (.int f1), .val (.int f2), .val (.ref r), .val (.ref u), .val (.int (((p4.toUInt32 >>> ((4 : Int32) &&& 31).toUInt32).toInt32) &&& (3 : Int32))), .val (.ref b59), .unset, .unset]) rfl) ?_
                    show Run p e below _ (T59.setTop (mkF m 203 #[.val (.int p0), .val (.int p1), .val (.int p2), .val (.int p3), .val (.int p4), .val (.int (p0 &&& (2147483647 : Int32))), .val (.int (p1 &&& (2147483647 : Int32))), .val (.int vc), .val (.int ve), .val (.int f1), .val (.int f2), .val (.ref r), .val (.ref u), .val (.int (((p4.toUInt32 >>> ((4 : Int32) &&& 31).toUInt32).toInt32) &&& (3 : Int32))), .val (.ref b59), .unset, .unset] []))
                    refine go (fun _ => XS.iconst X59.here hx rfl (hb hby at_203)) ?_
                    show Run p e below _ (T59.setTop (mkF m 204 #[.val (.int p0), .val (.int p1), .val (.int p2), .val (.int p3), .val (.int p4), .val (.int (p0 &&& (2147483647 : Int32))), .val (.int (p1 &&& (2147483647 : Int32))), .val (.int vc), .val (.int ve), .val (.int f1), .val (.int f2), .val (.ref r), .val (.ref u), .val (.int (((p4.toUInt32 >>> ((4 : Int32) &&& 31).toUInt32).toInt32) &&& (3 : Int32))), .val (.ref b59), .unset, .unset] [(.int (0 : Int32))]))
                    refine go (fun _ => XS.istore X59.here hx rfl (hb hby at_204) rfl (l' := #[.val (.int p0), .val (.int p1), .val (.int p2), .val (.int p3), .val (.int p4), .val (.int (p0 &&& (2147483647 : Int32))), .val (.int (p1 &&& (2147483647 : Int32))), .val (.int vc), .val (.int ve), .val (.int f1), .val (.int f2), .val (.ref r), .val (.ref u), .val (.int (((p4.toUInt32 >>> ((4 : Int32) &&& 31).toUInt32).toInt32) &&& (3 : Int32))), .val (.ref b59), .val (.int (0 : Int32)), .unset]) rfl) ?_
                    show Run p e below _ (T59.setTop (mkF m 206 #[.val (.int p0), .val (.int p1), .val (.int p2), .val (.int p3), .val (.int p4), .val (.int (p0 &&& (2147483647 : Int32))), .val (.int (p1 &&& (2147483647 : Int32))), .val (.int vc), .val (.int ve), .val (.int f1), .val (.int f2), .val (.ref r), .val (.ref u), .val (.int (((p4.toUInt32 >>> ((4 : Int32) &&& 31).toUInt32).toInt32) &&& (3 : Int32))), .val (.ref b59), .val (.int (0 : Int32)), .unset] []))
                    refine go (fun _ => XS.goto X59.here hx rfl (pc0 := 206) (pc' := 216) rfl (hb hby at_206) (by decide) (by decide)) ?_
                    show Run p e below _ (T59.setTop (mkF m 216 #[.val (.int p0), .val (.int p1), .val (.int p2), .val (.int p3), .val (.int p4), .val (.int (p0 &&& (2147483647 : Int32))), .val (.int (p1 &&& (2147483647 : Int32))), .val (.int vc), .val (.int ve), .val (.int f1), .val (.int f2), .val (.ref r), .val (.ref u), .val (.int (((p4.toUInt32 >>> ((4 : Int32) &&& 31).toUInt32).toInt32) &&& (3 : Int32))), .val (.ref b59), .val (.int (0 : Int32)), .unset] []))
                    refine go (fun _ => XS.aload X59.here hx rfl (hb hby at_216) rfl rfl) ?_
                    show Run p e below _ (T59.setTop (mkF m 218 #[.val (.int p0), .val (.int p1), .val (.int p2), .val (.int p3), .val (.int p4), .val (.int (p0 &&& (2147483647 : Int32))), .val (.int (p1 &&& (2147483647 : Int32))), .val (.int vc), .val (.int ve), .val (.int f1), .val (.int f2), .val (.ref r), .val (.ref u), .val (.int (((p4.toUInt32 >>> ((4 : Int32) &&& 31).toUInt32).toInt32) &&& (3 : Int32))), .val (.ref b59), .val (.int (0 : Int32)), .unset] [(.ref r)]))
                    refine go (fun _ => XS.aload X59.here hx rfl (hb hby at_218) rfl rfl) ?_
                    show Run p e below _ (T59.setTop (mkF m 220 #[.val (.int p0), .val (.int p1), .val (.int p2), .val (.int p3), .val (.int p4), .val (.int (p0 &&& (2147483647 : Int32))), .val (.int (p1 &&& (2147483647 : Int32))), .val (.int vc), .val (.int ve), .val (.int f1), .val (.int f2), .val (.ref r), .val (.ref u), .val (.int (((p4.toUInt32 >>> ((4 : Int32) &&& 31).toUInt32).toInt32) &&& (3 : Int32))), .val (.ref b59), .val (.int (0 : Int32)), .unset] [(.ref b59), (.ref r)]))
                    refine callVi X59 hx hZ hown (wd hw 19 rfl) (wd hw 20 rfl) (notFace_of_selects (args := #[]) (mvT hZ (wd hw 22 rfl))) (wd hw 22 rfl) (wd hw 21 rfl) (wd hw 23 rfl) (wd hw 3 rfl) (by decide) e59 E_r (argsL := [(.ref b59)]) (rest := []) (rm_eI l Z a0 hw [] r b59 h59 n0 O0 E_b59) (W := 0) (by decide) (by decide) (by decide) (by decide) (by rw [hml]; rfl) (lenOf pd_4 rfl) rfl (Nat.le_of_eq rfl) (hb hby at_220) ?_
                    intro v60 T60 L60 h60 X60 e60 q60
                    obtain ⟨rv, n60, k60⟩ := q60
                    replace rv : v60 = some (.int (0 : Int32)) := rv
                    subst rv
                    have e60 := e60.trans k60
                    have N60 := Fr.app N59 n60
                    show Run p e below _ (T60.setTop (mkF m 223 #[.val (.int p0), .val (.int p1), .val (.int p2), .val (.int p3), .val (.int p4), .val (.int (p0 &&& (2147483647 : Int32))), .val (.int (p1 &&& (2147483647 : Int32))), .val (.int vc), .val (.int ve), .val (.int f1), .val (.int f2), .val (.ref r), .val (.ref u), .val (.int (((p4.toUInt32 >>> ((4 : Int32) &&& 31).toUInt32).toInt32) &&& (3 : Int32))), .val (.ref b59), .val (.int (0 : Int32)), .unset] [(.int (0 : Int32))]))
                    refine go (fun _ => XS.iload X60.here hx rfl (hb hby at_223) rfl) ?_
                    show Run p e below _ (T60.setTop (mkF m 225 #[.val (.int p0), .val (.int p1), .val (.int p2), .val (.int p3), .val (.int p4), .val (.int (p0 &&& (2147483647 : Int32))), .val (.int (p1 &&& (2147483647 : Int32))), .val (.int vc), .val (.int ve), .val (.int f1), .val (.int f2), .val (.ref r), .val (.ref u), .val (.int (((p4.toUInt32 >>> ((4 : Int32) &&& 31).toUInt32).toInt32) &&& (3 : Int32))), .val (.ref b59), .val (.int (0 : Int32)), .unset] [(.int (0 : Int32)), (.int (0 : Int32))]))
                    refine go (fun _ => XS.icmpNo X60.here hx rfl (hb hby at_225) rfl (teq (by decide : (0 : Int32) = 0)).2) ?_
                    show Run p e below _ (T60.setTop (mkF m 228 #[.val (.int p0), .val (.int p1), .val (.int p2), .val (.int p3), .val (.int p4), .val (.int (p0 &&& (2147483647 : Int32))), .val (.int (p1 &&& (2147483647 : Int32))), .val (.int vc), .val (.int ve), .val (.int f1), .val (.int f2), .val (.ref r), .val (.ref u), .val (.int (((p4.toUInt32 >>> ((4 : Int32) &&& 31).toUInt32).toInt32) &&& (3 : Int32))), .val (.ref b59), .val (.int (0 : Int32)), .unset] []))
                    refine go (fun _ => XS.iconst X60.here hx rfl (hb hby at_228)) ?_
                    show Run p e below _ (T60.setTop (mkF m 229 #[.val (.int p0), .val (.int p1), .val (.int p2), .val (.int p3), .val (.int p4), .val (.int (p0 &&& (2147483647 : Int32))), .val (.int (p1 &&& (2147483647 : Int32))), .val (.int vc), .val (.int ve), .val (.int f1), .val (.int f2), .val (.ref r), .val (.ref u), .val (.int (((p4.toUInt32 >>> ((4 : Int32) &&& 31).toUInt32).toInt32) &&& (3 : Int32))), .val (.ref b59), .val (.int (0 : Int32)), .unset] [(.int (1 : Int32))]))
                    refine go (fun _ => XS.goto X60.here hx rfl (pc0 := 229) (pc' := 233) rfl (hb hby at_229) (by decide) (by decide)) ?_
                    show Run p e below _ (T60.setTop (mkF m 233 #[.val (.int p0), .val (.int p1), .val (.int p2), .val (.int p3), .val (.int p4), .val (.int (p0 &&& (2147483647 : Int32))), .val (.int (p1 &&& (2147483647 : Int32))), .val (.int vc), .val (.int ve), .val (.int f1), .val (.int f2), .val (.ref r), .val (.ref u), .val (.int (((p4.toUInt32 >>> ((4 : Int32) &&& 31).toUInt32).toInt32) &&& (3 : Int32))), .val (.ref b59), .val (.int (0 : Int32)), .unset] [(.int (1 : Int32))]))
                    refine go (fun _ => XS.istore X60.here hx rfl (hb hby at_233) rfl (l' := #[.val (.int p0), .val (.int p1), .val (.int p2), .val (.int p3), .val (.int p4), .val (.int (p0 &&& (2147483647 : Int32))), .val (.int (p1 &&& (2147483647 : Int32))), .val (.int vc), .val (.int ve), .val (.int f1), .val (.int f2), .val (.ref r), .val (.ref u), .val (.int (((p4.toUInt32 >>> ((4 : Int32) &&& 31).toUInt32).toInt32) &&& (3 : Int32))), .val (.ref b59), .val (.int (0 : Int32)), .val (.int (1 : Int32))]) rfl) ?_
                    show Run p e below _ (T60.setTop (mkF m 235 #[.val (.int p0), .val (.int p1), .val (.int p2), .val (.int p3), .val (.int p4), .val (.int (p0 &&& (2147483647 : Int32))), .val (.int (p1 &&& (2147483647 : Int32))), .val (.int vc), .val (.int ve), .val (.int f1), .val (.int f2), .val (.ref r), .val (.ref u), .val (.int (((p4.toUInt32 >>> ((4 : Int32) &&& 31).toUInt32).toInt32) &&& (3 : Int32))), .val (.ref b59), .val (.int (0 : Int32)), .val (.int (1 : Int32))] []))
                    refine go (fun _ => XS.iload X60.here hx rfl (hb hby at_235) rfl) ?_
                    show Run p e below _ (T60.setTop (mkF m 237 #[.val (.int p0), .val (.int p1), .val (.int p2), .val (.int p3), .val (.int p4), .val (.int (p0 &&& (2147483647 : Int32))), .val (.int (p1 &&& (2147483647 : Int32))), .val (.int vc), .val (.int ve), .val (.int f1), .val (.int f2), .val (.ref r), .val (.ref u), .val (.int (((p4.toUInt32 >>> ((4 : Int32) &&& 31).toUInt32).toInt32) &&& (3 : Int32))), .val (.ref b59), .val (.int (0 : Int32)), .val (.int (1 : Int32))] [(.int (((p4.toUInt32 >>> ((4 : Int32) &&& 31).toUInt32).toInt32) &&& (3 : Int32)))]))
                    refine go (fun _ => XS.ifYes X60.here hx rfl (pc0 := 237) (pc' := 264) rfl (hb hby at_237) rfl ((if0 _ _).trans (feq c44).2) (by decide) (by decide)) ?_
                    show Run p e below _ (T60.setTop (mkF m 264 #[.val (.int p0), .val (.int p1), .val (.int p2), .val (.int p3), .val (.int p4), .val (.int (p0 &&& (2147483647 : Int32))), .val (.int (p1 &&& (2147483647 : Int32))), .val (.int vc), .val (.int ve), .val (.int f1), .val (.int f2), .val (.ref r), .val (.ref u), .val (.int (((p4.toUInt32 >>> ((4 : Int32) &&& 31).toUInt32).toInt32) &&& (3 : Int32))), .val (.ref b59), .val (.int (0 : Int32)), .val (.int (1 : Int32))] []))
                    refine go (fun _ => XS.iload X60.here hx rfl (hb hby at_264) rfl) ?_
                    show Run p e below _ (T60.setTop (mkF m 266 #[.val (.int p0), .val (.int p1), .val (.int p2), .val (.int p3), .val (.int p4), .val (.int (p0 &&& (2147483647 : Int32))), .val (.int (p1 &&& (2147483647 : Int32))), .val (.int vc), .val (.int ve), .val (.int f1), .val (.int f2), .val (.ref r), .val (.ref u), .val (.int (((p4.toUInt32 >>> ((4 : Int32) &&& 31).toUInt32).toInt32) &&& (3 : Int32))), .val (.ref b59), .val (.int (0 : Int32)), .val (.int (1 : Int32))] [(.int (1 : Int32))]))
                    exact endN X60 hx hlk (t := .boolean) hret (by simp) (hb hby at_266) (⟨rfl, N60⟩) (by decide) (by decide)
                  · skip
                    refine go (fun _ => XS.icmpYes X43.here hx rfl (pc0 := 193) (pc' := 209) rfl (hb hby at_193) rfl (feq c58).2 (by decide) (by decide)) ?_
                    show Run p e below _ (T43.setTop (mkF m 209 #[.val (.int p0), .val (.int p1), .val (.int p2), .val (.int p3), .val (.int p4), .val (.int (p0 &&& (2147483647 : Int32))), .val (.int (p1 &&& (2147483647 : Int32))), .val (.int vc), .val (.int ve), .val (.int f1), .val (.int f2), .val (.ref r), .val (.ref u), .val (.int (((p4.toUInt32 >>> ((4 : Int32) &&& 31).toUInt32).toInt32) &&& (3 : Int32))), .unset, .unset, .unset] []))
                    refine go (fun _ => XS.aload X43.here hx rfl (hb hby at_209) rfl rfl) ?_
                    show Run p e below _ (T43.setTop (mkF m 211 #[.val (.int p0), .val (.int p1), .val (.int p2), .val (.int p3), .val (.int p4), .val (.int (p0 &&& (2147483647 : Int32))), .val (.int (p1 &&& (2147483647 : Int32))), .val (.int vc), .val (.int ve), .val (.int f1), .val (.int f2), .val (.ref r), .val (.ref u), .val (.int (((p4.toUInt32 >>> ((4 : Int32) &&& 31).toUInt32).toInt32) &&& (3 : Int32))), .unset, .unset, .unset] [(.ref r)]))
                    refine go (fun _ => XS.astore X43.here hx rfl (hb hby at_211) rfl rfl (l' := #[.val (.int p0), .val (.int p1), .val (.int p2), .val (.int p3), .val (.int p4), .val (.int (p0 &&& (2147483647 : Int32))), .val (.int (p1 &&& (2147483647 : Int32))), .val (.int vc), .val (.int ve), .val (.int f1), .val (.int f2), .val (.ref r), .val (.ref u), .val (.int (((p4.toUInt32 >>> ((4 : Int32) &&& 31).toUInt32).toInt32) &&& (3 : Int32))), .val (.ref r), .unset, .unset]) rfl) ?_
                    show Run p e below _ (T43.setTop (mkF m 213 #[.val (.int p0), .val (.int p1), .val (.int p2), .val (.int p3), .val (.int p4), .val (.int (p0 &&& (2147483647 : Int32))), .val (.int (p1 &&& (2147483647 : Int32))), .val (.int vc), .val (.int ve), .val (.int f1), .val (.int f2), .val (.ref r), .val (.ref u), .val (.int (((p4.toUInt32 >>> ((4 : Int32) &&& 31).toUInt32).toInt32) &&& (3 : Int32))), .val (.ref r), .unset, .unset] []))
                    refine go (fun _ => XS.iconst X43.here hx rfl (hb hby at_213)) ?_
                    show Run p e below _ (T43.setTop (mkF m 214 #[.val (.int p0), .val (.int p1), .val (.int p2), .val (.int p3), .val (.int p4), .val (.int (p0 &&& (2147483647 : Int32))), .val (.int (p1 &&& (2147483647 : Int32))), .val (.int vc), .val (.int ve), .val (.int f1), .val (.int f2), .val (.ref r), .val (.ref u), .val (.int (((p4.toUInt32 >>> ((4 : Int32) &&& 31).toUInt32).toInt32) &&& (3 : Int32))), .val (.ref r), .unset, .unset] [(.int (1 : Int32))]))
                    refine go (fun _ => XS.istore X43.here hx rfl (hb hby at_214) rfl (l' := #[.val (.int p0), .val (.int p1), .val (.int p2), .val (.int p3), .val (.int p4), .val (.int (p0 &&& (2147483647 : Int32))), .val (.int (p1 &&& (2147483647 : Int32))), .val (.int vc), .val (.int ve), .val (.int f1), .val (.int f2), .val (.ref r), .val (.ref u), .val (.int (((p4.toUInt32 >>> ((4 : Int32) &&& 31).toUInt32).toInt32) &&& (3 : Int32))), .val (.ref r), .val (.int (1 : Int32)), .unset]) rfl) ?_
                    show Run p e below _ (T43.setTop (mkF m 216 #[.val (.int p0), .val (.int p1), .val (.int p2), .val (.int p3), .val (.int p4), .val (.int (p0 &&& (2147483647 : Int32))), .val (.int (p1 &&& (2147483647 : Int32))), .val (.int vc), .val (.int ve), .val (.int f1), .val (.int f2), .val (.ref r), .val (.ref u), .val (.int (((p4.toUInt32 >>> ((4 : Int32) &&& 31).toUInt32).toInt32) &&& (3 : Int32))), .val (.ref r), .val (.int (1 : Int32)), .unset] []))
                    refine go (fun _ => XS.aload X43.here hx rfl (hb hby at_216) rfl rfl) ?_
                    show Run p e below _ (T43.setTop (mkF m 218 #[.val (.int p0), .val (.int p1), .val (.int p2), .val (.int p3), .val (.int p4), .val (.int (p0 &&& (2147483647 : Int32))), .val (.int (p1 &&& (2147483647 : Int32))), .val (.int vc), .val (.int ve), .val (.int f1), .val (.int f2), .val (.ref r), .val (.ref u), .val (.int (((p4.toUInt32 >>> ((4 : Int32) &&& 31).toUInt32).toInt32) &&& (3 : Int32))), .val (.ref r), .val (.int (1 : Int32)), .unset] [(.ref r)]))
                    refine go (fun _ => XS.aload X43.here hx rfl (hb hby at_218) rfl rfl) ?_
                    show Run p e below _ (T43.setTop (mkF m 220 #[.val (.int p0), .val (.int p1), .val (.int p2), .val (.int p3), .val (.int p4), .val (.int (p0 &&& (2147483647 : Int32))), .val (.int (p1 &&& (2147483647 : Int32))), .val (.int vc), .val (.int ve), .val (.int f1), .val (.int f2), .val (.ref r), .val (.ref u), .val (.int (((p4.toUInt32 >>> ((4 : Int32) &&& 31).toUInt32).toInt32) &&& (3 : Int32))), .val (.ref r), .val (.int (1 : Int32)), .unset] [(.ref r), (.ref r)]))
                    refine callVi X43 hx hZ hown (wd hw 19 rfl) (wd hw 20 rfl) (notFace_of_selects (args := #[]) (mvT hZ (wd hw 22 rfl))) (wd hw 22 rfl) (wd hw 21 rfl) (wd hw 23 rfl) (wd hw 3 rfl) (by decide) e43 E_r (argsL := [(.ref r)]) (rest := []) (rm_eR l Z a0 hw [] r r (p0 &&& (2147483647 : Int32)) (p1 &&& (2147483647 : Int32)) f1 (p0 &&& (2147483647 : Int32)) (p1 &&& (2147483647 : Int32)) f1 h43 n0 O0 E_r F_up_r F_down_r F_flows_r E_r F_up_r F_down_r F_flows_r) (W := 0) (by decide) (by decide) (by decide) (by decide) (by rw [hml]; rfl) (lenOf pd_4 rfl) rfl (Nat.le_of_eq rfl) (hb hby at_220) ?_
                    intro v61 T61 L61 h61 X61 e61 q61
                    obtain ⟨rv, n61, k61⟩ := q61
                    replace rv : v61 = some (.int (1 : Int32)) := by simpa using rv
                    subst rv
                    have e61 := e61.trans k61
                    have N61 := Fr.app N43 n61
                    show Run p e below _ (T61.setTop (mkF m 223 #[.val (.int p0), .val (.int p1), .val (.int p2), .val (.int p3), .val (.int p4), .val (.int (p0 &&& (2147483647 : Int32))), .val (.int (p1 &&& (2147483647 : Int32))), .val (.int vc), .val (.int ve), .val (.int f1), .val (.int f2), .val (.ref r), .val (.ref u), .val (.int (((p4.toUInt32 >>> ((4 : Int32) &&& 31).toUInt32).toInt32) &&& (3 : Int32))), .val (.ref r), .val (.int (1 : Int32)), .unset] [(.int (1 : Int32))]))
                    refine go (fun _ => XS.iload X61.here hx rfl (hb hby at_223) rfl) ?_
                    show Run p e below _ (T61.setTop (mkF m 225 #[.val (.int p0), .val (.int p1), .val (.int p2), .val (.int p3), .val (.int p4), .val (.int (p0 &&& (2147483647 : Int32))), .val (.int (p1 &&& (2147483647 : Int32))), .val (.int vc), .val (.int ve), .val (.int f1), .val (.int f2), .val (.ref r), .val (.ref u), .val (.int (((p4.toUInt32 >>> ((4 : Int32) &&& 31).toUInt32).toInt32) &&& (3 : Int32))), .val (.ref r), .val (.int (1 : Int32)), .unset] [(.int (1 : Int32)), (.int (1 : Int32))]))
                    refine go (fun _ => XS.icmpNo X61.here hx rfl (hb hby at_225) rfl (teq (by decide : (1 : Int32) = 1)).2) ?_
                    show Run p e below _ (T61.setTop (mkF m 228 #[.val (.int p0), .val (.int p1), .val (.int p2), .val (.int p3), .val (.int p4), .val (.int (p0 &&& (2147483647 : Int32))), .val (.int (p1 &&& (2147483647 : Int32))), .val (.int vc), .val (.int ve), .val (.int f1), .val (.int f2), .val (.ref r), .val (.ref u), .val (.int (((p4.toUInt32 >>> ((4 : Int32) &&& 31).toUInt32).toInt32) &&& (3 : Int32))), .val (.ref r), .val (.int (1 : Int32)), .unset] []))
                    refine go (fun _ => XS.iconst X61.here hx rfl (hb hby at_228)) ?_
                    show Run p e below _ (T61.setTop (mkF m 229 #[.val (.int p0), .val (.int p1), .val (.int p2), .val (.int p3), .val (.int p4), .val (.int (p0 &&& (2147483647 : Int32))), .val (.int (p1 &&& (2147483647 : Int32))), .val (.int vc), .val (.int ve), .val (.int f1), .val (.int f2), .val (.ref r), .val (.ref u), .val (.int (((p4.toUInt32 >>> ((4 : Int32) &&& 31).toUInt32).toInt32) &&& (3 : Int32))), .val (.ref r), .val (.int (1 : Int32)), .unset] [(.int (1 : Int32))]))
                    refine go (fun _ => XS.goto X61.here hx rfl (pc0 := 229) (pc' := 233) rfl (hb hby at_229) (by decide) (by decide)) ?_
                    show Run p e below _ (T61.setTop (mkF m 233 #[.val (.int p0), .val (.int p1), .val (.int p2), .val (.int p3), .val (.int p4), .val (.int (p0 &&& (2147483647 : Int32))), .val (.int (p1 &&& (2147483647 : Int32))), .val (.int vc), .val (.int ve), .val (.int f1), .val (.int f2), .val (.ref r), .val (.ref u), .val (.int (((p4.toUInt32 >>> ((4 : Int32) &&& 31).toUInt32).toInt32) &&& (3 : Int32))), .val (.ref r), .val (.int (1 : Int32)), .unset] [(.int (1 : Int32))]))
                    refine go (fun _ => XS.istore X61.here hx rfl (hb hby at_233) rfl (l' := #[.val (.int p0), .val (.int p1), .val (.int p2), .val (.int p3), .val (.int p4), .val (.int (p0 &&& (2147483647 : Int32))), .val (.int (p1 &&& (2147483647 : Int32))), .val (.int vc), .val (.int ve), .val (.int f1), .val (.int f2), .val (.ref r), .val (.ref u), .val (.int (((p4.toUInt32 >>> ((4 : Int32) &&& 31).toUInt32).toInt32) &&& (3 : Int32))), .val (.ref r), .val (.int (1 : Int32)), .val (.int (1 : Int32))]) rfl) ?_
                    show Run p e below _ (T61.setTop (mkF m 235 #[.val (.int p0), .val (.int p1), .val (.int p2), .val (.int p3), .val (.int p4), .val (.int (p0 &&& (2147483647 : Int32))), .val (.int (p1 &&& (2147483647 : Int32))), .val (.int vc), .val (.int ve), .val (.int f1), .val (.int f2), .val (.ref r), .val (.ref u), .val (.int (((p4.toUInt32 >>> ((4 : Int32) &&& 31).toUInt32).toInt32) &&& (3 : Int32))), .val (.ref r), .val (.int (1 : Int32)), .val (.int (1 : Int32))] []))
                    refine go (fun _ => XS.iload X61.here hx rfl (hb hby at_235) rfl) ?_
                    show Run p e below _ (T61.setTop (mkF m 237 #[.val (.int p0), .val (.int p1), .val (.int p2), .val (.int p3), .val (.int p4), .val (.int (p0 &&& (2147483647 : Int32))), .val (.int (p1 &&& (2147483647 : Int32))), .val (.int vc), .val (.int ve), .val (.int f1), .val (.int f2), .val (.ref r), .val (.ref u), .val (.int (((p4.toUInt32 >>> ((4 : Int32) &&& 31).toUInt32).toInt32) &&& (3 : Int32))), .val (.ref r), .val (.int (1 : Int32)), .val (.int (1 : Int32))] [(.int (((p4.toUInt32 >>> ((4 : Int32) &&& 31).toUInt32).toInt32) &&& (3 : Int32)))]))
                    refine go (fun _ => XS.ifYes X61.here hx rfl (pc0 := 237) (pc' := 264) rfl (hb hby at_237) rfl ((if0 _ _).trans (feq c44).2) (by decide) (by decide)) ?_
                    show Run p e below _ (T61.setTop (mkF m 264 #[.val (.int p0), .val (.int p1), .val (.int p2), .val (.int p3), .val (.int p4), .val (.int (p0 &&& (2147483647 : Int32))), .val (.int (p1 &&& (2147483647 : Int32))), .val (.int vc), .val (.int ve), .val (.int f1), .val (.int f2), .val (.ref r), .val (.ref u), .val (.int (((p4.toUInt32 >>> ((4 : Int32) &&& 31).toUInt32).toInt32) &&& (3 : Int32))), .val (.ref r), .val (.int (1 : Int32)), .val (.int (1 : Int32))] []))
                    refine go (fun _ => XS.iload X61.here hx rfl (hb hby at_264) rfl) ?_
                    show Run p e below _ (T61.setTop (mkF m 266 #[.val (.int p0), .val (.int p1), .val (.int p2), .val (.int p3), .val (.int p4), .val (.int (p0 &&& (2147483647 : Int32))), .val (.int (p1 &&& (2147483647 : Int32))), .val (.int vc), .val (.int ve), .val (.int f1), .val (.int f2), .val (.ref r), .val (.ref u), .val (.int (((p4.toUInt32 >>> ((4 : Int32) &&& 31).toUInt32).toInt32) &&& (3 : Int32))), .val (.ref r), .val (.int (1 : Int32)), .val (.int (1 : Int32))] [(.int (1 : Int32))]))
                    exact endN X61 hx hlk (t := .boolean) hret (by simp) (hb hby at_266) (⟨rfl, N61⟩) (by decide) (by decide)
            refine go (fun _ => XS.iload X42.here hx rfl (hb hby at_115) rfl) ?_
            show Run p e below _ (T42.setTop (mkF m 117 #[.val (.int p0), .val (.int p1), .val (.int p2), .val (.int p3), .val (.int p4), .val (.int (p0 &&& (2147483647 : Int32))), .val (.int (p1 &&& (2147483647 : Int32))), .val (.int vc), .val (.int ve), .val (.int f1), .val (.int f2), .val (.ref r), .val (.ref b41), .unset, .unset, .unset, .unset] [(.int f2)]))
            by_cases c62 : f2 = 0
            · skip
              refine go (fun _ => XS.ifYes X42.here hx rfl (pc0 := 117) (pc' := 127) rfl (hb hby at_117) rfl ((if0 _ _).trans (teq c62).1) (by decide) (by decide)) ?_
              show Run p e below _ (T42.setTop (mkF m 127 #[.val (.int p0), .val (.int p1), .val (.int p2), .val (.int p3), .val (.int p4), .val (.int (p0 &&& (2147483647 : Int32))), .val (.int (p1 &&& (2147483647 : Int32))), .val (.int vc), .val (.int ve), .val (.int f1), .val (.int f2), .val (.ref r), .val (.ref b41), .unset, .unset, .unset, .unset] []))
              have hfl : (0 : Int32) = f2 := by exact c62.symm
              rw [hfl] at F_flows_b41
              exact J127 _ _ _ (smono X42 (by decide) (by decide)) e42 N42 b41 O0 E_r F_up_r F_down_r F_flows_r E_b41 F_up_b41 F_down_b41 F_flows_b41
            · skip
              refine go (fun _ => XS.ifNo X42.here hx rfl (hb hby at_117) rfl ((if0 _ _).trans (feq c62).1)) ?_
              show Run p e below _ (T42.setTop (mkF m 120 #[.val (.int p0), .val (.int p1), .val (.int p2), .val (.int p3), .val (.int p4), .val (.int (p0 &&& (2147483647 : Int32))), .val (.int (p1 &&& (2147483647 : Int32))), .val (.int vc), .val (.int ve), .val (.int f1), .val (.int f2), .val (.ref r), .val (.ref b41), .unset, .unset, .unset, .unset] []))
              refine go (fun _ => XS.aload X42.here hx rfl (hb hby at_120) rfl rfl) ?_
              show Run p e below _ (T42.setTop (mkF m 122 #[.val (.int p0), .val (.int p1), .val (.int p2), .val (.int p3), .val (.int p4), .val (.int (p0 &&& (2147483647 : Int32))), .val (.int (p1 &&& (2147483647 : Int32))), .val (.int vc), .val (.int ve), .val (.int f1), .val (.int f2), .val (.ref r), .val (.ref b41), .unset, .unset, .unset, .unset] [(.ref b41)]))
              refine callVi X42 hx hZ hown (wd hw 26 rfl) (wd hw 27 rfl) (notFace_of_selects (args := #[]) (mvT hZ (wd hw 29 rfl))) (wd hw 29 rfl) (wd hw 28 rfl) (wd hw 30 rfl) (wd hw 3 rfl) (by decide) e42 E_b41 (argsL := []) (rest := []) (rm_with l Z a0 hw [] b41 vc ve h42 n0 O0 E_b41 F_up_b41 F_down_b41 hvc hve) (W := 0) (by decide) (by decide) (by decide) (by decide) (by rw [hml]; rfl) (lenOf pd_6 rfl) rfl (Nat.le_of_eq rfl) (hb hby at_122) ?_
              intro v63 T63 L63 h63 X63 e63 q63
              obtain ⟨b63, rfl, n63, K63, sb63, g_b63, E_b63, F_up_b63, F_down_b63, F_flows_b63⟩ := q63
              have ne_r_b63 : r ≠ b63 := Nat.ne_of_lt (Nat.lt_of_lt_of_le E_r.lt sb63)
              have ne_b41_b63 : b41 ≠ b63 := Nat.ne_of_lt (Nat.lt_of_lt_of_le E_b41.lt sb63)
              have O0 := O0.keep K63 all0
              have E_r := E_r.keep K63
              have F_up_r := F_up_r.keep K63 nin0
              have F_down_r := F_down_r.keep K63 nin0
              have F_flows_r := F_flows_r.keep K63 nin0
              have E_b41 := E_b41.keep K63
              have F_up_b41 := F_up_b41.keep K63 nin0
              have F_down_b41 := F_down_b41.keep K63 nin0
              have F_flows_b41 := F_flows_b41.keep K63 nin0
              have N63 := Fr.app N42 n63
              show Run p e below _ (T63.setTop (mkF m 125 #[.val (.int p0), .val (.int p1), .val (.int p2), .val (.int p3), .val (.int p4), .val (.int (p0 &&& (2147483647 : Int32))), .val (.int (p1 &&& (2147483647 : Int32))), .val (.int vc), .val (.int ve), .val (.int f1), .val (.int f2), .val (.ref r), .val (.ref b41), .unset, .unset, .unset, .unset] [(.ref b63)]))
              refine go (fun _ => XS.astore X63.here hx rfl (hb hby at_125) rfl rfl (l' := #[.val (.int p0), .val (.int p1), .val (.int p2), .val (.int p3), .val (.int p4), .val (.int (p0 &&& (2147483647 : Int32))), .val (.int (p1 &&& (2147483647 : Int32))), .val (.int vc), .val (.int ve), .val (.int f1), .val (.int f2), .val (.ref r), .val (.ref b63), .unset, .unset, .unset, .unset]) rfl) ?_
              show Run p e below _ (T63.setTop (mkF m 127 #[.val (.int p0), .val (.int p1), .val (.int p2), .val (.int p3), .val (.int p4), .val (.int (p0 &&& (2147483647 : Int32))), .val (.int (p1 &&& (2147483647 : Int32))), .val (.int vc), .val (.int ve), .val (.int f1), .val (.int f2), .val (.ref r), .val (.ref b63), .unset, .unset, .unset, .unset] []))
              have hfl : (1 : Int32) = f2 := by rcases hf2 with h | h; exact absurd h c62; exact h.symm
              rw [hfl] at F_flows_b63
              exact J127 _ _ _ (smono X63 (by decide) (by decide)) e63 N63 b63 O0 E_r F_up_r F_down_r F_flows_r E_b63 F_up_b63 F_down_b63 F_flows_b63
          refine go (fun _ => XS.iload X39.here hx rfl (hb hby at_90) rfl) ?_
          show Run p e below _ (T39.setTop (mkF m 92 #[.val (.int p0), .val (.int p1), .val (.int p2), .val (.int p3), .val (.int p4), .val (.int (p0 &&& (2147483647 : Int32))), .val (.int (p1 &&& (2147483647 : Int32))), .val (.int vc), .val (.int ve), .val (.int f1), .val (.int f2), .val (.ref b38), .unset, .unset, .unset, .unset, .unset] [(.int f1)]))
          by_cases c64 : f1 = 0
          · skip
            refine go (fun _ => XS.ifYes X39.here hx rfl (pc0 := 92) (pc' := 102) rfl (hb hby at_92) rfl ((if0 _ _).trans (teq c64).1) (by decide) (by decide)) ?_
            show Run p e below _ (T39.setTop (mkF m 102 #[.val (.int p0), .val (.int p1), .val (.int p2), .val (.int p3), .val (.int p4), .val (.int (p0 &&& (2147483647 : Int32))), .val (.int (p1 &&& (2147483647 : Int32))), .val (.int vc), .val (.int ve), .val (.int f1), .val (.int f2), .val (.ref b38), .unset, .unset, .unset, .unset, .unset] []))
            have hfl : (0 : Int32) = f1 := by exact c64.symm
            rw [hfl] at F_flows_b38
            exact J102 _ _ _ (smono X39 (by decide) (by decide)) e39 N39 b38 O0  E_b38 F_up_b38 F_down_b38 F_flows_b38
          · skip
            refine go (fun _ => XS.ifNo X39.here hx rfl (hb hby at_92) rfl ((if0 _ _).trans (feq c64).1)) ?_
            show Run p e below _ (T39.setTop (mkF m 95 #[.val (.int p0), .val (.int p1), .val (.int p2), .val (.int p3), .val (.int p4), .val (.int (p0 &&& (2147483647 : Int32))), .val (.int (p1 &&& (2147483647 : Int32))), .val (.int vc), .val (.int ve), .val (.int f1), .val (.int f2), .val (.ref b38), .unset, .unset, .unset, .unset, .unset] []))
            refine go (fun _ => XS.aload X39.here hx rfl (hb hby at_95) rfl rfl) ?_
            show Run p e below _ (T39.setTop (mkF m 97 #[.val (.int p0), .val (.int p1), .val (.int p2), .val (.int p3), .val (.int p4), .val (.int (p0 &&& (2147483647 : Int32))), .val (.int (p1 &&& (2147483647 : Int32))), .val (.int vc), .val (.int ve), .val (.int f1), .val (.int f2), .val (.ref b38), .unset, .unset, .unset, .unset, .unset] [(.ref b38)]))
            refine callVi X39 hx hZ hown (wd hw 26 rfl) (wd hw 27 rfl) (notFace_of_selects (args := #[]) (mvT hZ (wd hw 29 rfl))) (wd hw 29 rfl) (wd hw 28 rfl) (wd hw 30 rfl) (wd hw 3 rfl) (by decide) e39 E_b38 (argsL := []) (rest := []) (rm_with l Z a0 hw [] b38 (p0 &&& (2147483647 : Int32)) (p1 &&& (2147483647 : Int32)) h39 n0 O0 E_b38 F_up_b38 F_down_b38 (own_pos _) (own_pos _)) (W := 0) (by decide) (by decide) (by decide) (by decide) (by rw [hml]; rfl) (lenOf pd_6 rfl) rfl (Nat.le_of_eq rfl) (hb hby at_97) ?_
            intro v65 T65 L65 h65 X65 e65 q65
            obtain ⟨b65, rfl, n65, K65, sb65, g_b65, E_b65, F_up_b65, F_down_b65, F_flows_b65⟩ := q65
            have ne_b38_b65 : b38 ≠ b65 := Nat.ne_of_lt (Nat.lt_of_lt_of_le E_b38.lt sb65)
            have O0 := O0.keep K65 all0
            have E_b38 := E_b38.keep K65
            have F_up_b38 := F_up_b38.keep K65 nin0
            have F_down_b38 := F_down_b38.keep K65 nin0
            have F_flows_b38 := F_flows_b38.keep K65 nin0
            have N65 := Fr.app N39 n65
            show Run p e below _ (T65.setTop (mkF m 100 #[.val (.int p0), .val (.int p1), .val (.int p2), .val (.int p3), .val (.int p4), .val (.int (p0 &&& (2147483647 : Int32))), .val (.int (p1 &&& (2147483647 : Int32))), .val (.int vc), .val (.int ve), .val (.int f1), .val (.int f2), .val (.ref b38), .unset, .unset, .unset, .unset, .unset] [(.ref b65)]))
            refine go (fun _ => XS.astore X65.here hx rfl (hb hby at_100) rfl rfl (l' := #[.val (.int p0), .val (.int p1), .val (.int p2), .val (.int p3), .val (.int p4), .val (.int (p0 &&& (2147483647 : Int32))), .val (.int (p1 &&& (2147483647 : Int32))), .val (.int vc), .val (.int ve), .val (.int f1), .val (.int f2), .val (.ref b65), .unset, .unset, .unset, .unset, .unset]) rfl) ?_
            show Run p e below _ (T65.setTop (mkF m 102 #[.val (.int p0), .val (.int p1), .val (.int p2), .val (.int p3), .val (.int p4), .val (.int (p0 &&& (2147483647 : Int32))), .val (.int (p1 &&& (2147483647 : Int32))), .val (.int vc), .val (.int ve), .val (.int f1), .val (.int f2), .val (.ref b65), .unset, .unset, .unset, .unset, .unset] []))
            have hfl : (1 : Int32) = f1 := by rcases hf1 with h | h; exact absurd h c64; exact h.symm
            rw [hfl] at F_flows_b65
            exact J102 _ _ _ (smono X65 (by decide) (by decide)) e65 N65 b65 O0  E_b65 F_up_b65 F_down_b65 F_flows_b65
        by_cases c66 : (p4 &&& (2 : Int32)) = 0
        · skip
          refine go (fun _ => XS.ifYes X36.here hx rfl (pc0 := 67) (pc' := 74) rfl (hb hby at_67) rfl ((if0 _ _).trans (teq c66).1) (by decide) (by decide)) ?_
          show Run p e below _ (T36.setTop (mkF m 74 #[.val (.int p0), .val (.int p1), .val (.int p2), .val (.int p3), .val (.int p4), .val (.int (p0 &&& (2147483647 : Int32))), .val (.int (p1 &&& (2147483647 : Int32))), .val (.int vc), .val (.int ve), .val (.int f1), .unset, .unset, .unset, .unset, .unset, .unset, .unset] []))
          refine go (fun _ => XS.iconst X36.here hx rfl (hb hby at_74)) ?_
          show Run p e below _ (T36.setTop (mkF m 75 #[.val (.int p0), .val (.int p1), .val (.int p2), .val (.int p3), .val (.int p4), .val (.int (p0 &&& (2147483647 : Int32))), .val (.int (p1 &&& (2147483647 : Int32))), .val (.int vc), .val (.int ve), .val (.int f1), .unset, .unset, .unset, .unset, .unset, .unset, .unset] [(.int (0 : Int32))]))
          exact J75 _ _ X36 e36 N36 (0 : Int32)  (by decide)
        · skip
          refine go (fun _ => XS.ifNo X36.here hx rfl (hb hby at_67) rfl ((if0 _ _).trans (feq c66).1)) ?_
          show Run p e below _ (T36.setTop (mkF m 70 #[.val (.int p0), .val (.int p1), .val (.int p2), .val (.int p3), .val (.int p4), .val (.int (p0 &&& (2147483647 : Int32))), .val (.int (p1 &&& (2147483647 : Int32))), .val (.int vc), .val (.int ve), .val (.int f1), .unset, .unset, .unset, .unset, .unset, .unset, .unset] []))
          refine go (fun _ => XS.iconst X36.here hx rfl (hb hby at_70)) ?_
          show Run p e below _ (T36.setTop (mkF m 71 #[.val (.int p0), .val (.int p1), .val (.int p2), .val (.int p3), .val (.int p4), .val (.int (p0 &&& (2147483647 : Int32))), .val (.int (p1 &&& (2147483647 : Int32))), .val (.int vc), .val (.int ve), .val (.int f1), .unset, .unset, .unset, .unset, .unset, .unset, .unset] [(.int (1 : Int32))]))
          refine go (fun _ => XS.goto X36.here hx rfl (pc0 := 71) (pc' := 75) rfl (hb hby at_71) (by decide) (by decide)) ?_
          show Run p e below _ (T36.setTop (mkF m 75 #[.val (.int p0), .val (.int p1), .val (.int p2), .val (.int p3), .val (.int p4), .val (.int (p0 &&& (2147483647 : Int32))), .val (.int (p1 &&& (2147483647 : Int32))), .val (.int vc), .val (.int ve), .val (.int f1), .unset, .unset, .unset, .unset, .unset, .unset, .unset] [(.int (1 : Int32))]))
          exact J75 _ _ X36 e36 N36 (1 : Int32)  (by decide)
      by_cases c67 : (p4 &&& (1 : Int32)) = 0
      · skip
        refine go (fun _ => XS.ifYes X35.here hx rfl (pc0 := 53) (pc' := 60) rfl (hb hby at_53) rfl ((if0 _ _).trans (teq c67).1) (by decide) (by decide)) ?_
        show Run p e below _ (T35.setTop (mkF m 60 #[.val (.int p0), .val (.int p1), .val (.int p2), .val (.int p3), .val (.int p4), .val (.int (p0 &&& (2147483647 : Int32))), .val (.int (p1 &&& (2147483647 : Int32))), .val (.int vc), .val (.int ve), .unset, .unset, .unset, .unset, .unset, .unset, .unset, .unset] []))
        refine go (fun _ => XS.iconst X35.here hx rfl (hb hby at_60)) ?_
        show Run p e below _ (T35.setTop (mkF m 61 #[.val (.int p0), .val (.int p1), .val (.int p2), .val (.int p3), .val (.int p4), .val (.int (p0 &&& (2147483647 : Int32))), .val (.int (p1 &&& (2147483647 : Int32))), .val (.int vc), .val (.int ve), .unset, .unset, .unset, .unset, .unset, .unset, .unset, .unset] [(.int (0 : Int32))]))
        exact J61 _ _ X35 e35 N35 (0 : Int32)  (by decide)
      · skip
        refine go (fun _ => XS.ifNo X35.here hx rfl (hb hby at_53) rfl ((if0 _ _).trans (feq c67).1)) ?_
        show Run p e below _ (T35.setTop (mkF m 56 #[.val (.int p0), .val (.int p1), .val (.int p2), .val (.int p3), .val (.int p4), .val (.int (p0 &&& (2147483647 : Int32))), .val (.int (p1 &&& (2147483647 : Int32))), .val (.int vc), .val (.int ve), .unset, .unset, .unset, .unset, .unset, .unset, .unset, .unset] []))
        refine go (fun _ => XS.iconst X35.here hx rfl (hb hby at_56)) ?_
        show Run p e below _ (T35.setTop (mkF m 57 #[.val (.int p0), .val (.int p1), .val (.int p2), .val (.int p3), .val (.int p4), .val (.int (p0 &&& (2147483647 : Int32))), .val (.int (p1 &&& (2147483647 : Int32))), .val (.int vc), .val (.int ve), .unset, .unset, .unset, .unset, .unset, .unset, .unset, .unset] [(.int (1 : Int32))]))
        refine go (fun _ => XS.goto X35.here hx rfl (pc0 := 57) (pc' := 61) rfl (hb hby at_57) (by decide) (by decide)) ?_
        show Run p e below _ (T35.setTop (mkF m 61 #[.val (.int p0), .val (.int p1), .val (.int p2), .val (.int p3), .val (.int p4), .val (.int (p0 &&& (2147483647 : Int32))), .val (.int (p1 &&& (2147483647 : Int32))), .val (.int vc), .val (.int ve), .unset, .unset, .unset, .unset, .unset, .unset, .unset, .unset] [(.int (1 : Int32))]))
        exact J61 _ _ X35 e35 N35 (1 : Int32)  (by decide)
    by_cases c68 : (p4 &&& (8 : Int32)) = 0
    · skip
      refine go (fun _ => XS.ifYes X34.here hx rfl (pc0 := 35) (pc' := 43) rfl (hb hby at_35) rfl ((if0 _ _).trans (teq c68).1) (by decide) (by decide)) ?_
      show Run p e below _ (T34.setTop (mkF m 43 #[.val (.int p0), .val (.int p1), .val (.int p2), .val (.int p3), .val (.int p4), .val (.int (p0 &&& (2147483647 : Int32))), .val (.int (p1 &&& (2147483647 : Int32))), .val (.int vc), .unset, .unset, .unset, .unset, .unset, .unset, .unset, .unset, .unset] []))
      refine go (fun _ => XS.iloadN X34.here hx rfl (hb hby at_43) rfl) ?_
      show Run p e below _ (T34.setTop (mkF m 44 #[.val (.int p0), .val (.int p1), .val (.int p2), .val (.int p3), .val (.int p4), .val (.int (p0 &&& (2147483647 : Int32))), .val (.int (p1 &&& (2147483647 : Int32))), .val (.int vc), .unset, .unset, .unset, .unset, .unset, .unset, .unset, .unset, .unset] [(.int p3)]))
      refine go (fun _ => X34.ldcI hx hown (mvT hZ (wd hw 0 rfl)) rfl (hb hby at_44)) ?_
      show Run p e below _ (T34.setTop (mkF m 46 #[.val (.int p0), .val (.int p1), .val (.int p2), .val (.int p3), .val (.int p4), .val (.int (p0 &&& (2147483647 : Int32))), .val (.int (p1 &&& (2147483647 : Int32))), .val (.int vc), .unset, .unset, .unset, .unset, .unset, .unset, .unset, .unset, .unset] [(.int (2147483647 : Int32)), (.int p3)]))
      refine go (fun _ => XS.iand X34.here hx rfl (hb hby at_46) rfl) ?_
      show Run p e below _ (T34.setTop (mkF m 47 #[.val (.int p0), .val (.int p1), .val (.int p2), .val (.int p3), .val (.int p4), .val (.int (p0 &&& (2147483647 : Int32))), .val (.int (p1 &&& (2147483647 : Int32))), .val (.int vc), .unset, .unset, .unset, .unset, .unset, .unset, .unset, .unset, .unset] [(.int (p3 &&& (2147483647 : Int32)))]))
      exact J47 _ _ X34 e34 N34 (p3 &&& (2147483647 : Int32))  (own_pos _)
    · skip
      refine go (fun _ => XS.ifNo X34.here hx rfl (hb hby at_35) rfl ((if0 _ _).trans (feq c68).1)) ?_
      show Run p e below _ (T34.setTop (mkF m 38 #[.val (.int p0), .val (.int p1), .val (.int p2), .val (.int p3), .val (.int p4), .val (.int (p0 &&& (2147483647 : Int32))), .val (.int (p1 &&& (2147483647 : Int32))), .val (.int vc), .unset, .unset, .unset, .unset, .unset, .unset, .unset, .unset, .unset] []))
      refine go (fun _ => XS.iload X34.here hx rfl (hb hby at_38) rfl) ?_
      show Run p e below _ (T34.setTop (mkF m 40 #[.val (.int p0), .val (.int p1), .val (.int p2), .val (.int p3), .val (.int p4), .val (.int (p0 &&& (2147483647 : Int32))), .val (.int (p1 &&& (2147483647 : Int32))), .val (.int vc), .unset, .unset, .unset, .unset, .unset, .unset, .unset, .unset, .unset] [(.int (p1 &&& (2147483647 : Int32)))]))
      refine go (fun _ => XS.goto X34.here hx rfl (pc0 := 40) (pc' := 47) rfl (hb hby at_40) (by decide) (by decide)) ?_
      show Run p e below _ (T34.setTop (mkF m 47 #[.val (.int p0), .val (.int p1), .val (.int p2), .val (.int p3), .val (.int p4), .val (.int (p0 &&& (2147483647 : Int32))), .val (.int (p1 &&& (2147483647 : Int32))), .val (.int vc), .unset, .unset, .unset, .unset, .unset, .unset, .unset, .unset, .unset] [(.int (p1 &&& (2147483647 : Int32)))]))
      exact J47 _ _ X34 e34 N34 (p1 &&& (2147483647 : Int32))  (own_pos _)
  by_cases c69 : (p4 &&& (4 : Int32)) = 0
  · skip
    refine go (fun _ => XS.ifYes X0.here hx rfl (pc0 := 16) (pc' := 24) rfl (hb hby at_16) rfl ((if0 _ _).trans (teq c69).1) (by decide) (by decide)) ?_
    show Run p e below _ (T0.setTop (mkF m 24 #[.val (.int p0), .val (.int p1), .val (.int p2), .val (.int p3), .val (.int p4), .val (.int (p0 &&& (2147483647 : Int32))), .val (.int (p1 &&& (2147483647 : Int32))), .unset, .unset, .unset, .unset, .unset, .unset, .unset, .unset, .unset, .unset] []))
    refine go (fun _ => XS.iloadN X0.here hx rfl (hb hby at_24) rfl) ?_
    show Run p e below _ (T0.setTop (mkF m 25 #[.val (.int p0), .val (.int p1), .val (.int p2), .val (.int p3), .val (.int p4), .val (.int (p0 &&& (2147483647 : Int32))), .val (.int (p1 &&& (2147483647 : Int32))), .unset, .unset, .unset, .unset, .unset, .unset, .unset, .unset, .unset, .unset] [(.int p2)]))
    refine go (fun _ => X0.ldcI hx hown (mvT hZ (wd hw 0 rfl)) rfl (hb hby at_25)) ?_
    show Run p e below _ (T0.setTop (mkF m 27 #[.val (.int p0), .val (.int p1), .val (.int p2), .val (.int p3), .val (.int p4), .val (.int (p0 &&& (2147483647 : Int32))), .val (.int (p1 &&& (2147483647 : Int32))), .unset, .unset, .unset, .unset, .unset, .unset, .unset, .unset, .unset, .unset] [(.int (2147483647 : Int32)), (.int p2)]))
    refine go (fun _ => XS.iand X0.here hx rfl (hb hby at_27) rfl) ?_
    show Run p e below _ (T0.setTop (mkF m 28 #[.val (.int p0), .val (.int p1), .val (.int p2), .val (.int p3), .val (.int p4), .val (.int (p0 &&& (2147483647 : Int32))), .val (.int (p1 &&& (2147483647 : Int32))), .unset, .unset, .unset, .unset, .unset, .unset, .unset, .unset, .unset, .unset] [(.int (p2 &&& (2147483647 : Int32)))]))
    exact J28 _ _ X0 e0 N0 (p2 &&& (2147483647 : Int32))  (own_pos _)
  · skip
    refine go (fun _ => XS.ifNo X0.here hx rfl (hb hby at_16) rfl ((if0 _ _).trans (feq c69).1)) ?_
    show Run p e below _ (T0.setTop (mkF m 19 #[.val (.int p0), .val (.int p1), .val (.int p2), .val (.int p3), .val (.int p4), .val (.int (p0 &&& (2147483647 : Int32))), .val (.int (p1 &&& (2147483647 : Int32))), .unset, .unset, .unset, .unset, .unset, .unset, .unset, .unset, .unset, .unset] []))
    refine go (fun _ => XS.iload X0.here hx rfl (hb hby at_19) rfl) ?_
    show Run p e below _ (T0.setTop (mkF m 21 #[.val (.int p0), .val (.int p1), .val (.int p2), .val (.int p3), .val (.int p4), .val (.int (p0 &&& (2147483647 : Int32))), .val (.int (p1 &&& (2147483647 : Int32))), .unset, .unset, .unset, .unset, .unset, .unset, .unset, .unset, .unset, .unset] [(.int (p0 &&& (2147483647 : Int32)))]))
    refine go (fun _ => XS.goto X0.here hx rfl (pc0 := 21) (pc' := 28) rfl (hb hby at_21) (by decide) (by decide)) ?_
    show Run p e below _ (T0.setTop (mkF m 28 #[.val (.int p0), .val (.int p1), .val (.int p2), .val (.int p3), .val (.int p4), .val (.int (p0 &&& (2147483647 : Int32))), .val (.int (p1 &&& (2147483647 : Int32))), .unset, .unset, .unset, .unset, .unset, .unset, .unset, .unset, .unset, .unset] [(.int (p0 &&& (2147483647 : Int32)))]))
    exact J28 _ _ X0 e0 N0 (p0 &&& (2147483647 : Int32))  (own_pos _)
set_option maxRecDepth 65536 in
set_option maxHeartbeats 40000000 in
theorem comes_1 {Post : Tables → Env → Array Value → State → Outcome → State → Prop} (hpost : ∀ tb e args s v u, (limb_1_1.after args s (.returned v) u = true ∧ limb_1_2.after args s (.returned v) u = true ∧ True) → FrameEnd s (.returned v) u (Jvm.fieldLocs frame_1_writes args s ++ Jvm.arrayLocs frame_1_arrays args s ++ Jvm.staticLocs frame_1_statics s) 24 128 → Post tb e args s (.returned v) u) :
    ArmFor flags0 classFile x code maxLocals ret World_1 tables_1 room_1 Calls_1 rest_1 Pre_1 Post := by
  intro l hfl _ _ p e ha hc hk s m args below hf hA hF happ hP
  obtain ⟨hcalls, hrest, hpre⟩ := hP
  obtain ⟨-, -, -, hnamed, -, -, -, hat⟩ := (Spec.applies_iff hf).mp happ
  obtain ⟨hg, hn⟩ := and_e (Cond.before_iff.mp (show (Jvm.Cond.and given_1 narrow_1).before args s = true from hpre))
  obtain ⟨h1, hg⟩ := and_e hg
  obtain ⟨g0, hg⟩ := and_e hg
  obtain ⟨g1, hg⟩ := and_e hg
  obtain ⟨g2, hg⟩ := and_e hg
  obtain ⟨g3, hg⟩ := and_e hg
  have g4 := hg
  obtain ⟨w0, w1, w2, w3, w4, rfl⟩ : ∃ w0 w1 w2 w3 w4 : Value, args = #[w0, w1, w2, w3, w4] := by
    have hs : args.size = 5 := by simpa [Cond.value, given_1] using h1
    obtain ⟨L⟩ := args
    match L, hs with
    | [w0, w1, w2, w3, w4], _ => exact ⟨w0, w1, w2, w3, w4, rfl⟩
  have hw := fun d (hd : d ∈ tables_1) => atoms_spec (ws := Jvm.Cond.code x code maxLocals ret :: tables_1) hat d (List.mem_cons_of_mem _ hd)
  obtain ⟨hsets, hown0⟩ := atoms_of _ (rest_1_c_eq ▸ (show rest_1_c.before _ s = true from hrest))
  have hr0 := Cond.before_iff.mp hown0
  have hfit : Fit s := fun {y c} hc i hi => by
    obtain ⟨ha, rfl⟩ := Array.getElem?_eq_some_iff.mp hc
    have q := List.all_eq_true.mp ((Array.all_eq_true_iff_forall_mem.mp hF) _ (Array.getElem_mem ha)) i (List.mem_range.mpr hi)
    simpa [Array.getElem?_eq_getElem hi] using q
  obtain ⟨i0, ev0⟩ := is_v g0
  obtain rfl : w0 = (.int i0) := Option.some.inj ev0
  obtain ⟨i1, ev1⟩ := is_v g1
  obtain rfl : w1 = (.int i1) := Option.some.inj ev1
  obtain ⟨i2, ev2⟩ := is_v g2
  obtain rfl : w2 = (.int i2) := Option.some.inj ev2
  obtain ⟨i3, ev3⟩ := is_v g3
  obtain rfl : w3 = (.int i3) := Option.some.inj ev3
  obtain ⟨i4, ev4⟩ := is_v g4
  obtain rfl : w4 = (.int i4) := Option.some.inj ev4
  have eh := eqv_i (Term.int_eval (127)) (Cond.before_iff.mp (hsets _ (List.mem_of_getElem? (i := 3) rfl)))
  have S_high := Sta.start eh (Or.inl (hsets _ (List.mem_of_getElem? (i := 1) rfl)))
  obtain ⟨wc, ec⟩ := arr_v (Cond.before_iff.mp (hsets _ (List.mem_of_getElem? (i := 4) rfl)))
  have S_cache := Sta.start ec (Or.inr ⟨(wd hw 36 rfl), (hsets _ (List.mem_of_getElem? (i := 2) rfl))⟩)
  obtain ⟨cl, Ac⟩ := Arr.start ec (Cond.before_iff.mp (hsets _ (List.mem_of_getElem? (i := 4) rfl)))
  have el := eqv_i (Term.int_eval (256)) (Cond.before_iff.mp (hsets _ (List.mem_of_getElem? (i := 6) rfl)))
  obtain ⟨lq, le⟩ := own_len ec Ac el
  have Bx : Bxs s wc cl "java/lang/Integer" "I" (256 : Int32) (fun j => .int (j - 128)) := Bxs.start (fun _ => ec) Ac lq le (by decide) (Cond.before_iff.mp (hsets _ (List.mem_of_getElem? (i := 7) rfl))) (fun X j nn hq => eqv_i (own_sub (idx_at nn) (Term.int_eval (128))) hq)
  obtain ⟨n, o, h1, h2, h3, _, L, rfl, ⟨rfl, N⟩, hq⟩ := rmlaw l s _ hw tables_1 i0 i1 i2 i3 i4 wc cl _ s.heap s.heap.size (Old.start s) S_high S_cache Bx p e ha hc hk s m _ below hf ((Spec.applies_iff_loose hf).mp happ).1 ⟨rfl, State.Warmed39.refl s, rfl⟩ trivial
  refine ⟨n, _, h1, h2, h3, hpost _ _ _ _ _ _ ⟨Cond.after_iff.mpr rfl, Cond.after_iff.mpr (eq_i res_at (Term.int_eval (1)) rfl), trivial⟩ ⟨hq.1, hq.2.1, (hq.2.2.sift fun y hy => Or.inr (N y hy)).mono (by decide) (by decide)⟩⟩
theorem main_1_1 : Claimed_1_1 := comes_1 fun _ _ _ _ _ _ h hF => ⟨h.1, hF⟩
theorem main_1_2 : Claimed_1_2 := comes_1 fun _ _ _ _ _ _ h hF => ⟨h.2.1, hF⟩
end Jvm.Pilot.@@N@@
namespace Jvm.Pilot.@@N@@
open Jvm Jvm.ClassFile Sem Op Lib Jvm.Free Jvm.Stand Jvm.Pilot.@@N@@.Jvm.D
/-! MADE BY PROGRAM (witnessworld.py) out of the Statement's table words and the real class files: 16 classes; the members and pool entries that the words name. The judged class is class 1, her method 1. -/
namespace start1
open Jvm.ClassFile
def u (s : String) : CpInfo := .utf8 (stringToUtf16 s)
/-- a pool by its gaps: so many unusable entries, then the entry; so many at the end -/
def gap : Nat → List CpInfo → List CpInfo
  | 0, r => r
  | n + 1, r => .unusable :: gap n r
def poolList (es : List (Nat × CpInfo)) (last : Nat) : List CpInfo := es.foldr (fun e r => gap e.1 (e.2 :: r)) (gap last [])
def pool (es : List (Nat × CpInfo)) (last : Nat) : Array CpInfo := ⟨poolList es last⟩
def fileOf (pool : Array CpInfo) (this : Nat) (attrs : Array Attribute := #[]) (ms : Array MethodInfo := #[]) (fl : Nat := 33) (sup : Nat := 0) (ifs : Array Nat := #[]) (fds : Array FieldInfo := #[]) : ClassFile where
  minorVersion := 0
  majorVersion := 65
  constantPool := pool
  accessFlags := fl
  thisClass := this
  superClass := sup
  interfaces := ifs
  fields := fds
  methods := ms
  attributes := attrs
def plain (name : String) (sup : Option ClassId) : Class where
  name := name
  kind := .ordinary
  loader := none
  accessFlags := 33
  super := sup
  interfaces := #[]
  cf := none
  fields := #[]
  methods := #[]
  instanceTypes := #[]
  staticTypes := #[]
  resolved := #[]
  callSites := []
  init := .initialized
  statics := none
  mirror := none

def pool0 : Array CpInfo := pool [(5, u "<init>"), (0, u "()V"), (1, .class_ 10), (1, u "java/lang/Object")] 113

def k0c0 : Code := { maxStack := 0, maxLocals := 1, code := object_method_1_code, exceptionTable := #[], attributes := #[] }
def k0m0 : Method := { name := "<init>", desc := "()V", sig := { parameters := [], returnType := none }, accessFlags := 1, code := some k0c0 }
/-- java/lang/Object -/
def k0 : Class := { plain "java/lang/Object" none with
  accessFlags := 33
  interfaces := #[]
  cf := some (fileOf pool0 8 #[] #[{ accessFlags := 1, nameIndex := 5, descriptorIndex := 6, attributes := #[] }] 33 0 #[] #[])
  fields := #[]
  methods := #[k0m0]
  instanceTypes := #[]
  staticTypes := #[]
  resolved := Array.replicate 124 none
  statics := none }

def pool1 : Array CpInfo := pool [(2, .class_ 4), (1, u "java/lang/Object"), (0, u "<init>"), (0, u "()V"), (0, .integer 2147483647), (0, .class_ 9), (0, u "com/example/lateral_guard/lateralguard/core/Radius"), (0, .methodref 8 11), (0, .nameAndType 5 12), (0, u "(II)V"), (0, .methodref 8 14), (0, .nameAndType 15 16), (0, u "withFlows"), (0, u "()Lcom/example/lateral_guard/lateralguard/core/Radius;"), (0, .methodref 18 19), (0, .class_ 20), (0, .nameAndType 21 22), (0, u "java/lang/Integer"), (0, u "valueOf"), (0, u "(I)Ljava/lang/Integer;"), (0, .methodref 8 24), (0, .nameAndType 25 26), (0, u "equals"), (0, u "(Ljava/lang/Object;)Z"), (0, .class_ 28), (0, u "com/example/lateral_guard/lateralguard/core/RadiusEqualsPinLaw"), (2, u "law"), (0, u "(IIIII)Z")] 3

def k1m0 : Method := { name := "<init>", desc := "()V", sig := { parameters := [], returnType := none }, accessFlags := 2, code := none }
def k1c1 : Code := { maxStack := 4, maxLocals := 17, code := code, exceptionTable := #[], attributes := #[] }
def k1m1 : Method := { name := "law", desc := "(IIIII)Z", sig := { parameters := [.int, .int, .int, .int, .int], returnType := some .boolean }, accessFlags := 9, code := some k1c1 }
/-- com/example/lateral_guard/lateralguard/core/RadiusEqualsPinLaw -/
def k1 : Class := { plain "com/example/lateral_guard/lateralguard/core/RadiusEqualsPinLaw" (some 0) with
  accessFlags := 49
  interfaces := #[]
  cf := some (fileOf pool1 27 #[] #[{ accessFlags := 2, nameIndex := 5, descriptorIndex := 6, attributes := #[] }, { accessFlags := 9, nameIndex := 31, descriptorIndex := 32, attributes := #[] }] 49 2 #[] #[])
  fields := #[]
  methods := #[k1m0, k1m1]
  instanceTypes := #[]
  staticTypes := #[]
  resolved := Array.replicate 36 none
  statics := none }

def pool2 : Array CpInfo := pool [(3, .methodref 4 5), (0, .class_ 6), (0, .nameAndType 7 8), (0, u "com/example/lateral_guard/lateralguard/core/Radius"), (0, u "<init>"), (0, u "(IIZ)V"), (0, .methodref 10 11), (0, .class_ 12), (0, .nameAndType 7 13), (0, u "java/lang/Object"), (0, u "()V"), (9, .fieldref 4 24), (0, .nameAndType 25 26), (0, u "up"), (0, u "I"), (0, .fieldref 4 28), (0, .nameAndType 29 26), (0, u "down"), (0, .fieldref 4 31), (0, .nameAndType 32 33), (0, u "flows"), (0, u "Z"), (44, u "UNLIMITED"), (1, u "(II)V"), (3, u "withFlows"), (0, u "()Lcom/example/lateral_guard/lateralguard/core/Radius;"), (4, u "equals"), (0, u "(Ljava/lang/Object;)Z")] 24

def k2c0 : Code := { maxStack := 4, maxLocals := 3, code := prog_45_method_1_code, exceptionTable := #[], attributes := #[] }
def k2m0 : Method := { name := "<init>", desc := "(II)V", sig := { parameters := [.int, .int], returnType := none }, accessFlags := 1, code := some k2c0 }
def k2c1 : Code := { maxStack := 4, maxLocals := 4, code := prog_45_method_2_code, exceptionTable := #[], attributes := #[] }
def k2m1 : Method := { name := "<init>", desc := "(IIZ)V", sig := { parameters := [.int, .int, .boolean], returnType := none }, accessFlags := 2, code := some k2c1 }
def k2c2 : Code := { maxStack := 5, maxLocals := 1, code := prog_45_method_3_code, exceptionTable := #[], attributes := #[] }
def k2m2 : Method := { name := "withFlows", desc := "()Lcom/example/lateral_guard/lateralguard/core/Radius;", sig := { parameters := [], returnType := some (.object "com/example/lateral_guard/lateralguard/core/Radius") }, accessFlags := 1, code := some k2c2 }
def k2c3 : Code := { maxStack := 2, maxLocals := 3, code := prog_45_method_6_code, exceptionTable := #[], attributes := #[] }
def k2m3 : Method := { name := "equals", desc := "(Ljava/lang/Object;)Z", sig := { parameters := [(.object "java/lang/Object")], returnType := some .boolean }, accessFlags := 1, code := some k2c3 }
/-- com/example/lateral_guard/lateralguard/core/Radius -/
def k2 : Class := { plain "com/example/lateral_guard/lateralguard/core/Radius" (some 0) with
  accessFlags := 49
  interfaces := #[]
  cf := some (fileOf pool2 4 #[] #[{ accessFlags := 1, nameIndex := 7, descriptorIndex := 80, attributes := #[] }, { accessFlags := 2, nameIndex := 7, descriptorIndex := 8, attributes := #[] }, { accessFlags := 1, nameIndex := 84, descriptorIndex := 85, attributes := #[] }, { accessFlags := 1, nameIndex := 90, descriptorIndex := 91, attributes := #[] }] 49 10 #[] #[{ accessFlags := 25, nameIndex := 78, descriptorIndex := 26, attributes := #[] }, { accessFlags := 18, nameIndex := 25, descriptorIndex := 26, attributes := #[] }, { accessFlags := 18, nameIndex := 29, descriptorIndex := 26, attributes := #[] }, { accessFlags := 18, nameIndex := 32, descriptorIndex := 33, attributes := #[] }])
  fields := #[{ name := "UNLIMITED", type := .int, accessFlags := 25, slot := 0, constantValue := 0 }, { name := "up", type := .int, accessFlags := 18, slot := 0, constantValue := 0 }, { name := "down", type := .int, accessFlags := 18, slot := 1, constantValue := 0 }, { name := "flows", type := .boolean, accessFlags := 18, slot := 2, constantValue := 0 }]
  methods := #[k2m0, k2m1, k2m2, k2m3]
  instanceTypes := #[.int, .int, .boolean]
  staticTypes := #[.int]
  resolved := Array.replicate 116 none
  statics := none }

def pool3 : Array CpInfo := pool [(1, .class_ 2), (0, u "java/io/Serializable"), (0, .class_ 4), (0, u "java/lang/Object")] 2

/-- java/io/Serializable -/
def k3 : Class := { plain "java/io/Serializable" (some 0) with
  accessFlags := 1537
  interfaces := #[]
  cf := some (fileOf pool3 1 #[] #[] 1537 3 #[] #[])
  fields := #[]
  methods := #[]
  instanceTypes := #[]
  staticTypes := #[]
  resolved := Array.replicate 7 none
  statics := none }

def pool4 : Array CpInfo := pool [(1, .methodref 2 3), (0, .class_ 4), (0, .nameAndType 5 6), (0, u "java/lang/Object"), (0, u "<init>"), (0, u "()V"), (1, .class_ 10), (1, u "java/lang/Number"), (2, .class_ 14), (0, u "java/io/Serializable"), (0, u "serialVersionUID"), (0, u "J")] 20

def k4c0 : Code := { maxStack := 1, maxLocals := 1, code := jdk_18_method_1_code, exceptionTable := #[], attributes := #[] }
def k4m0 : Method := { name := "<init>", desc := "()V", sig := { parameters := [], returnType := none }, accessFlags := 1, code := some k4c0 }
/-- java/lang/Number -/
def k4 : Class := { plain "java/lang/Number" (some 0) with
  accessFlags := 1057
  interfaces := #[3]
  cf := some (fileOf pool4 8 #[] #[{ accessFlags := 1, nameIndex := 5, descriptorIndex := 6, attributes := #[] }] 1057 2 #[13] #[{ accessFlags := 26, nameIndex := 15, descriptorIndex := 16, attributes := #[] }])
  fields := #[{ name := "serialVersionUID", type := .long, accessFlags := 26, slot := 0, constantValue := 0 }]
  methods := #[k4m0]
  instanceTypes := #[]
  staticTypes := #[.long]
  resolved := Array.replicate 37 none
  statics := none }

def pool5 : Array CpInfo := pool [(1, .class_ 2), (0, u "java/lang/Comparable"), (0, .class_ 4), (0, u "java/lang/Object")] 7

/-- java/lang/Comparable -/
def k5 : Class := { plain "java/lang/Comparable" (some 0) with
  accessFlags := 1537
  interfaces := #[]
  cf := some (fileOf pool5 1 #[] #[] 1537 3 #[] #[])
  fields := #[]
  methods := #[]
  instanceTypes := #[]
  staticTypes := #[]
  resolved := Array.replicate 12 none
  statics := none }

def pool6 : Array CpInfo := pool [(1, .class_ 2), (0, u "java/lang/constant/Constable"), (0, .class_ 4), (0, u "java/lang/Object")] 6

/-- java/lang/constant/Constable -/
def k6 : Class := { plain "java/lang/constant/Constable" (some 0) with
  accessFlags := 1537
  interfaces := #[]
  cf := some (fileOf pool6 1 #[] #[] 1537 3 #[] #[])
  fields := #[]
  methods := #[]
  instanceTypes := #[]
  staticTypes := #[]
  resolved := Array.replicate 11 none
  statics := none }

def pool7 : Array CpInfo := pool [(1, .class_ 2), (0, u "java/lang/constant/ConstantDesc"), (0, .class_ 4), (0, u "java/lang/Object")] 32

/-- java/lang/constant/ConstantDesc -/
def k7 : Class := { plain "java/lang/constant/ConstantDesc" (some 0) with
  accessFlags := 1537
  interfaces := #[]
  cf := some (fileOf pool7 1 #[] #[] 1537 3 #[] #[])
  fields := #[]
  methods := #[]
  instanceTypes := #[]
  staticTypes := #[]
  resolved := Array.replicate 37 none
  statics := none }

def pool8 : Array CpInfo := pool [(1, .class_ 2), (0, u "java/lang/Integer"), (16, u "digits"), (0, u "[C"), (46, u "<init>"), (17, u "DigitOnes"), (0, u "[B"), (2, u "DigitTens"), (10, .nameAndType 67 101), (0, u "()V"), (85, u "valueOf"), (0, u "(I)Ljava/lang/Integer;"), (0, .class_ 190), (0, u "java/lang/Integer$IntegerCache"), (0, .fieldref 189 192), (0, .nameAndType 193 194), (0, u "high"), (0, u "I"), (0, .fieldref 189 196), (0, .nameAndType 197 198), (0, u "cache"), (0, u "[Ljava/lang/Integer;"), (0, .methodref 1 200), (0, .nameAndType 67 201), (0, u "(I)V"), (0, .methodref 203 100), (0, .class_ 204), (0, u "java/lang/Number"), (0, .fieldref 1 206), (0, .nameAndType 207 194), (0, u "value"), (94, u "TYPE"), (0, u "Ljava/lang/Class;"), (0, .class_ 305), (0, u "java/lang/Comparable"), (0, .class_ 307), (0, u "java/lang/constant/Constable"), (0, .class_ 309), (0, u "java/lang/constant/ConstantDesc"), (0, u "MIN_VALUE"), (1, u "MAX_VALUE"), (3, u "SIZE"), (1, u "BYTES"), (1, u "serialVersionUID"), (0, u "J")] 131

def k8c0 : Code := { maxStack := 3, maxLocals := 1, code := jdk_33_method_22_code, exceptionTable := #[], attributes := #[] }
def k8m0 : Method := { name := "valueOf", desc := "(I)Ljava/lang/Integer;", sig := { parameters := [.int], returnType := some (.object "java/lang/Integer") }, accessFlags := 9, code := some k8c0 }
def k8c1 : Code := { maxStack := 2, maxLocals := 2, code := jdk_33_method_23_code, exceptionTable := #[], attributes := #[] }
def k8m1 : Method := { name := "<init>", desc := "(I)V", sig := { parameters := [.int], returnType := none }, accessFlags := 1, code := some k8c1 }
/-- java/lang/Integer -/
def k8 : Class := { plain "java/lang/Integer" (some 4) with
  accessFlags := 49
  interfaces := #[5, 6, 7]
  cf := some (fileOf pool8 1 #[.nestMembers #[189]] #[{ accessFlags := 9, nameIndex := 187, descriptorIndex := 188, attributes := #[] }, { accessFlags := 1, nameIndex := 67, descriptorIndex := 201, attributes := #[] }] 49 203 #[304, 306, 308] #[{ accessFlags := 25, nameIndex := 310, descriptorIndex := 194, attributes := #[] }, { accessFlags := 25, nameIndex := 312, descriptorIndex := 194, attributes := #[] }, { accessFlags := 25, nameIndex := 302, descriptorIndex := 303, attributes := #[] }, { accessFlags := 24, nameIndex := 19, descriptorIndex := 20, attributes := #[] }, { accessFlags := 24, nameIndex := 89, descriptorIndex := 86, attributes := #[] }, { accessFlags := 24, nameIndex := 85, descriptorIndex := 86, attributes := #[] }, { accessFlags := 18, nameIndex := 207, descriptorIndex := 194, attributes := #[] }, { accessFlags := 25, nameIndex := 316, descriptorIndex := 194, attributes := #[] }, { accessFlags := 25, nameIndex := 318, descriptorIndex := 194, attributes := #[] }, { accessFlags := 26, nameIndex := 320, descriptorIndex := 321, attributes := #[] }])
  fields := #[{ name := "MIN_VALUE", type := .int, accessFlags := 25, slot := 0, constantValue := 0 }, { name := "MAX_VALUE", type := .int, accessFlags := 25, slot := 1, constantValue := 0 }, { name := "TYPE", type := (.object "java/lang/Class"), accessFlags := 25, slot := 2, constantValue := 0 }, { name := "digits", type := (.array .char), accessFlags := 24, slot := 3, constantValue := 0 }, { name := "DigitTens", type := (.array .byte), accessFlags := 24, slot := 4, constantValue := 0 }, { name := "DigitOnes", type := (.array .byte), accessFlags := 24, slot := 5, constantValue := 0 }, { name := "value", type := .int, accessFlags := 18, slot := 0, constantValue := 0 }, { name := "SIZE", type := .int, accessFlags := 25, slot := 6, constantValue := 0 }, { name := "BYTES", type := .int, accessFlags := 25, slot := 7, constantValue := 0 }, { name := "serialVersionUID", type := .long, accessFlags := 26, slot := 8, constantValue := 0 }]
  methods := #[k8m0, k8m1]
  instanceTypes := #[.int]
  staticTypes := #[.int, .int, (.object "java/lang/Class"), (.array .char), (.array .byte), (.array .byte), .int, .int, .long]
  resolved := Array.replicate 453 none
  statics := none }

def pool9 : Array CpInfo := pool [(2, .class_ 4), (1, u "java/lang/Object"), (0, u "<init>"), (0, u "()V"), (0, .class_ 8), (0, u "java/lang/Integer"), (7, .class_ 18), (1, u "java/lang/Integer$IntegerCache"), (0, u "$assertionsDisabled"), (0, u "Z"), (26, u "high"), (0, u "I"), (8, u "archivedCache"), (0, u "[Ljava/lang/Integer;"), (12, u "cache"), (0, u "low")] 27

def k9m0 : Method := { name := "<init>", desc := "()V", sig := { parameters := [], returnType := none }, accessFlags := 2, code := none }
/-- java/lang/Integer$IntegerCache -/
def k9 : Class := { plain "java/lang/Integer$IntegerCache" (some 0) with
  accessFlags := 48
  interfaces := #[]
  cf := some (fileOf pool9 16 #[.nestHost 7] #[{ accessFlags := 2, nameIndex := 5, descriptorIndex := 6, attributes := #[] }] 48 2 #[] #[{ accessFlags := 24, nameIndex := 72, descriptorIndex := 48, attributes := #[] }, { accessFlags := 24, nameIndex := 47, descriptorIndex := 48, attributes := #[] }, { accessFlags := 24, nameIndex := 71, descriptorIndex := 58, attributes := #[] }, { accessFlags := 8, nameIndex := 57, descriptorIndex := 58, attributes := #[] }, { accessFlags := 4120, nameIndex := 19, descriptorIndex := 20, attributes := #[] }])
  fields := #[{ name := "low", type := .int, accessFlags := 24, slot := 0, constantValue := 0 }, { name := "high", type := .int, accessFlags := 24, slot := 1, constantValue := 0 }, { name := "cache", type := (.array (.object "java/lang/Integer")), accessFlags := 24, slot := 2, constantValue := 0 }, { name := "archivedCache", type := (.array (.object "java/lang/Integer")), accessFlags := 8, slot := 3, constantValue := 0 }, { name := "$assertionsDisabled", type := .boolean, accessFlags := 4120, slot := 4, constantValue := 0 }]
  methods := #[k9m0]
  instanceTypes := #[]
  staticTypes := #[.int, .int, (.array (.object "java/lang/Integer")), (.array (.object "java/lang/Integer")), .boolean]
  resolved := Array.replicate 100 none
  statics := some 0 }

def pool10 : Array CpInfo := pool [(1, u "java/lang/Cloneable"), (0, .class_ 1), (0, u "java/lang/Object"), (0, .class_ 3)] 3

/-- java/lang/Cloneable -/
def k10 : Class := { plain "java/lang/Cloneable" (some 0) with
  accessFlags := 1537
  interfaces := #[]
  cf := some (fileOf pool10 2 #[] #[] 1537 4 #[] #[])
  fields := #[]
  methods := #[]
  instanceTypes := #[]
  staticTypes := #[]
  resolved := Array.replicate 8 none
  statics := none }

/-- the primitive byte -/
def k11 : Class := { plain "byte" none with kind := .primitive 'B', accessFlags := 0x411 }
/-- [B -/
def k12 : Class := { plain "[B" (some 0) with kind := .array 11 .byte, interfaces := #[10, 3], accessFlags := 1041 }

/-- the primitive int -/
def k13 : Class := { plain "int" none with kind := .primitive 'I', accessFlags := 0x411 }
/-- [I -/
def k14 : Class := { plain "[I" (some 0) with kind := .array 13 .int, interfaces := #[10, 3], accessFlags := 1041 }

/-- [Ljava/lang/Integer; -/
def k15 : Class := { plain "[Ljava/lang/Integer;" (some 0) with kind := .array 8 (.object "java/lang/Integer"), interfaces := #[10, 3], accessFlags := 1041 }

def heap : Heap := #[{ cls := 9, slots := #[.int 0, .int 127, .ref 1, .null, .int 0], vm := .statics 9 },
  { cls := 15, slots := #[.ref 2, .ref 3, .ref 4, .ref 5, .ref 6, .ref 7, .ref 8, .ref 9, .ref 10, .ref 11, .ref 12, .ref 13, .ref 14, .ref 15, .ref 16, .ref 17, .ref 18, .ref 19, .ref 20, .ref 21, .ref 22, .ref 23, .ref 24, .ref 25, .ref 26, .ref 27, .ref 28, .ref 29, .ref 30, .ref 31, .ref 32, .ref 33, .ref 34, .ref 35, .ref 36, .ref 37, .ref 38, .ref 39, .ref 40, .ref 41, .ref 42, .ref 43, .ref 44, .ref 45, .ref 46, .ref 47, .ref 48, .ref 49, .ref 50, .ref 51, .ref 52, .ref 53, .ref 54, .ref 55, .ref 56, .ref 57, .ref 58, .ref 59, .ref 60, .ref 61, .ref 62, .ref 63, .ref 64, .ref 65, .ref 66, .ref 67, .ref 68, .ref 69, .ref 70, .ref 71, .ref 72, .ref 73, .ref 74, .ref 75, .ref 76, .ref 77, .ref 78, .ref 79, .ref 80, .ref 81, .ref 82, .ref 83, .ref 84, .ref 85, .ref 86, .ref 87, .ref 88, .ref 89, .ref 90, .ref 91, .ref 92, .ref 93, .ref 94, .ref 95, .ref 96, .ref 97, .ref 98, .ref 99, .ref 100, .ref 101, .ref 102, .ref 103, .ref 104, .ref 105, .ref 106, .ref 107, .ref 108, .ref 109, .ref 110, .ref 111, .ref 112, .ref 113, .ref 114, .ref 115, .ref 116, .ref 117, .ref 118, .ref 119, .ref 120, .ref 121, .ref 122, .ref 123, .ref 124, .ref 125, .ref 126, .ref 127, .ref 128, .ref 129, .ref 130, .ref 131, .ref 132, .ref 133, .ref 134, .ref 135, .ref 136, .ref 137, .ref 138, .ref 139, .ref 140, .ref 141, .ref 142, .ref 143, .ref 144, .ref 145, .ref 146, .ref 147, .ref 148, .ref 149, .ref 150, .ref 151, .ref 152, .ref 153, .ref 154, .ref 155, .ref 156, .ref 157, .ref 158, .ref 159, .ref 160, .ref 161, .ref 162, .ref 163, .ref 164, .ref 165, .ref 166, .ref 167, .ref 168, .ref 169, .ref 170, .ref 171, .ref 172, .ref 173, .ref 174, .ref 175, .ref 176, .ref 177, .ref 178, .ref 179, .ref 180, .ref 181, .ref 182, .ref 183, .ref 184, .ref 185, .ref 186, .ref 187, .ref 188, .ref 189, .ref 190, .ref 191, .ref 192, .ref 193, .ref 194, .ref 195, .ref 196, .ref 197, .ref 198, .ref 199, .ref 200, .ref 201, .ref 202, .ref 203, .ref 204, .ref 205, .ref 206, .ref 207, .ref 208, .ref 209, .ref 210, .ref 211, .ref 212, .ref 213, .ref 214, .ref 215, .ref 216, .ref 217, .ref 218, .ref 219, .ref 220, .ref 221, .ref 222, .ref 223, .ref 224, .ref 225, .ref 226, .ref 227, .ref 228, .ref 229, .ref 230, .ref 231, .ref 232, .ref 233, .ref 234, .ref 235, .ref 236, .ref 237, .ref 238, .ref 239, .ref 240, .ref 241, .ref 242, .ref 243, .ref 244, .ref 245, .ref 246, .ref 247, .ref 248, .ref 249, .ref 250, .ref 251, .ref 252, .ref 253, .ref 254, .ref 255, .ref 256, .ref 257], vm := .none },
  { cls := 8, slots := #[.int (-128)], vm := .none },
  { cls := 8, slots := #[.int (-127)], vm := .none },
  { cls := 8, slots := #[.int (-126)], vm := .none },
  { cls := 8, slots := #[.int (-125)], vm := .none },
  { cls := 8, slots := #[.int (-124)], vm := .none },
  { cls := 8, slots := #[.int (-123)], vm := .none },
  { cls := 8, slots := #[.int (-122)], vm := .none },
  { cls := 8, slots := #[.int (-121)], vm := .none },
  { cls := 8, slots := #[.int (-120)], vm := .none },
  { cls := 8, slots := #[.int (-119)], vm := .none },
  { cls := 8, slots := #[.int (-118)], vm := .none },
  { cls := 8, slots := #[.int (-117)], vm := .none },
  { cls := 8, slots := #[.int (-116)], vm := .none },
  { cls := 8, slots := #[.int (-115)], vm := .none },
  { cls := 8, slots := #[.int (-114)], vm := .none },
  { cls := 8, slots := #[.int (-113)], vm := .none },
  { cls := 8, slots := #[.int (-112)], vm := .none },
  { cls := 8, slots := #[.int (-111)], vm := .none },
  { cls := 8, slots := #[.int (-110)], vm := .none },
  { cls := 8, slots := #[.int (-109)], vm := .none },
  { cls := 8, slots := #[.int (-108)], vm := .none },
  { cls := 8, slots := #[.int (-107)], vm := .none },
  { cls := 8, slots := #[.int (-106)], vm := .none },
  { cls := 8, slots := #[.int (-105)], vm := .none },
  { cls := 8, slots := #[.int (-104)], vm := .none },
  { cls := 8, slots := #[.int (-103)], vm := .none },
  { cls := 8, slots := #[.int (-102)], vm := .none },
  { cls := 8, slots := #[.int (-101)], vm := .none },
  { cls := 8, slots := #[.int (-100)], vm := .none },
  { cls := 8, slots := #[.int (-99)], vm := .none },
  { cls := 8, slots := #[.int (-98)], vm := .none },
  { cls := 8, slots := #[.int (-97)], vm := .none },
  { cls := 8, slots := #[.int (-96)], vm := .none },
  { cls := 8, slots := #[.int (-95)], vm := .none },
  { cls := 8, slots := #[.int (-94)], vm := .none },
  { cls := 8, slots := #[.int (-93)], vm := .none },
  { cls := 8, slots := #[.int (-92)], vm := .none },
  { cls := 8, slots := #[.int (-91)], vm := .none },
  { cls := 8, slots := #[.int (-90)], vm := .none },
  { cls := 8, slots := #[.int (-89)], vm := .none },
  { cls := 8, slots := #[.int (-88)], vm := .none },
  { cls := 8, slots := #[.int (-87)], vm := .none },
  { cls := 8, slots := #[.int (-86)], vm := .none },
  { cls := 8, slots := #[.int (-85)], vm := .none },
  { cls := 8, slots := #[.int (-84)], vm := .none },
  { cls := 8, slots := #[.int (-83)], vm := .none },
  { cls := 8, slots := #[.int (-82)], vm := .none },
  { cls := 8, slots := #[.int (-81)], vm := .none },
  { cls := 8, slots := #[.int (-80)], vm := .none },
  { cls := 8, slots := #[.int (-79)], vm := .none },
  { cls := 8, slots := #[.int (-78)], vm := .none },
  { cls := 8, slots := #[.int (-77)], vm := .none },
  { cls := 8, slots := #[.int (-76)], vm := .none },
  { cls := 8, slots := #[.int (-75)], vm := .none },
  { cls := 8, slots := #[.int (-74)], vm := .none },
  { cls := 8, slots := #[.int (-73)], vm := .none },
  { cls := 8, slots := #[.int (-72)], vm := .none },
  { cls := 8, slots := #[.int (-71)], vm := .none },
  { cls := 8, slots := #[.int (-70)], vm := .none },
  { cls := 8, slots := #[.int (-69)], vm := .none },
  { cls := 8, slots := #[.int (-68)], vm := .none },
  { cls := 8, slots := #[.int (-67)], vm := .none },
  { cls := 8, slots := #[.int (-66)], vm := .none },
  { cls := 8, slots := #[.int (-65)], vm := .none },
  { cls := 8, slots := #[.int (-64)], vm := .none },
  { cls := 8, slots := #[.int (-63)], vm := .none },
  { cls := 8, slots := #[.int (-62)], vm := .none },
  { cls := 8, slots := #[.int (-61)], vm := .none },
  { cls := 8, slots := #[.int (-60)], vm := .none },
  { cls := 8, slots := #[.int (-59)], vm := .none },
  { cls := 8, slots := #[.int (-58)], vm := .none },
  { cls := 8, slots := #[.int (-57)], vm := .none },
  { cls := 8, slots := #[.int (-56)], vm := .none },
  { cls := 8, slots := #[.int (-55)], vm := .none },
  { cls := 8, slots := #[.int (-54)], vm := .none },
  { cls := 8, slots := #[.int (-53)], vm := .none },
  { cls := 8, slots := #[.int (-52)], vm := .none },
  { cls := 8, slots := #[.int (-51)], vm := .none },
  { cls := 8, slots := #[.int (-50)], vm := .none },
  { cls := 8, slots := #[.int (-49)], vm := .none },
  { cls := 8, slots := #[.int (-48)], vm := .none },
  { cls := 8, slots := #[.int (-47)], vm := .none },
  { cls := 8, slots := #[.int (-46)], vm := .none },
  { cls := 8, slots := #[.int (-45)], vm := .none },
  { cls := 8, slots := #[.int (-44)], vm := .none },
  { cls := 8, slots := #[.int (-43)], vm := .none },
  { cls := 8, slots := #[.int (-42)], vm := .none },
  { cls := 8, slots := #[.int (-41)], vm := .none },
  { cls := 8, slots := #[.int (-40)], vm := .none },
  { cls := 8, slots := #[.int (-39)], vm := .none },
  { cls := 8, slots := #[.int (-38)], vm := .none },
  { cls := 8, slots := #[.int (-37)], vm := .none },
  { cls := 8, slots := #[.int (-36)], vm := .none },
  { cls := 8, slots := #[.int (-35)], vm := .none },
  { cls := 8, slots := #[.int (-34)], vm := .none },
  { cls := 8, slots := #[.int (-33)], vm := .none },
  { cls := 8, slots := #[.int (-32)], vm := .none },
  { cls := 8, slots := #[.int (-31)], vm := .none },
  { cls := 8, slots := #[.int (-30)], vm := .none },
  { cls := 8, slots := #[.int (-29)], vm := .none },
  { cls := 8, slots := #[.int (-28)], vm := .none },
  { cls := 8, slots := #[.int (-27)], vm := .none },
  { cls := 8, slots := #[.int (-26)], vm := .none },
  { cls := 8, slots := #[.int (-25)], vm := .none },
  { cls := 8, slots := #[.int (-24)], vm := .none },
  { cls := 8, slots := #[.int (-23)], vm := .none },
  { cls := 8, slots := #[.int (-22)], vm := .none },
  { cls := 8, slots := #[.int (-21)], vm := .none },
  { cls := 8, slots := #[.int (-20)], vm := .none },
  { cls := 8, slots := #[.int (-19)], vm := .none },
  { cls := 8, slots := #[.int (-18)], vm := .none },
  { cls := 8, slots := #[.int (-17)], vm := .none },
  { cls := 8, slots := #[.int (-16)], vm := .none },
  { cls := 8, slots := #[.int (-15)], vm := .none },
  { cls := 8, slots := #[.int (-14)], vm := .none },
  { cls := 8, slots := #[.int (-13)], vm := .none },
  { cls := 8, slots := #[.int (-12)], vm := .none },
  { cls := 8, slots := #[.int (-11)], vm := .none },
  { cls := 8, slots := #[.int (-10)], vm := .none },
  { cls := 8, slots := #[.int (-9)], vm := .none },
  { cls := 8, slots := #[.int (-8)], vm := .none },
  { cls := 8, slots := #[.int (-7)], vm := .none },
  { cls := 8, slots := #[.int (-6)], vm := .none },
  { cls := 8, slots := #[.int (-5)], vm := .none },
  { cls := 8, slots := #[.int (-4)], vm := .none },
  { cls := 8, slots := #[.int (-3)], vm := .none },
  { cls := 8, slots := #[.int (-2)], vm := .none },
  { cls := 8, slots := #[.int (-1)], vm := .none },
  { cls := 8, slots := #[.int (0)], vm := .none },
  { cls := 8, slots := #[.int (1)], vm := .none },
  { cls := 8, slots := #[.int (2)], vm := .none },
  { cls := 8, slots := #[.int (3)], vm := .none },
  { cls := 8, slots := #[.int (4)], vm := .none },
  { cls := 8, slots := #[.int (5)], vm := .none },
  { cls := 8, slots := #[.int (6)], vm := .none },
  { cls := 8, slots := #[.int (7)], vm := .none },
  { cls := 8, slots := #[.int (8)], vm := .none },
  { cls := 8, slots := #[.int (9)], vm := .none },
  { cls := 8, slots := #[.int (10)], vm := .none },
  { cls := 8, slots := #[.int (11)], vm := .none },
  { cls := 8, slots := #[.int (12)], vm := .none },
  { cls := 8, slots := #[.int (13)], vm := .none },
  { cls := 8, slots := #[.int (14)], vm := .none },
  { cls := 8, slots := #[.int (15)], vm := .none },
  { cls := 8, slots := #[.int (16)], vm := .none },
  { cls := 8, slots := #[.int (17)], vm := .none },
  { cls := 8, slots := #[.int (18)], vm := .none },
  { cls := 8, slots := #[.int (19)], vm := .none },
  { cls := 8, slots := #[.int (20)], vm := .none },
  { cls := 8, slots := #[.int (21)], vm := .none },
  { cls := 8, slots := #[.int (22)], vm := .none },
  { cls := 8, slots := #[.int (23)], vm := .none },
  { cls := 8, slots := #[.int (24)], vm := .none },
  { cls := 8, slots := #[.int (25)], vm := .none },
  { cls := 8, slots := #[.int (26)], vm := .none },
  { cls := 8, slots := #[.int (27)], vm := .none },
  { cls := 8, slots := #[.int (28)], vm := .none },
  { cls := 8, slots := #[.int (29)], vm := .none },
  { cls := 8, slots := #[.int (30)], vm := .none },
  { cls := 8, slots := #[.int (31)], vm := .none },
  { cls := 8, slots := #[.int (32)], vm := .none },
  { cls := 8, slots := #[.int (33)], vm := .none },
  { cls := 8, slots := #[.int (34)], vm := .none },
  { cls := 8, slots := #[.int (35)], vm := .none },
  { cls := 8, slots := #[.int (36)], vm := .none },
  { cls := 8, slots := #[.int (37)], vm := .none },
  { cls := 8, slots := #[.int (38)], vm := .none },
  { cls := 8, slots := #[.int (39)], vm := .none },
  { cls := 8, slots := #[.int (40)], vm := .none },
  { cls := 8, slots := #[.int (41)], vm := .none },
  { cls := 8, slots := #[.int (42)], vm := .none },
  { cls := 8, slots := #[.int (43)], vm := .none },
  { cls := 8, slots := #[.int (44)], vm := .none },
  { cls := 8, slots := #[.int (45)], vm := .none },
  { cls := 8, slots := #[.int (46)], vm := .none },
  { cls := 8, slots := #[.int (47)], vm := .none },
  { cls := 8, slots := #[.int (48)], vm := .none },
  { cls := 8, slots := #[.int (49)], vm := .none },
  { cls := 8, slots := #[.int (50)], vm := .none },
  { cls := 8, slots := #[.int (51)], vm := .none },
  { cls := 8, slots := #[.int (52)], vm := .none },
  { cls := 8, slots := #[.int (53)], vm := .none },
  { cls := 8, slots := #[.int (54)], vm := .none },
  { cls := 8, slots := #[.int (55)], vm := .none },
  { cls := 8, slots := #[.int (56)], vm := .none },
  { cls := 8, slots := #[.int (57)], vm := .none },
  { cls := 8, slots := #[.int (58)], vm := .none },
  { cls := 8, slots := #[.int (59)], vm := .none },
  { cls := 8, slots := #[.int (60)], vm := .none },
  { cls := 8, slots := #[.int (61)], vm := .none },
  { cls := 8, slots := #[.int (62)], vm := .none },
  { cls := 8, slots := #[.int (63)], vm := .none },
  { cls := 8, slots := #[.int (64)], vm := .none },
  { cls := 8, slots := #[.int (65)], vm := .none },
  { cls := 8, slots := #[.int (66)], vm := .none },
  { cls := 8, slots := #[.int (67)], vm := .none },
  { cls := 8, slots := #[.int (68)], vm := .none },
  { cls := 8, slots := #[.int (69)], vm := .none },
  { cls := 8, slots := #[.int (70)], vm := .none },
  { cls := 8, slots := #[.int (71)], vm := .none },
  { cls := 8, slots := #[.int (72)], vm := .none },
  { cls := 8, slots := #[.int (73)], vm := .none },
  { cls := 8, slots := #[.int (74)], vm := .none },
  { cls := 8, slots := #[.int (75)], vm := .none },
  { cls := 8, slots := #[.int (76)], vm := .none },
  { cls := 8, slots := #[.int (77)], vm := .none },
  { cls := 8, slots := #[.int (78)], vm := .none },
  { cls := 8, slots := #[.int (79)], vm := .none },
  { cls := 8, slots := #[.int (80)], vm := .none },
  { cls := 8, slots := #[.int (81)], vm := .none },
  { cls := 8, slots := #[.int (82)], vm := .none },
  { cls := 8, slots := #[.int (83)], vm := .none },
  { cls := 8, slots := #[.int (84)], vm := .none },
  { cls := 8, slots := #[.int (85)], vm := .none },
  { cls := 8, slots := #[.int (86)], vm := .none },
  { cls := 8, slots := #[.int (87)], vm := .none },
  { cls := 8, slots := #[.int (88)], vm := .none },
  { cls := 8, slots := #[.int (89)], vm := .none },
  { cls := 8, slots := #[.int (90)], vm := .none },
  { cls := 8, slots := #[.int (91)], vm := .none },
  { cls := 8, slots := #[.int (92)], vm := .none },
  { cls := 8, slots := #[.int (93)], vm := .none },
  { cls := 8, slots := #[.int (94)], vm := .none },
  { cls := 8, slots := #[.int (95)], vm := .none },
  { cls := 8, slots := #[.int (96)], vm := .none },
  { cls := 8, slots := #[.int (97)], vm := .none },
  { cls := 8, slots := #[.int (98)], vm := .none },
  { cls := 8, slots := #[.int (99)], vm := .none },
  { cls := 8, slots := #[.int (100)], vm := .none },
  { cls := 8, slots := #[.int (101)], vm := .none },
  { cls := 8, slots := #[.int (102)], vm := .none },
  { cls := 8, slots := #[.int (103)], vm := .none },
  { cls := 8, slots := #[.int (104)], vm := .none },
  { cls := 8, slots := #[.int (105)], vm := .none },
  { cls := 8, slots := #[.int (106)], vm := .none },
  { cls := 8, slots := #[.int (107)], vm := .none },
  { cls := 8, slots := #[.int (108)], vm := .none },
  { cls := 8, slots := #[.int (109)], vm := .none },
  { cls := 8, slots := #[.int (110)], vm := .none },
  { cls := 8, slots := #[.int (111)], vm := .none },
  { cls := 8, slots := #[.int (112)], vm := .none },
  { cls := 8, slots := #[.int (113)], vm := .none },
  { cls := 8, slots := #[.int (114)], vm := .none },
  { cls := 8, slots := #[.int (115)], vm := .none },
  { cls := 8, slots := #[.int (116)], vm := .none },
  { cls := 8, slots := #[.int (117)], vm := .none },
  { cls := 8, slots := #[.int (118)], vm := .none },
  { cls := 8, slots := #[.int (119)], vm := .none },
  { cls := 8, slots := #[.int (120)], vm := .none },
  { cls := 8, slots := #[.int (121)], vm := .none },
  { cls := 8, slots := #[.int (122)], vm := .none },
  { cls := 8, slots := #[.int (123)], vm := .none },
  { cls := 8, slots := #[.int (124)], vm := .none },
  { cls := 8, slots := #[.int (125)], vm := .none },
  { cls := 8, slots := #[.int (126)], vm := .none },
  { cls := 8, slots := #[.int (127)], vm := .none }]
def classes : Array Class := #[k0, k1, k2, k3, k4, k5, k6, k7, k8, k9, k10, k11, k12, k13, k14, k15]
def interned : List (Array UInt16 × Addr) := []
def slotsUsed : Nat := 517
def theMethod : MethodId := ⟨1, 1⟩
def args0 : Array Value := #[.int 1, .int 2, .int 1, .int 2, .int 0]
def aboutOver (below : List Frame) : State where
  vm := { classes := classes, interned := interned.toArray }
  heap := heap
  slotsUsed := slotsUsed
  threads := #[{ frames := .invoking theMethod args0 :: below }]
def below0 : List Frame := [.native { method := ⟨0, 0⟩, args := #[] }]
def about1 : State := aboutOver below0
def p0 : Program := .bare "" "" ""
def e0 : Env := launch0.env 0 0 0
theorem w_frames : about1.frames = Frame.invoking theMethod args0 :: below0 := rfl
set_option maxRecDepth 65536 in
theorem w_args : argsFit about1.vm theMethod args0 = true := by decide +kernel
set_option maxRecDepth 65536 in
theorem w_heap : heapFits about1 = true := by decide +kernel
set_option maxRecDepth 65536 in
theorem w_runnable : about1.curStatus? = some .runnable := by decide +kernel
set_option maxRecDepth 65536 in
theorem w_alone : about1.alone = true := by decide +kernel
set_option maxRecDepth 65536 in
theorem w_named : about1.methodNamed? x = some theMethod := by decide +kernel
set_option maxRecDepth 65536 in
theorem w_hears : about1.hears theMethod below0 = true := by decide +kernel
set_option maxRecDepth 65536 in
theorem w_ripe : about1.ripe theMethod args0 below0 = true := by decide +kernel
theorem w_running : about1.status = .running := rfl
set_option maxRecDepth 65536 in
theorem w_room : about1.hasRoom e0.platform room_1 = true :=
  launch0.hasRoom_least _ room_1 (by decide +kernel) (by decide +kernel) (by decide +kernel) (by decide +kernel) (by decide +kernel) (by decide +kernel)
theorem allAtoms_all (ts : List Jvm.Cond) (a : Array Jvm.Value) (st : Jvm.State) : (allAtoms ts).before a st = ts.all (fun c => c.before a st) := by
  induction ts with
  | nil => rfl
  | cons c t ih =>
    show (Jvm.Cond.and c (allAtoms t)).before a st = _
    rw [Jvm.Cond.before_and, ih, List.all_cons]
def words1 : List Jvm.Cond := Jvm.Cond.code x code maxLocals ret :: tables_1
/-- a 'code' word, met by the world's own term for the bytes: nothing is compared byte by byte -/
theorem code_word {y : MethodName} {bytes : ByteArray} {mx : Nat} {rt : Option FieldType} {a : Array Value} {s : State} {m : MethodId} {meth : Method} {c : Code} (h1 : s.methodNamed? y = some m) (h2 : s.vm.method? m = some meth) (h3 : meth.code = some c) (h4 : c.code = bytes)
    (h5 : (c.maxLocals == mx && c.exceptionTable.isEmpty && decide (c.maxStack ≤ mostOperands) && decide (meth.sig.returnType = rt) && !meth.locks && decide (parseMethodDescriptor y.desc = some meth.sig)) = true) : (Jvm.Cond.code y bytes mx rt).before a s = true := by
  simp only [Bool.and_eq_true, beq_iff_eq, Bool.not_eq_true', decide_eq_true_eq] at h5
  obtain ⟨⟨⟨⟨⟨g1, g2⟩, g3⟩, g4⟩, g5⟩, g6⟩ := h5
  simp [Cond.before, Cond.holds, Cond.value, h1, h2, h3, h4, g1, g2, g3, g4, g5, g6]
def isCode : Jvm.Cond → Bool
  | .code _ _ _ _ => true
  | _ => false
theorem all_split {L : List Jvm.Cond} {P : Jvm.Cond → Bool} (h1 : L.all (fun c => isCode c || P c) = true) (h2 : ∀ c ∈ L.filter isCode, P c = true) : L.all P = true := by
  refine List.all_eq_true.mpr fun c hc => ?_
  have h := List.all_eq_true.mp h1 c hc
  rcases Bool.eq_false_or_eq_true (isCode c) with hi | hi
  · exact h2 c (List.mem_filter.mpr ⟨hc, hi⟩)
  · simpa [hi] using h
set_option maxRecDepth 65536 in
theorem w_c0 : (Jvm.Cond.code x code maxLocals ret).before args0 about1 = true := code_word (m := ⟨1, 1⟩) (meth := k1m1) (c := k1c1) (by decide +kernel) rfl rfl rfl (by decide +kernel)
set_option maxRecDepth 65536 in
theorem w_c1 : (Jvm.Cond.code ({ cls := "com/example/lateral_guard/lateralguard/core/Radius", name := "<init>", desc := "(II)V" } : Jvm.MethodName) prog_45_method_1_code (3 : Nat) (Option.none : Option Jvm.ClassFile.FieldType)).before args0 about1 = true := code_word (m := ⟨2, 0⟩) (meth := k2m0) (c := k2c0) (by decide +kernel) rfl rfl rfl (by decide +kernel)
set_option maxRecDepth 65536 in
theorem w_c2 : (Jvm.Cond.code ({ cls := "com/example/lateral_guard/lateralguard/core/Radius", name := "<init>", desc := "(IIZ)V" } : Jvm.MethodName) prog_45_method_2_code (4 : Nat) (Option.none : Option Jvm.ClassFile.FieldType)).before args0 about1 = true := code_word (m := ⟨2, 1⟩) (meth := k2m1) (c := k2c1) (by decide +kernel) rfl rfl rfl (by decide +kernel)
set_option maxRecDepth 65536 in
theorem w_c3 : (Jvm.Cond.code ({ cls := "java/lang/Object", name := "<init>", desc := "()V" } : Jvm.MethodName) object_method_1_code (1 : Nat) (Option.none : Option Jvm.ClassFile.FieldType)).before args0 about1 = true := code_word (m := ⟨0, 0⟩) (meth := k0m0) (c := k0c0) (by decide +kernel) rfl rfl rfl (by decide +kernel)
set_option maxRecDepth 65536 in
theorem w_c4 : (Jvm.Cond.code ({ cls := "com/example/lateral_guard/lateralguard/core/Radius", name := "equals", desc := "(Ljava/lang/Object;)Z" } : Jvm.MethodName) prog_45_method_6_code (3 : Nat) (Option.some Jvm.ClassFile.FieldType.boolean)).before args0 about1 = true := code_word (m := ⟨2, 3⟩) (meth := k2m3) (c := k2c3) (by decide +kernel) rfl rfl rfl (by decide +kernel)
set_option maxRecDepth 65536 in
theorem w_c5 : (Jvm.Cond.code ({ cls := "com/example/lateral_guard/lateralguard/core/Radius", name := "withFlows", desc := "()Lcom/example/lateral_guard/lateralguard/core/Radius;" } : Jvm.MethodName) prog_45_method_3_code (1 : Nat) (Option.some (Jvm.ClassFile.FieldType.object "com/example/lateral_guard/lateralguard/core/Radius"))).before args0 about1 = true := code_word (m := ⟨2, 2⟩) (meth := k2m2) (c := k2c2) (by decide +kernel) rfl rfl rfl (by decide +kernel)
set_option maxRecDepth 65536 in
theorem w_c6 : (Jvm.Cond.code ({ cls := "java/lang/Integer", name := "valueOf", desc := "(I)Ljava/lang/Integer;" } : Jvm.MethodName) jdk_33_method_22_code (1 : Nat) (Option.some (Jvm.ClassFile.FieldType.object "java/lang/Integer"))).before args0 about1 = true := code_word (m := ⟨8, 0⟩) (meth := k8m0) (c := k8c0) (by decide +kernel) rfl rfl rfl (by decide +kernel)
set_option maxRecDepth 65536 in
theorem w_c7 : (Jvm.Cond.code ({ cls := "java/lang/Integer", name := "<init>", desc := "(I)V" } : Jvm.MethodName) jdk_33_method_23_code (2 : Nat) (Option.none : Option Jvm.ClassFile.FieldType)).before args0 about1 = true := code_word (m := ⟨8, 1⟩) (meth := k8m1) (c := k8c1) (by decide +kernel) rfl rfl rfl (by decide +kernel)
set_option maxRecDepth 65536 in
theorem w_c8 : (Jvm.Cond.code ({ cls := "java/lang/Number", name := "<init>", desc := "()V" } : Jvm.MethodName) jdk_18_method_1_code (1 : Nat) (Option.none : Option Jvm.ClassFile.FieldType)).before args0 about1 = true := code_word (m := ⟨4, 0⟩) (meth := k4m0) (c := k4c0) (by decide +kernel) rfl rfl rfl (by decide +kernel)
def codes1 : List Jvm.Cond := [Jvm.Cond.code x code maxLocals ret, Jvm.Cond.code ({ cls := "com/example/lateral_guard/lateralguard/core/Radius", name := "<init>", desc := "(II)V" } : Jvm.MethodName) prog_45_method_1_code (3 : Nat) (Option.none : Option Jvm.ClassFile.FieldType), Jvm.Cond.code ({ cls := "com/example/lateral_guard/lateralguard/core/Radius", name := "<init>", desc := "(IIZ)V" } : Jvm.MethodName) prog_45_method_2_code (4 : Nat) (Option.none : Option Jvm.ClassFile.FieldType), Jvm.Cond.code ({ cls := "java/lang/Object", name := "<init>", desc := "()V" } : Jvm.MethodName) object_method_1_code (1 : Nat) (Option.none : Option Jvm.ClassFile.FieldType), Jvm.Cond.code ({ cls := "com/example/lateral_guard/lateralguard/core/Radius", name := "equals", desc := "(Ljava/lang/Object;)Z" } : Jvm.MethodName) prog_45_method_6_code (3 : Nat) (Option.some Jvm.ClassFile.FieldType.boolean), Jvm.Cond.code ({ cls := "com/example/lateral_guard/lateralguard/core/Radius", name := "withFlows", desc := "()Lcom/example/lateral_guard/lateralguard/core/Radius;" } : Jvm.MethodName) prog_45_method_3_code (1 : Nat) (Option.some (Jvm.ClassFile.FieldType.object "com/example/lateral_guard/lateralguard/core/Radius")), Jvm.Cond.code ({ cls := "java/lang/Integer", name := "valueOf", desc := "(I)Ljava/lang/Integer;" } : Jvm.MethodName) jdk_33_method_22_code (1 : Nat) (Option.some (Jvm.ClassFile.FieldType.object "java/lang/Integer")), Jvm.Cond.code ({ cls := "java/lang/Integer", name := "<init>", desc := "(I)V" } : Jvm.MethodName) jdk_33_method_23_code (2 : Nat) (Option.none : Option Jvm.ClassFile.FieldType), Jvm.Cond.code ({ cls := "java/lang/Number", name := "<init>", desc := "()V" } : Jvm.MethodName) jdk_18_method_1_code (1 : Nat) (Option.none : Option Jvm.ClassFile.FieldType)]
set_option maxRecDepth 65536 in
theorem codes_eq : words1.filter isCode = codes1 := rfl
theorem w_codes : ∀ c ∈ words1.filter isCode, c.before args0 about1 = true := by
  rw [codes_eq]
  intro c hc
  simp only [codes1, List.mem_cons, List.not_mem_nil, or_false] at hc
  rcases hc with rfl | rfl | rfl | rfl | rfl | rfl | rfl | rfl | rfl
  · exact w_c0
  · exact w_c1
  · exact w_c2
  · exact w_c3
  · exact w_c4
  · exact w_c5
  · exact w_c6
  · exact w_c7
  · exact w_c8
set_option maxRecDepth 65536 in
theorem w_t1 : (words1.take 24).all (fun c => isCode c || c.before args0 about1) = true := by decide +kernel
set_option maxRecDepth 65536 in
theorem w_t2 : ((words1.drop 24).take 24).all (fun c => isCode c || c.before args0 about1) = true := by decide +kernel
set_option maxRecDepth 65536 in
theorem w_t3 : ((words1.drop 24).drop 24).all (fun c => isCode c || c.before args0 about1) = true := by decide +kernel
theorem w_tables : (allAtoms (Jvm.Cond.code x code maxLocals ret :: tables_1)).before args0 about1 = true := by
  rw [allAtoms_all]
  show words1.all (fun c => c.before args0 about1) = true
  refine all_split ?_ w_codes
  rw [← List.take_append_drop 24 words1, List.all_append, w_t1, ← List.take_append_drop 24 (words1.drop 24), List.all_append, w_t2, w_t3]
  rfl
set_option maxRecDepth 65536 in
theorem w_rest : rest_1_c.before args0 about1 = true := by decide +kernel
set_option maxRecDepth 65536 in
theorem w_case : (Jvm.Cond.and given_1 narrow_1).before args0 about1 = true := by decide +kernel
theorem w_applies : (headSpec (Jvm.Cond.code x code maxLocals ret :: tables_1) room_1).applies x e0.platform about1 = true :=
  (Spec.applies_iff w_frames).mpr ⟨w_running, w_runnable, w_alone, w_named, w_hears, w_ripe, w_room, w_tables⟩
theorem atStart : AtStart classFile x code maxLocals ret World_1 tables_1 room_1 Calls_1 rest_1 Pre_1 launch0 p0 e0 about1 theMethod args0 below0 :=
  ⟨lists_1, trivial, launch0.admits_env _ _ _, launch0.least_env, fairChoices_fair.cas, fairChoices_fair.clock, w_frames, w_args, w_heap, w_applies, trivial, w_rest, w_case⟩
end start1
theorem witness_1 : WitnessClaimed_1 := ⟨start1.p0, start1.e0, start1.about1, start1.theMethod, start1.args0, start1.below0, start1.atStart⟩
end Jvm.Pilot.@@N@@
