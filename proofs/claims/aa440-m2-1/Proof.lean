import JvmDerived
import JvmDerived.Pilot.@@N@@Statement
import JvmDerived.Pilot.@@N@@Code
set_option linter.unusedVariables false
set_option linter.unusedSimpArgs false
namespace Jvm.Pilot.@@N@@
open Jvm Jvm.ClassFile Sem Op Lib Jvm.Free Jvm.Stand Jvm.LawKit Jvm.RoadKit Bundle Jvm.Pilot.@@N@@.Jvm.D
section Own
variable {p : Program} {l : Launch} {e : Env} {R : Room} {s : State} {m : MethodId} {args : Array Value} {below : List Frame} {meth : Method} {c : Code} {T : State} {locs : List Loc} {cells slots : Nat} {Z : State} {a0 : Array Value} {h : Heap}
theorem wd (hw : ∀ d ∈ tables_1, d.before a0 Z = true) (k : Nat) {d : Jvm.Cond} (q : tables_1[k]? = some d) : d.before a0 Z = true := hw d (List.mem_of_getElem? q)
theorem old_sz {n0 : Nat} (O : Old Z n0 h) : n0 ≤ h.size := O.1 ▸ O.2.1
/-- what is left to show from the state t on -/
def Run (p : Program) (e : Env) (below : List Frame) (A : Outcome → State → Prop) (t : State) : Prop := ∃ u o, Steps p.tables e below t u ∧ u.status = .running ∧ Ended u below o ∧ A o u
theorem go {A : Outcome → State → Prop} {t t' : State} (st : ∀ u, Steps p.tables e below t' u → Steps p.tables e below t u) (k : Run p e below A t') : Run p e below A t := by
  obtain ⟨u, o, k1, k2⟩ := k
  exact ⟨u, o, st u k1, k2⟩
theorem goT {A : Outcome → State → Prop} {t t' : State} (st : Steps p.tables e below t t') (k : Run p e below A t') : Run p e below A t := by
  obtain ⟨u, o, k1, k2⟩ := k
  exact ⟨u, o, st.trans k1, k2⟩
def Ends (s : State) (Q : Option Value → Heap → List Loc → Prop) (k n : Nat) (o : Outcome) (U : State) : Prop := ∃ v L, o = .returned v ∧ Q v U.heap L ∧ FrameEnd s o U L k n
def Meets (l : Launch) (y : MethodName) (bytes : ByteArray) (maxL : Nat) (ret : Option FieldType) (ws : List Jvm.Cond) (rm : Room) (Z : State) (as' : Array Value) (h0 : Heap) (Q : Option Value → Heap → List Loc → Prop) (k n : Nat) : Prop :=
  MetFree l y (head1 (Jvm.Cond.code y bytes maxL ret :: ws) rm) (fun a U => a = as' ∧ Z.Warmed39 U.vm ∧ U.heap = h0) (fun _ _ _ _ _ => True) (fun _ U o U' => ∃ v L, o = .returned v ∧ Q v U'.heap L ∧ FrameEnd U o U' L k n)
theorem enter {y : MethodName} {bytes : ByteArray} {maxL : Nat} {ret : Option FieldType} {ws : List Jvm.Cond} {rm : Room} {as' : Array Value} {h0 : Heap} {Q : Option Value → Heap → List Loc → Prop} {k n : Nat} {Ls : Array Slot} (pf : plainFor y = true) (ef : ∀ m, entryFrame m as' maxL = mkF m 0 Ls [])
    (body : ∀ (p : Program) (e : Env) (s : State) (m : MethodId) (below : List Frame) (meth : Method) (c : Code) (T : State), p.tables.exec = Jvm.exec → c.code = bytes → c.maxLocals = maxL → s.vm.findClass y.cls = some m.cls → meth.name = y.name → meth.sig.returnType = ret → meth.locks = false → Z.Warmed39 s.vm → Stand p l e rm s m as' below meth c T [] 0 0 → T.heap = h0 → Run p e below (Ends s Q k n) (T.setTop (mkF m 0 Ls []))) :
    Meets l y bytes maxL ret ws rm Z as' h0 Q k n := by
  refine MetFree.of_bodySF pf hisR ?_
  intro p e s m args below meth c s₁ Bd hml0 hP hK
  obtain ⟨rfl, hZ, hh⟩ := hP
  obtain ⟨u, o, k1, k2, k3, k4⟩ := body p e s m below meth c s₁ Bd.exec Bd.bytes hml0 (findClass_of_methodNamed Bd.named) (name_of_methodNamed Bd.named Bd.method).1 Bd.returns (BodyLoose.notSynchronized Bd) hZ (Stand.of_body Bd) (by rw [← hh, Bd.state]; rfl)
  exact ⟨u, o, castTop (ef m) k1, k2, k3, k4⟩
theorem smono (X : Stand p l e R s m args below meth c T locs cells slots) {k n : Nat} (hk : cells ≤ k) (hn : slots ≤ n) : Stand p l e R s m args below meth c T locs k n :=
  ⟨X.admits, X.cas, X.clock, X.frames, X.room, X.hears, X.method, X.code, X.here, X.tail, X.warmed, X.limits, X.bytes, X.same.mono hk hn⟩
theorem retI (X : Stand p l e R s m args below meth c T locs cells slots) (hx : p.tables.exec = Jvm.exec) {pc : Nat} {Ls : Array Slot} {z : Int32} {rest : List Value} (hret : meth.sig.returnType = some .int) (hd : decode c.code pc = .ok (.ireturn, 1)) {fs : List Frame}
    (hl : ∀ (f : JFrame) (acts : List Action), f.method = m → f.locked = none → f.entered = [] → (doReturn e (T.setTop f) acts (some (.int z))).1 = T.setFrames fs) : Steps p.tables e below (T.setTop (mkF m pc Ls (.int z :: rest))) (T.setFrames fs) :=
  retOut X hx hret rfl (Or.inl ⟨rfl, Or.inl rfl, _, rfl⟩) hd hl
theorem endI (X : Stand p l e R s m args below meth c T locs cells slots) (hx : p.tables.exec = Jvm.exec) (hlk : meth.locks = false) {Q : Option Value → Heap → List Loc → Prop} {k n pc : Nat} {Ls : Array Slot} {z : Int32} {rest : List Value} (hret : meth.sig.returnType = some .int) (hd : decode c.code pc = .ok (.ireturn, 1)) (hq : Q (some (.int z)) T.heap locs) (hk : cells ≤ k) (hn : slots ≤ n) :
    Run p e below (Ends s Q k n) (T.setTop (mkF m pc Ls (.int z :: rest))) := by
  obtain ⟨fs, hr, hrun, hended, hW, hsame⟩ := X.leave (v := some (.int z)) (fun h => by rw [hret] at h; cases h) hlk
  exact ⟨_, _, retI X hx hret hd hr, hrun, hended, _, _, rfl, hq, ⟨_, rfl⟩, hW, hsame.mono hk hn⟩
theorem endN (X : Stand p l e R s m args below meth c T locs cells slots) (hx : p.tables.exec = Jvm.exec) (hlk : meth.locks = false) {Q : Option Value → Heap → List Loc → Prop} {k n pc : Nat} {Ls : Array Slot} {z : Int32} {rest : List Value} {t : FieldType} (hret : meth.sig.returnType = some t) (ht : t = .boolean ∨ t = .byte ∨ t = .char ∨ t = .short) (hd : decode c.code pc = .ok (.ireturn, 1)) (hq : Q (some (.int (nar t z))) T.heap locs) (hk : cells ≤ k) (hn : slots ≤ n) :
    Run p e below (Ends s Q k n) (T.setTop (mkF m pc Ls (.int z :: rest))) := by
  obtain ⟨fs, hr, hrun, hended, hW, hsame⟩ := X.leave (v := some (.int (nar t z))) (fun h => by rw [hret] at h; cases h) hlk
  exact ⟨_, _, retN X hx hret ht hd hr, hrun, hended, _, _, rfl, hq, ⟨_, rfl⟩, hW, hsame.mono hk hn⟩
theorem endA (X : Stand p l e R s m args below meth c T locs cells slots) (hx : p.tables.exec = Jvm.exec) (hlk : meth.locks = false) {Q : Option Value → Heap → List Loc → Prop} {k n pc : Nat} {Ls : Array Slot} {w : Value} {rest : List Value} {t : FieldType} (hret : meth.sig.returnType = some t) (ht : t.isReference = true) (hv : w.isRef = true) (hd : decode c.code pc = .ok (.areturn, 1)) (hq : Q (some w) T.heap locs) (hk : cells ≤ k) (hn : slots ≤ n) :
    Run p e below (Ends s Q k n) (T.setTop (mkF m pc Ls (w :: rest))) := by
  obtain ⟨fs, hr, hrun, hended, hW, hsame⟩ := X.leave (v := some w) (fun h => by rw [hret] at h; cases h) hlk
  have hn' : narrow t w = w := by cases w <;> first | (cases hv; done) | (cases t <;> first | rfl | (cases ht; done))
  exact ⟨_, _, retOut X hx hret hn' (Or.inr (Or.inr (Or.inr (Or.inr ⟨rfl, ht, hv⟩)))) hd hr, hrun, hended, _, _, rfl, hq, ⟨_, rfl⟩, hW, hsame.mono hk hn⟩
theorem endJ (X : Stand p l e R s m args below meth c T locs cells slots) (hx : p.tables.exec = Jvm.exec) (hlk : meth.locks = false) {Q : Option Value → Heap → List Loc → Prop} {k n pc : Nat} {Ls : Array Slot} {z : Int64} {rest : List Value} (hret : meth.sig.returnType = some .long) (hd : decode c.code pc = .ok (.lreturn, 1)) (hq : Q (some (.long z)) T.heap locs) (hk : cells ≤ k) (hn : slots ≤ n) :
    Run p e below (Ends s Q k n) (T.setTop (mkF m pc Ls (.long z :: rest))) := by
  obtain ⟨fs, hr, hrun, hended, hW, hsame⟩ := X.leave (v := some (.long z)) (fun h => by rw [hret] at h; cases h) hlk
  exact ⟨_, _, retOut X hx hret rfl (Or.inr (Or.inl ⟨rfl, rfl, _, rfl⟩)) hd hr, hrun, hended, _, _, rfl, hq, ⟨_, rfl⟩, hW, hsame.mono hk hn⟩
theorem endD (X : Stand p l e R s m args below meth c T locs cells slots) (hx : p.tables.exec = Jvm.exec) (hlk : meth.locks = false) {Q : Option Value → Heap → List Loc → Prop} {k n pc : Nat} {Ls : Array Slot} {z : UInt64} {rest : List Value} (hret : meth.sig.returnType = some .double) (hd : decode c.code pc = .ok (.dreturn, 1)) (hq : Q (some (.double z)) T.heap locs) (hk : cells ≤ k) (hn : slots ≤ n) :
    Run p e below (Ends s Q k n) (T.setTop (mkF m pc Ls (.double z :: rest))) := by
  obtain ⟨fs, hr, hrun, hended, hW, hsame⟩ := X.leave (v := some (.double z)) (fun h => by rw [hret] at h; cases h) hlk
  exact ⟨_, _, retOut X hx hret rfl (Or.inr (Or.inr (Or.inl ⟨rfl, rfl, _, rfl⟩))) hd hr, hrun, hended, _, _, rfl, hq, ⟨_, rfl⟩, hW, hsame.mono hk hn⟩
theorem endV (X : Stand p l e R s m args below meth c T locs cells slots) (hx : p.tables.exec = Jvm.exec) (hlk : meth.locks = false) {Q : Option Value → Heap → List Loc → Prop} {k n pc : Nat} {Ls : Array Slot} (hret : meth.sig.returnType = none) (hd : decode c.code pc = .ok (.return_, 1)) (hq : Q none T.heap locs) (hk : cells ≤ k) (hn : slots ≤ n) :
    Run p e below (Ends s Q k n) (T.setTop (mkF m pc Ls [])) := by
  obtain ⟨fs, hr, hrun, hended, hW, hsame⟩ := X.leave (v := none) (fun _ => rfl) hlk
  exact ⟨_, _, X.returnOut hx hret hd hr, hrun, hended, _, _, rfl, hq, ⟨_, rfl⟩, hW, hsame.mono hk hn⟩
abbrev Pay (l : Launch) (R : Room) (p : Program) (e : Env) (below : List Frame) (s : State) (args : Array Value) (y : MethodName) (len W : Nat) (as' : Array Value) (h : Heap) (Q : Option Value → Heap → List Loc → Prop) (rc rs : Nat) : Prop :=
  Back l R p e below s args y len W (fun A a => a = as' ∧ A.U.heap = h ∧ A.cells + rc ≤ R.cells ∧ A.slots + rs ≤ R.slots) (fun A _ v B => ∃ L, Q v B.U.heap L ∧ B.locs = A.locs ++ L ∧ B.cells = A.cells + rc ∧ B.slots = A.slots + rs)
theorem Pay.more {y : MethodName} {len W rc rs rs' : Nat} {as' : Array Value} {Q : Option Value → Heap → List Loc → Prop} (hK : Pay l R p e below s args y len W as' h Q rc rs) (q : rs ≤ rs') : Pay l R p e below s args y len W as' h Q rc rs' := fun m meth c A g ig mk a X hg hsz hd hW hn hp => by
  obtain ⟨v, B, X', ⟨L, q1, q2, q3, q4⟩, st⟩ := hK m meth c A g ig mk a X hg hsz hd hW hn ⟨hp.1, hp.2.1, hp.2.2.1, Nat.le_trans (Nat.add_le_add_left q _) hp.2.2.2⟩
  exact ⟨v, (B.U, B.locs, B.cells, A.slots + rs'), smono X' (Nat.le_refl _) (by rw [q4]; exact Nat.add_le_add_left q _), ⟨L, q1, q2, q3, rfl⟩, st⟩
theorem narR {v : Value} {C : String} (h : v.isRef = true) : narrow (.object C) v = v := by cases v <;> first | rfl | (cases h; done)
theorem fitR {v : Value} {C : String} (h : v.isRef = true) : fits (.object C) v = true := by cases v <;> first | rfl | (cases h; done)
theorem callSt (X : Stand p l e R s m args below meth c T locs cells slots) (hx : p.tables.exec = Jvm.exec) (hZ : Z.Warmed39 s.vm) {own : String} {index : Nat} {y : MethodName} {bytes : ByteArray} {maxL : Nat} {ret : Option FieldType} {rm : Room} {Q : Option Value → Heap → List Loc → Prop} (hown : s.vm.findClass own = some m.cls)
    (w1 : (Jvm.Cond.methodLink own index y).before a0 Z = true) (w2 : (Jvm.Cond.static y).before a0 Z = true) (w3 : (Jvm.Cond.initialized y.cls).before a0 Z = true) (w4 : (Jvm.Cond.code y bytes maxL ret).before a0 Z = true) (hy : y.cls ≠ "java/lang/invoke/MethodHandle" ∧ y.cls ≠ "java/lang/invoke/VarHandle") (eT : T.heap = h) {argsL rest : List Value}
    (hM : Meets l y bytes maxL ret [] rm Z argsL.toArray h Q rm.cells rm.slots) {W : Nat} (hf : rm.frames + 1 ≤ R.frames) (hl : W + (maxL + 11) + rm.locals ≤ R.locals) (hc : cells + rm.cells ≤ R.cells) (hn : slots + rm.slots ≤ R.slots)
    {pc : Nat} {Ls : Array Slot} {st : List Value} (hsize : Ls.size = c.maxLocals) (hlen : ∀ sig, parseMethodDescriptor y.desc = some sig → argsL.length = sig.parameters.length) (hst : st = argsL.reverse ++ rest) (hW : (rest.map fun v => v.category).sum ≤ W) (hd : decode c.code pc = .ok (.invokestatic index, 3)) {A : Outcome → State → Prop}
    (kk : ∀ (v : Option Value) (T' : State) (L : List Loc) (h' : Heap), Stand p l e R s m args below meth c T' (locs ++ L) (cells + rm.cells) (slots + rm.slots) → T'.heap = h' → Q v h' L → Run p e below A (T'.setTop (mkF m (pc + 3) Ls (v.toList ++ rest)))) : Run p e below A (T.setTop (mkF m pc Ls st)) := by
  obtain ⟨v, _, ⟨T18, L18, k18, n18⟩, -, X18, ⟨Lc18, hQ18, l18, y18, z18⟩, st18⟩ := Jvm.LawKit.callS X hx hown (mvT hZ w1) (mvT hZ w2) (mvT hZ w3) (mvT hZ w4) hy (backOf (W := W) hM hZ w4 w3 hf hl) (g := mkF m pc Ls st) rfl hsize (argsL := argsL) (rest := rest) hlen hst (by show 2 * 0 + _ ≤ _; omega) hd (fun _ _ => ⟨rfl, eT, hc, hn⟩)
  dsimp only [Pt.U, Pt.locs, Pt.cells, Pt.slots] at X18 l18 y18 z18 st18 hQ18
  subst l18 y18 z18
  exact go st18 (kk v _ _ _ X18 rfl hQ18)
theorem callVi (X : Stand p l e R s m args below meth c T locs cells slots) (hx : p.tables.exec = Jvm.exec) (hZ : Z.Warmed39 s.vm) {own C : String} {index : Nat} {y z : MethodName} {bytes : ByteArray} {maxL : Nat} {ret : Option FieldType} {rm : Room} {Q : Option Value → Heap → List Loc → Prop} (hown : s.vm.findClass own = some m.cls)
    (w1 : (Jvm.Cond.methodLink own index y).before a0 Z = true) (w2 : (Jvm.Cond.declares y).before a0 Z = true) (nf : NotFace s y) (w5 : (Jvm.Cond.selects C y z).before a0 Z = true) (w6 : (Jvm.Cond.instanceMethod z).before a0 Z = true) (w4 : (Jvm.Cond.code z bytes maxL ret).before a0 Z = true) (w3 : (Jvm.Cond.initialized z.cls).before a0 Z = true) (hy : y.cls ≠ "java/lang/invoke/MethodHandle" ∧ y.cls ≠ "java/lang/invoke/VarHandle") (eT : T.heap = h) {a : Addr} (E : Exa Z h a C) {argsL rest : List Value}
    (hM : Meets l z bytes maxL ret [] rm Z (.ref a :: argsL).toArray h Q rm.cells rm.slots) {W : Nat} (hf : rm.frames + 1 ≤ R.frames) (hl : W + (maxL + 11) + rm.locals ≤ R.locals) (hc : cells + rm.cells ≤ R.cells) (hn : slots + rm.slots ≤ R.slots)
    {pc : Nat} {Ls : Array Slot} {st : List Value} (hsize : Ls.size = c.maxLocals) (hlen : ∀ sig, parseMethodDescriptor y.desc = some sig → argsL.length = sig.parameters.length) (hst : st = argsL.reverse ++ .ref a :: rest) (hW : (rest.map fun v => v.category).sum ≤ W) (hd : decode c.code pc = .ok (.invokevirtual index, 3)) {A : Outcome → State → Prop}
    (kk : ∀ (v : Option Value) (T' : State) (L : List Loc) (h' : Heap), Stand p l e R s m args below meth c T' (locs ++ L) (cells + rm.cells) (slots + rm.slots) → T'.heap = h' → Q v h' L → Run p e below A (T'.setTop (mkF m (pc + 3) Ls (v.toList ++ rest)))) : Run p e below A (T.setTop (mkF m pc Ls st)) := by
  obtain ⟨cq, kq, qa, qb, qc⟩ := isOf hZ eT E
  obtain ⟨v, _, ⟨T18, L18, k18, n18⟩, -, X18, ⟨Lc18, hQ18, l18, y18, z18⟩, st18⟩ := X.virtualBack hx (y := y) (z := z) hown (mvT hZ w1) (mvT hZ w2) nf (mvT hZ w5) (mvT hZ w6) hy (backOf (W := W) hM hZ w4 w3 hf hl) qa qc (g := mkF m pc Ls st) rfl hsize (Steps.refl _) (argsL := argsL) (rest := rest) hlen hst (by show 2 * 0 + _ ≤ _; omega) hd (fun _ _ => ⟨rfl, eT, hc, hn⟩)
  dsimp only [Pt.U, Pt.locs, Pt.cells, Pt.slots] at X18 l18 y18 z18 st18 hQ18
  subst l18 y18 z18
  exact goT st18 (kk v _ _ _ X18 rfl hQ18)
theorem callSp (X : Stand p l e R s m args below meth c T locs cells slots) (hx : p.tables.exec = Jvm.exec) (hZ : Z.Warmed39 s.vm) {own : String} {index : Nat} {y : MethodName} (hy1 : y.name = "<init>") {bytes : ByteArray} {maxL : Nat} {rm : Room} {Q : Option Value → Heap → List Loc → Prop} (hown : s.vm.findClass own = some m.cls)
    (w1 : (Jvm.Cond.methodLink own index y).before a0 Z = true) (w6 : (Jvm.Cond.instanceMethod y).before a0 Z = true) (w4 : (Jvm.Cond.code y bytes maxL none).before a0 Z = true) (w3 : (Jvm.Cond.initialized y.cls).before a0 Z = true) (hy : y.cls ≠ "java/lang/invoke/MethodHandle" ∧ y.cls ≠ "java/lang/invoke/VarHandle") (eT : T.heap = h) {a : Addr} {argsL rest : List Value}
    (hM : Meets l y bytes maxL none [] rm Z (.ref a :: argsL).toArray h Q rm.cells rm.slots) {W : Nat} (hf : rm.frames + 1 ≤ R.frames) (hl : W + (maxL + 11) + rm.locals ≤ R.locals) (hc : cells + rm.cells ≤ R.cells) (hn : slots + rm.slots ≤ R.slots)
    {pc : Nat} {Ls : Array Slot} {st : List Value} (hsize : Ls.size = c.maxLocals) (hlen : ∀ sig, parseMethodDescriptor y.desc = some sig → argsL.length = sig.parameters.length) (hst : st = argsL.reverse ++ .ref a :: rest) (hW : (rest.map fun v => v.category).sum ≤ W) (hd : decode c.code pc = .ok (.invokespecial index, 3)) {A : Outcome → State → Prop}
    (kk : ∀ (v : Option Value) (T' : State) (L : List Loc) (h' : Heap), Stand p l e R s m args below meth c T' (locs ++ L) (cells + rm.cells) (slots + rm.slots) → T'.heap = h' → Q v h' L → Run p e below A (T'.setTop (mkF m (pc + 3) Ls (v.toList ++ rest)))) : Run p e below A (T.setTop (mkF m pc Ls st)) := by
  obtain ⟨v, _, ⟨T18, L18, k18, n18⟩, -, X18, ⟨Lc18, hQ18, l18, y18, z18⟩, st18⟩ := X.specialBack hx (y := y) hy1 hown (mvT hZ w1) (mvT hZ w6) (mvT hZ w4) hy (backOf (W := W) hM hZ w4 w3 hf hl) (g := mkF m pc Ls st) rfl hsize (Steps.refl _) (a := a) (argsL := argsL) (rest := rest) hlen hst (by show 2 * 0 + _ ≤ _; omega) hd (fun _ _ => ⟨rfl, eT, hc, hn⟩)
  dsimp only [Pt.U, Pt.locs, Pt.cells, Pt.slots] at X18 l18 y18 z18 st18 hQ18
  subst l18 y18 z18
  exact goT st18 (kk v _ _ _ X18 rfl hQ18)
theorem callPr (X : Stand p l e R s m args below meth c T locs cells slots) (hx : p.tables.exec = Jvm.exec) (hZ : Z.Warmed39 s.vm) {own C : String} {index : Nat} {y : MethodName} {bytes : ByteArray} {maxL : Nat} {ret : Option FieldType} {rm : Room} {Q : Option Value → Heap → List Loc → Prop} (hown : s.vm.findClass own = some m.cls)
    (w1 : (Jvm.Cond.methodLink own index y).before a0 Z = true) (w2 : (Jvm.Cond.privateMethod y).before a0 Z = true) (w5 : (Jvm.Cond.selects y.cls y y).before a0 Z = true) (w6 : (Jvm.Cond.instanceMethod y).before a0 Z = true) (w4 : (Jvm.Cond.code y bytes maxL ret).before a0 Z = true) (w3 : (Jvm.Cond.initialized y.cls).before a0 Z = true) (hy : y.cls ≠ "java/lang/invoke/MethodHandle" ∧ y.cls ≠ "java/lang/invoke/VarHandle") (eT : T.heap = h) {a : Addr} (E : Exa Z h a C) {argsL rest : List Value}
    (hM : Meets l y bytes maxL ret [] rm Z (.ref a :: argsL).toArray h Q rm.cells rm.slots) {W : Nat} (hf : rm.frames + 1 ≤ R.frames) (hl : W + (maxL + 11) + rm.locals ≤ R.locals) (hc : cells + rm.cells ≤ R.cells) (hn : slots + rm.slots ≤ R.slots)
    {pc : Nat} {Ls : Array Slot} {st : List Value} (hsize : Ls.size = c.maxLocals) (hlen : ∀ sig, parseMethodDescriptor y.desc = some sig → argsL.length = sig.parameters.length) (hst : st = argsL.reverse ++ .ref a :: rest) (hW : (rest.map fun v => v.category).sum ≤ W) (hd : decode c.code pc = .ok (.invokevirtual index, 3)) {A : Outcome → State → Prop}
    (kk : ∀ (v : Option Value) (T' : State) (L : List Loc) (h' : Heap), Stand p l e R s m args below meth c T' (locs ++ L) (cells + rm.cells) (slots + rm.slots) → T'.heap = h' → Q v h' L → Run p e below A (T'.setTop (mkF m (pc + 3) Ls (v.toList ++ rest)))) : Run p e below A (T.setTop (mkF m pc Ls st)) := by
  obtain ⟨cl, hcl, hob⟩ := Exa.cell E
  obtain ⟨v, _, ⟨T18, L18, k18, n18⟩, -, X18, ⟨Lc18, hQ18, l18, y18, z18⟩, st18⟩ := X.privateBack hx (y := y) hown (mvT hZ w1) (mvT hZ w6) (mvT hZ w5) (Cond.privateMethod_at (mvP hZ w2 (args := #[]))) (mvT hZ w4) hy (backOf (W := W) hM hZ w4 w3 hf hl) (g := mkF m pc Ls st) rfl hsize (Steps.refl _) (a := a) (by rw [eT]; exact hcl) hob (argsL := argsL) (rest := rest) hlen hst (by show 2 * 0 + _ ≤ _; omega) hd (fun _ _ => ⟨rfl, eT, hc, hn⟩)
  dsimp only [Pt.U, Pt.locs, Pt.cells, Pt.slots] at X18 l18 y18 z18 st18 hQ18
  subst l18 y18 z18
  exact goT st18 (kk v _ _ _ X18 rfl hQ18)
theorem callIf (X : Stand p l e R s m args below meth c T locs cells slots) (hx : p.tables.exec = Jvm.exec) (hZ : Z.Warmed39 s.vm) {own C : String} {index count : Nat} {y z : MethodName} {bytes : ByteArray} {maxL : Nat} {ret : Option FieldType} {rm : Room} {Q : Option Value → Heap → List Loc → Prop} (hown : s.vm.findClass own = some m.cls)
    (w1 : (Jvm.Cond.methodLink own index y).before a0 Z = true) (w2 : (Jvm.Cond.declares y).before a0 Z = true) (w7 : (Jvm.Cond.interfaceMethod y.cls y.cls y.name y.desc).before a0 Z = true) (k7 : ((Jvm.Cond.interfaceMethod y.cls y.cls y.name y.desc).onTables && (Jvm.Cond.interfaceMethod y.cls y.cls y.name y.desc).keepsFace) = true) (w5 : (Jvm.Cond.selects C y z).before a0 Z = true) (w6 : (Jvm.Cond.instanceMethod z).before a0 Z = true) (w8 : (Jvm.Cond.publicMethod z).before a0 Z = true) (w9 : (Jvm.Cond.unhidden C y.name y.desc).before a0 Z = true) (w10 : (Jvm.Cond.castable C y.cls).before a0 Z = true)
    (w4 : (Jvm.Cond.code z bytes maxL ret).before a0 Z = true) (w3 : (Jvm.Cond.initialized z.cls).before a0 Z = true) (hy : y.cls ≠ "java/lang/invoke/MethodHandle" ∧ y.cls ≠ "java/lang/invoke/VarHandle") (eT : T.heap = h) {a : Addr} (E : Exa Z h a C) {argsL rest : List Value}
    (hM : Meets l z bytes maxL ret [] rm Z (.ref a :: argsL).toArray h Q rm.cells rm.slots) {W : Nat} (hf : rm.frames + 1 ≤ R.frames) (hl : W + (maxL + 11) + rm.locals ≤ R.locals) (hc : cells + rm.cells ≤ R.cells) (hn : slots + rm.slots ≤ R.slots)
    {pc : Nat} {Ls : Array Slot} {st : List Value} (hsize : Ls.size = c.maxLocals) (hlen : ∀ sig, parseMethodDescriptor y.desc = some sig → argsL.length = sig.parameters.length) (hst : st = argsL.reverse ++ .ref a :: rest) (hW : (rest.map fun v => v.category).sum ≤ W) (hd : decode c.code pc = .ok (.invokeinterface index count, 5)) {A : Outcome → State → Prop}
    (kk : ∀ (v : Option Value) (T' : State) (L : List Loc) (h' : Heap), Stand p l e R s m args below meth c T' (locs ++ L) (cells + rm.cells) (slots + rm.slots) → T'.heap = h' → Q v h' L → Run p e below A (T'.setTop (mkF m (pc + 5) Ls (v.toList ++ rest)))) : Run p e below A (T.setTop (mkF m pc Ls st)) := by
  obtain ⟨cq, kq, qa, qb, qc⟩ := isOf hZ eT E
  obtain ⟨v, _, ⟨T18, L18, k18, n18⟩, -, X18, ⟨Lc18, hQ18, l18, y18, z18⟩, st18⟩ := X.interfaceBack hx (xi := y) (y := z) hown (mvT hZ w1) (mvT hZ w2) (mvT hZ w7 k7) (mvT hZ w5) (mvT hZ w6) (mvT hZ w8) (mvT hZ w9) (mvT hZ w10) hy (backOf (W := W) hM hZ w4 w3 hf hl) qa qb qc (g := mkF m pc Ls st) rfl hsize (Steps.refl _) (argsL := argsL) (rest := rest) hlen hst (by show 2 * 0 + _ ≤ _; omega) hd (fun _ _ => ⟨rfl, eT, hc, hn⟩)
  dsimp only [Pt.U, Pt.locs, Pt.cells, Pt.slots] at X18 l18 y18 z18 st18 hQ18
  subst l18 y18 z18
  exact goT st18 (kk v _ _ _ X18 rfl hQ18)
theorem callViK (X : Stand p l e R s m args below meth c T locs cells slots) (hx : p.tables.exec = Jvm.exec) (hZ : Z.Warmed39 s.vm) {own C : String} {index : Nat} {y z : MethodName} {Q : Option Value → Heap → List Loc → Prop} (hown : s.vm.findClass own = some m.cls)
    (w1 : (Jvm.Cond.methodLink own index y).before a0 Z = true) (w2 : (Jvm.Cond.declares y).before a0 Z = true) (nf : NotFace s y) (w5 : (Jvm.Cond.selects C y z).before a0 Z = true) (w6 : (Jvm.Cond.instanceMethod z).before a0 Z = true) (hy : y.cls ≠ "java/lang/invoke/MethodHandle" ∧ y.cls ≠ "java/lang/invoke/VarHandle") (eT : T.heap = h) {a : Addr} (E : Exa Z h a C) {argsL rest : List Value}
    {rc rs W : Nat} (hK : Pay l R p e below s args z 3 W (.ref a :: argsL).toArray h Q rc rs) (hc : cells + rc ≤ R.cells) (hn : slots + rs ≤ R.slots)
    {pc : Nat} {Ls : Array Slot} {st : List Value} (hsize : Ls.size = c.maxLocals) (hlen : ∀ sig, parseMethodDescriptor y.desc = some sig → argsL.length = sig.parameters.length) (hst : st = argsL.reverse ++ .ref a :: rest) (hW : (rest.map fun v => v.category).sum ≤ W) (hd : decode c.code pc = .ok (.invokevirtual index, 3)) {A : Outcome → State → Prop}
    (kk : ∀ (v : Option Value) (T' : State) (L : List Loc) (h' : Heap), Stand p l e R s m args below meth c T' (locs ++ L) (cells + rc) (slots + rs) → T'.heap = h' → Q v h' L → Run p e below A (T'.setTop (mkF m (pc + 3) Ls (v.toList ++ rest)))) : Run p e below A (T.setTop (mkF m pc Ls st)) := by
  obtain ⟨cq, kq, qa, qb, qc⟩ := isOf hZ eT E
  obtain ⟨v, _, ⟨T18, L18, k18, n18⟩, -, X18, ⟨Lc18, hQ18, l18, y18, z18⟩, st18⟩ := X.virtualBack hx (y := y) (z := z) hown (mvT hZ w1) (mvT hZ w2) nf (mvT hZ w5) (mvT hZ w6) hy hK qa qc (g := mkF m pc Ls st) rfl hsize (Steps.refl _) (argsL := argsL) (rest := rest) hlen hst (by show 2 * 0 + _ ≤ _; omega) hd (fun _ _ => ⟨rfl, eT, hc, hn⟩)
  dsimp only [Pt.U, Pt.locs, Pt.cells, Pt.slots] at X18 l18 y18 z18 st18 hQ18
  subst l18 y18 z18
  exact goT st18 (kk v _ _ _ X18 rfl hQ18)
theorem callSpK (X : Stand p l e R s m args below meth c T locs cells slots) (hx : p.tables.exec = Jvm.exec) (hZ : Z.Warmed39 s.vm) {own : String} {index : Nat} {y : MethodName} (hy1 : y.name = "<init>") {bytes : ByteArray} {maxL : Nat} {Q : Option Value → Heap → List Loc → Prop} (hown : s.vm.findClass own = some m.cls)
    (w1 : (Jvm.Cond.methodLink own index y).before a0 Z = true) (w6 : (Jvm.Cond.instanceMethod y).before a0 Z = true) (w4 : (Jvm.Cond.code y bytes maxL none).before a0 Z = true) (hy : y.cls ≠ "java/lang/invoke/MethodHandle" ∧ y.cls ≠ "java/lang/invoke/VarHandle") (eT : T.heap = h) {a : Addr} {argsL rest : List Value}
    {rc rs W : Nat} (hK : Pay l R p e below s args y 3 W (.ref a :: argsL).toArray h Q rc rs) (hc : cells + rc ≤ R.cells) (hn : slots + rs ≤ R.slots)
    {pc : Nat} {Ls : Array Slot} {st : List Value} (hsize : Ls.size = c.maxLocals) (hlen : ∀ sig, parseMethodDescriptor y.desc = some sig → argsL.length = sig.parameters.length) (hst : st = argsL.reverse ++ .ref a :: rest) (hW : (rest.map fun v => v.category).sum ≤ W) (hd : decode c.code pc = .ok (.invokespecial index, 3)) {A : Outcome → State → Prop}
    (kk : ∀ (v : Option Value) (T' : State) (L : List Loc) (h' : Heap), Stand p l e R s m args below meth c T' (locs ++ L) (cells + rc) (slots + rs) → T'.heap = h' → Q v h' L → Run p e below A (T'.setTop (mkF m (pc + 3) Ls (v.toList ++ rest)))) : Run p e below A (T.setTop (mkF m pc Ls st)) := by
  obtain ⟨v, _, ⟨T18, L18, k18, n18⟩, -, X18, ⟨Lc18, hQ18, l18, y18, z18⟩, st18⟩ := X.specialBack hx (y := y) hy1 hown (mvT hZ w1) (mvT hZ w6) (mvT hZ w4) hy hK (g := mkF m pc Ls st) rfl hsize (Steps.refl _) (a := a) (argsL := argsL) (rest := rest) hlen hst (by show 2 * 0 + _ ≤ _; omega) hd (fun _ _ => ⟨rfl, eT, hc, hn⟩)
  dsimp only [Pt.U, Pt.locs, Pt.cells, Pt.slots] at X18 l18 y18 z18 st18 hQ18
  subst l18 y18 z18
  exact goT st18 (kk v _ _ _ X18 rfl hQ18)
/-- no subclass, by the words of the one's superclasses and of the other's 'instantiable' -/
theorem ns_root {O K : String} {n : Nat} (w : (Jvm.Cond.noSuperclass O).before a0 Z = true) (wk : (Jvm.Cond.instantiable K n).before a0 Z = true) (hn : O ≠ K) : NS Z O K := by
  obtain ⟨c, k, h1, h2, h3, -, -⟩ := Cond.noSuperclass_spec w
  obtain ⟨t, kt, g1, -⟩ := Cond.instantiable_spec wk
  have ne := ids_ne h1 g1 hn
  refine ⟨c, t, h1, g1, fun fuel => ?_⟩
  cases fuel with
  | zero => rfl
  | succ f => simp [Vm.isSubclassAux, ne, h2, h3]
theorem ns_no {C S K : String} {n : Nat} (w : (Jvm.Cond.superclass C S).before a0 Z = true) (wk : (Jvm.Cond.instantiable K n).before a0 Z = true) (q : NS Z C K) (hn : C ≠ K) : ∃ c t, Z.vm.findClass C = some c ∧ Z.vm.findClass K = some t ∧ Z.vm.assignable c t = false := by
  obtain ⟨c, t, h0, g0, n3⟩ := q
  obtain ⟨p, k, kp, h1, h2, h3, h4, h5, -, h7⟩ := Cond.superclass_spec h0 w
  obtain ⟨t', kt, g1, g2, g3, g4, -⟩ := Cond.instantiable_spec wk
  cases g0.symm.trans g1
  have ne := ids_ne h0 g0 hn
  have g5 : kt.isInterface = false := by
    cases hi : kt.isInterface with
    | false => rfl
    | true => simp [hi] at g4
  refine ⟨c, t, h0, g0, ?_⟩
  show Z.vm.assignableAux (255 + 1) c t = false
  simp [Vm.assignableAux, ne, h2, g2, h5, g3, g5, Vm.isSubclass, n3]
/-- a static that holds an object of one class, out of the case's words -/
theorem sta_exa {C n d K : String} (w1 : (Jvm.Cond.initialized C).before a0 Z = true) (w2 : (Jvm.Cond.laysStatic C n d).before a0 Z = true) (hx : (Jvm.Cond.exactly (Jvm.Term.static C n d) K).value a0 Z none Z [] = some true) :
    ∃ a, (Jvm.Term.static C n d).eval a0 Z none [] Z = some (.ref a) ∧ Sta Z Z.heap C n d (.ref a) ∧ Exa Z Z.heap a K := by
  obtain ⟨a, ev⟩ := exa_v hx
  exact ⟨a, ev, Sta.start ev (Or.inr ⟨w1, w2⟩), Exa.start ev hx⟩
theorem fld_int {t : Jvm.Term} {a : Addr} {C n d : String} {k : Int32} (ev : t.eval a0 Z none [] Z = some (.ref a)) (hq : (Jvm.Cond.eq (Jvm.Term.field t C n d) (Jvm.Term.int k)).value a0 Z none Z [] = some true) : Fld Z Z.heap a C n d (.int k) := by
  refine Fld.start ?_
  have e1 : (Jvm.Term.field t C n d).eval a0 Z none [] Z = Z.fieldOf? a C n d := fld_at ev
  have e2 : (Jvm.Term.int k).eval a0 Z none [] Z = some (.int k) := Term.int_eval k
  simp only [Cond.value, e1, e2] at hq
  cases hf : Z.fieldOf? a C n d with
  | none => simp [hf] at hq
  | some x => cases x <;> simp [hf] at hq ⊢; exact hq
end Own
theorem own_len {Z : State} {a0 : Array Value} {t : Jvm.Term} {a : Addr} {c : Cell} {ty : FieldType} {n : Int32} (ev : t.eval a0 Z none [] Z = some (.ref a)) (A : Arr Z Z.heap a c ty) (el : (Jvm.Term.length t).eval a0 Z none [] Z = some (.int n)) : c.slots.size < 2 ^ 31 ∧ c.slots.size.toInt32 = n := by
  have hA := A.fin (Vm.Alike.refl _)
  by_cases hl : c.slots.size < 2 ^ 31
  · rw [len_f ev hA hl] at el
    exact ⟨hl, by injection el with el; injection el⟩
  · simp [Term.eval, ev, hA, hl] at el
theorem d_j22_m1_0 : decode jdk_22_method_1_code 0 = .ok (.aload_n 0, 1) := by decide +kernel
theorem d_j22_m1_1 : decode jdk_22_method_1_code 1 = .ok (.invokespecial 1, 3) := by decide +kernel
theorem d_j22_m1_4 : decode jdk_22_method_1_code 4 = .ok (.return_, 1) := by decide +kernel
theorem pn_0 : plainName "java/util/AbstractCollection" = true := by first | (simp [plainName, overriddenIn]; done) | decide +kernel
def Q_rm_abc (a : Addr) (h0 : Heap) (n0 : Nat) (v : Option Value) (h : Heap) (L : List Loc) : Prop := v = none ∧ Fr n0 L ∧ h = h0
set_option maxRecDepth 65536 in
set_option maxHeartbeats 40000000 in
theorem rm_abc (l : Launch) (Z : State) (a0 : Array Value) (hw : ∀ d ∈ tables_1, d.before a0 Z = true) (ws : List Jvm.Cond) (a : Addr) (h0 : Heap) (n0 : Nat) (O0 : Old Z n0 h0)  :
    Meets l (⟨"java/util/AbstractCollection", "<init>", "()V"⟩ : MethodName) jdk_22_method_1_code 1 none ws ({ frames := 1, cells := 0, slots := 0, locals := 12 } : Room) Z #[(.ref a)] h0 (Q_rm_abc a h0 n0) 0 0 := by
  refine enter (Ls := #[.val (.ref a)]) (plainFor_of_name pn_0) (fun m => by first | rfl | (simp [entryFrame, mkF, argsToLocals, Value.category]; done)) ?_
  intro p e s m below meth c T0 hx hby hml hown hnm hret hlk hZ X0 e0
  have N0 := Fr.nil n0
  replace hown : s.vm.findClass "java/util/AbstractCollection" = some m.cls := hown
  show Run p e below _ (T0.setTop (mkF m 0 #[.val (.ref a)] []))
  refine go (fun _ => XS.aloadN X0.here hx rfl (hb hby d_j22_m1_0) rfl rfl) ?_
  show Run p e below _ (T0.setTop (mkF m 1 #[.val (.ref a)] [(.ref a)]))
  obtain ⟨T1, X1, e1, st1⟩ := initO X0 hx hZ hown (wd hw 19 rfl) (wd hw 20 rfl) (wd hw 21 rfl) e0 (g := (mkF m 1 #[.val (.ref a)] [(.ref a)])) rfl (by rw [hml]; rfl) rfl (hb hby d_j22_m1_1) (by decide) (W := 0) (by show 2 * 0 + _ ≤ _; exact Nat.le_of_eq rfl) (by decide)
  refine go st1 ?_
  show Run p e below _ (T1.setTop (mkF m 4 #[.val (.ref a)] []))
  exact endV X1 hx hlk hret (hb hby d_j22_m1_4) (⟨rfl, N0, e1⟩) (by decide) (by decide)
theorem d_j39_m1_0 : decode jdk_39_method_1_code 0 = .ok (.aload_n 0, 1) := by decide +kernel
theorem d_j39_m1_1 : decode jdk_39_method_1_code 1 = .ok (.invokespecial 1, 3) := by decide +kernel
theorem pd_0 : parseMethodDescriptor "()V" = some ⟨[], none⟩ := by decide +kernel
theorem d_j39_m1_4 : decode jdk_39_method_1_code 4 = .ok (.aload_n 0, 1) := by decide +kernel
theorem d_j39_m1_5 : decode jdk_39_method_1_code 5 = .ok (.iconst 0, 1) := by decide +kernel
theorem d_j39_m1_6 : decode jdk_39_method_1_code 6 = .ok (.putfield 7, 3) := by decide +kernel
theorem d_j39_m1_9 : decode jdk_39_method_1_code 9 = .ok (.return_, 1) := by decide +kernel
theorem pn_1 : plainName "java/util/AbstractList" = true := by first | (simp [plainName, overriddenIn]; done) | decide +kernel
def Q_rm_abl (Z : State) (a : Addr) (h0 : Heap) (n0 : Nat) (v : Option Value) (h : Heap) (L : List Loc) : Prop := v = none ∧ Fr n0 L ∧ Keep h0 h [a] ∧ Exa Z h a "java/util/ArrayList" ∧ Fld Z h a "java/util/AbstractList" "modCount" "I" (.int (0 : Int32)) ∧ Fld Z h a "java/util/ArrayList" "elementData" "[Ljava/lang/Object;" .null ∧ Fld Z h a "java/util/ArrayList" "size" "I" (.int (0 : Int32))
set_option maxRecDepth 65536 in
set_option maxHeartbeats 40000000 in
theorem rm_abl (l : Launch) (Z : State) (a0 : Array Value) (hw : ∀ d ∈ tables_1, d.before a0 Z = true) (ws : List Jvm.Cond) (a : Addr) (h0 : Heap) (n0 : Nat) (O0 : Old Z n0 h0) (E_a : Exa Z h0 a "java/util/ArrayList") (F_modCount_a : Fld Z h0 a "java/util/AbstractList" "modCount" "I" (.int (0 : Int32))) (F_elementData_a : Fld Z h0 a "java/util/ArrayList" "elementData" "[Ljava/lang/Object;" .null) (F_size_a : Fld Z h0 a "java/util/ArrayList" "size" "I" (.int (0 : Int32))) (g_a : n0 ≤ a) :
    Meets l (⟨"java/util/AbstractList", "<init>", "()V"⟩ : MethodName) jdk_39_method_1_code 1 none ws ({ frames := 2, cells := 0, slots := 0, locals := 24 } : Room) Z #[(.ref a)] h0 (Q_rm_abl Z a h0 n0) 0 0 := by
  refine enter (Ls := #[.val (.ref a)]) (plainFor_of_name pn_1) (fun m => by first | rfl | (simp [entryFrame, mkF, argsToLocals, Value.category]; done)) ?_
  intro p e s m below meth c T0 hx hby hml hown hnm hret hlk hZ X0 e0
  have N0 := Fr.nil n0
  replace hown : s.vm.findClass "java/util/AbstractList" = some m.cls := hown
  show Run p e below _ (T0.setTop (mkF m 0 #[.val (.ref a)] []))
  have K0 := Keep.refl h0 [a]
  refine go (fun _ => XS.aloadN X0.here hx rfl (hb hby d_j39_m1_0) rfl rfl) ?_
  show Run p e below _ (T0.setTop (mkF m 1 #[.val (.ref a)] [(.ref a)]))
  refine callSp X0 hx hZ rfl hown (wd hw 13 rfl) (wd hw 14 rfl) (wd hw 18 rfl) (wd hw 17 rfl) (by decide) e0 (a := a) (argsL := []) (rest := []) (rm_abc l Z a0 hw [] a h0 n0 O0) (W := 0) (by decide) (by decide) (by decide) (by decide) (by rw [hml]; rfl) (lenOf pd_0 rfl) rfl (Nat.le_of_eq rfl) (hb hby d_j39_m1_1) ?_
  intro v2 T2 L2 h2 X2 e2 q2
  obtain ⟨rfl, n2, k2⟩ := q2
  have e2 := e2.trans k2
  have N2 := Fr.app N0 n2
  show Run p e below _ (T2.setTop (mkF m 4 #[.val (.ref a)] []))
  refine go (fun _ => XS.aloadN X2.here hx rfl (hb hby d_j39_m1_4) rfl rfl) ?_
  show Run p e below _ (T2.setTop (mkF m 5 #[.val (.ref a)] [(.ref a)]))
  refine go (fun _ => XS.iconst X2.here hx rfl (hb hby d_j39_m1_5)) ?_
  show Run p e below _ (T2.setTop (mkF m 6 #[.val (.ref a)] [(.int (0 : Int32)), (.ref a)]))
  obtain ⟨T3, h3, X3, e3, W3, st3⟩ := putF X2 hx hZ hown (host := "") (Or.inl (wd hw 22 rfl)) Via.refl e2 F_modCount_a E_a (Or.inl (wd hw 23 rfl)) (wd hw 2 rfl) (ty := .int) (by decide) rfl rfl (g := (mkF m 6 #[.val (.ref a)] [(.int (0 : Int32)), (.ref a)])) rfl rfl (hb hby d_j39_m1_6)
  have O0 := O0.wr W3 g_a
  have E_a := E_a.wr W3
  have F_modCount_a := F_modCount_a.same W3
  have F_elementData_a := F_elementData_a.other W3 (Or.inr (slot_ne (Or.inl (wd hw 26 rfl)) (Or.inl (wd hw 23 rfl)) (by decide) (t := (.array (.object "java/lang/Object"))) (t' := .int) (by decide) (by decide)))
  have F_size_a := F_size_a.other W3 (Or.inr (slot_ne (Or.inl (wd hw 46 rfl)) (Or.inl (wd hw 23 rfl)) (by decide) (t := .int) (t' := .int) (by decide) (by decide)))
  have K0 := K0.wr W3 (Or.inl (by simp))
  have N3 := Fr.snoc X3 N2 g_a
  refine go st3 ?_
  show Run p e below _ (T3.setTop (mkF m 9 #[.val (.ref a)] []))
  exact endV X3 hx hlk hret (hb hby d_j39_m1_9) (by rw [e3]; exact ⟨rfl, N3, K0, E_a, F_modCount_a, F_elementData_a, F_size_a⟩) (by decide) (by decide)
theorem d_j38_m2_0 : decode jdk_38_method_2_code 0 = .ok (.aload_n 0, 1) := by decide +kernel
theorem d_j38_m2_1 : decode jdk_38_method_2_code 1 = .ok (.invokespecial 1, 3) := by decide +kernel
theorem d_j38_m2_4 : decode jdk_38_method_2_code 4 = .ok (.aload_n 0, 1) := by decide +kernel
theorem d_j38_m2_5 : decode jdk_38_method_2_code 5 = .ok (.getstatic 39, 3) := by decide +kernel
theorem d_j38_m2_8 : decode jdk_38_method_2_code 8 = .ok (.putfield 9, 3) := by decide +kernel
theorem d_j38_m2_11 : decode jdk_38_method_2_code 11 = .ok (.return_, 1) := by decide +kernel
theorem pn_2 : plainName "java/util/ArrayList" = true := by first | (simp [plainName, overriddenIn]; done) | decide +kernel
def Q_rm_ali (Z : State) (a wD : Addr) (h0 : Heap) (n0 : Nat) (v : Option Value) (h : Heap) (L : List Loc) : Prop := v = none ∧ Fr n0 L ∧ Keep h0 h [a] ∧ Exa Z h a "java/util/ArrayList" ∧ Fld Z h a "java/util/AbstractList" "modCount" "I" (.int (0 : Int32)) ∧ Fld Z h a "java/util/ArrayList" "elementData" "[Ljava/lang/Object;" (.ref wD) ∧ Fld Z h a "java/util/ArrayList" "size" "I" (.int (0 : Int32))
set_option maxRecDepth 65536 in
set_option maxHeartbeats 40000000 in
theorem rm_ali (l : Launch) (Z : State) (a0 : Array Value) (hw : ∀ d ∈ tables_1, d.before a0 Z = true) (ws : List Jvm.Cond) (a wD : Addr) (h0 : Heap) (n0 : Nat) (O0 : Old Z n0 h0) (S_DEFAULTCAPACITY_EMPTY_ELEMENTDATA : Sta Z Z.heap "java/util/ArrayList" "DEFAULTCAPACITY_EMPTY_ELEMENTDATA" "[Ljava/lang/Object;" (.ref wD)) (E_a : Exa Z h0 a "java/util/ArrayList") (F_modCount_a : Fld Z h0 a "java/util/AbstractList" "modCount" "I" (.int (0 : Int32))) (F_elementData_a : Fld Z h0 a "java/util/ArrayList" "elementData" "[Ljava/lang/Object;" .null) (F_size_a : Fld Z h0 a "java/util/ArrayList" "size" "I" (.int (0 : Int32))) (g_a : n0 ≤ a) :
    Meets l (⟨"java/util/ArrayList", "<init>", "()V"⟩ : MethodName) jdk_38_method_2_code 1 none ws ({ frames := 3, cells := 0, slots := 0, locals := 36 } : Room) Z #[(.ref a)] h0 (Q_rm_ali Z a wD h0 n0) 0 0 := by
  refine enter (Ls := #[.val (.ref a)]) (plainFor_of_name pn_2) (fun m => by first | rfl | (simp [entryFrame, mkF, argsToLocals, Value.category]; done)) ?_
  intro p e s m below meth c T0 hx hby hml hown hnm hret hlk hZ X0 e0
  have N0 := Fr.nil n0
  replace hown : s.vm.findClass "java/util/ArrayList" = some m.cls := hown
  show Run p e below _ (T0.setTop (mkF m 0 #[.val (.ref a)] []))
  have K0 := Keep.refl h0 [a]
  refine go (fun _ => XS.aloadN X0.here hx rfl (hb hby d_j38_m2_0) rfl rfl) ?_
  show Run p e below _ (T0.setTop (mkF m 1 #[.val (.ref a)] [(.ref a)]))
  refine callSp X0 hx hZ rfl hown (wd hw 7 rfl) (wd hw 8 rfl) (wd hw 12 rfl) (wd hw 11 rfl) (by decide) e0 (a := a) (argsL := []) (rest := []) (rm_abl l Z a0 hw [] a h0 n0 O0 E_a F_modCount_a F_elementData_a F_size_a g_a) (W := 0) (by decide) (by decide) (by decide) (by decide) (by rw [hml]; rfl) (lenOf pd_0 rfl) rfl (Nat.le_of_eq rfl) (hb hby d_j38_m2_1) ?_
  intro v4 T4 L4 h4 X4 e4 q4
  obtain ⟨rfl, n4, K4, E_a, F_modCount_a, F_elementData_a, F_size_a⟩ := q4
  have O0 := O0.keep K4 (allS g_a all0)
  have K0 := K0.trans K4 (allS (Or.inl (by simp)) all0)
  have N4 := Fr.app N0 n4
  show Run p e below _ (T4.setTop (mkF m 4 #[.val (.ref a)] []))
  refine go (fun _ => XS.aloadN X4.here hx rfl (hb hby d_j38_m2_4) rfl rfl) ?_
  show Run p e below _ (T4.setTop (mkF m 5 #[.val (.ref a)] [(.ref a)]))
  obtain ⟨T5, X5, e5, st5⟩ := getS2 X4 hx hZ hown (host := "") (Or.inl (wd hw 24 rfl)) Via.refl e4 (S_DEFAULTCAPACITY_EMPTY_ELEMENTDATA.ext O0.2) (g := (mkF m 5 #[.val (.ref a)] [(.ref a)])) rfl (hb hby d_j38_m2_5)
  refine go st5 ?_
  show Run p e below _ (T5.setTop (mkF m 8 #[.val (.ref a)] [(.ref wD), (.ref a)]))
  obtain ⟨T6, h6, X6, e6, W6, st6⟩ := putF X5 hx hZ hown (host := "") (Or.inl (wd hw 25 rfl)) Via.refl e5 F_elementData_a E_a (Or.inl (wd hw 26 rfl)) (wd hw 2 rfl) (ty := (.array (.object "java/lang/Object"))) (by decide) rfl rfl (g := (mkF m 8 #[.val (.ref a)] [(.ref wD), (.ref a)])) rfl rfl (hb hby d_j38_m2_8)
  have O0 := O0.wr W6 g_a
  have E_a := E_a.wr W6
  have K0 := K0.wr W6 (Or.inl (by simp))
  have F_modCount_a := F_modCount_a.other W6 (Or.inr (slot_ne (Or.inl (wd hw 23 rfl)) (Or.inl (wd hw 26 rfl)) (by decide) (t := .int) (t' := (.array (.object "java/lang/Object"))) (by decide) (by decide)))
  have F_elementData_a := F_elementData_a.same W6
  have F_size_a := F_size_a.other W6 (Or.inr (slot_ne (Or.inl (wd hw 46 rfl)) (Or.inl (wd hw 26 rfl)) (by decide) (t := .int) (t' := (.array (.object "java/lang/Object"))) (by decide) (by decide)))
  have N6 := Fr.snoc X6 N4 g_a
  refine go st6 ?_
  show Run p e below _ (T6.setTop (mkF m 11 #[.val (.ref a)] []))
  exact endV X6 hx hlk hret (hb hby d_j38_m2_11) (by rw [e6]; exact ⟨rfl, N6, K0, E_a, F_modCount_a, F_elementData_a, F_size_a⟩) (by decide) (by decide)
theorem d_j29_m65_0 : decode jdk_29_method_65_code 0 = .ok (.iload_n 0, 1) := by decide +kernel
theorem d_j29_m65_1 : decode jdk_29_method_65_code 1 = .ok (.iload_n 1, 1) := by decide +kernel
theorem d_j29_m65_2 : decode jdk_29_method_65_code 2 = .ok (.if_icmp .lt 7, 3) := by decide +kernel
theorem d_j29_m65_9 : decode jdk_29_method_65_code 9 = .ok (.iload_n 1, 1) := by decide +kernel
theorem d_j29_m65_10 : decode jdk_29_method_65_code 10 = .ok (.ireturn, 1) := by decide +kernel
theorem d_j29_m65_5 : decode jdk_29_method_65_code 5 = .ok (.iload_n 0, 1) := by decide +kernel
theorem d_j29_m65_6 : decode jdk_29_method_65_code 6 = .ok (.goto 4, 3) := by decide +kernel
theorem pn_3 : plainFor (⟨"java/lang/Math", "max", "(II)I"⟩ : MethodName) = true := by decide +kernel
def Q_rm_max (p1 p2 : Int32) (h0 : Heap) (n0 : Nat) (v : Option Value) (h : Heap) (L : List Loc) : Prop := v = some (.int (if p1 < p2 then p2 else p1)) ∧ Fr n0 L ∧ h = h0
set_option maxRecDepth 65536 in
set_option maxHeartbeats 40000000 in
theorem rm_max (l : Launch) (Z : State) (a0 : Array Value) (hw : ∀ d ∈ tables_1, d.before a0 Z = true) (ws : List Jvm.Cond) (p1 p2 : Int32) (h0 : Heap) (n0 : Nat) (O0 : Old Z n0 h0)  :
    Meets l (⟨"java/lang/Math", "max", "(II)I"⟩ : MethodName) jdk_29_method_65_code 2 (some .int) ws ({ frames := 0, cells := 0, slots := 0, locals := 0 } : Room) Z #[(.int p1), (.int p2)] h0 (Q_rm_max p1 p2 h0 n0) 0 0 := by
  refine enter (Ls := #[.val (.int p1), .val (.int p2)]) pn_3 (fun m => by first | rfl | (simp [entryFrame, mkF, argsToLocals, Value.category]; done)) ?_
  intro p e s m below meth c T0 hx hby hml hown hnm hret hlk hZ X0 e0
  have N0 := Fr.nil n0
  replace hown : s.vm.findClass "java/lang/Math" = some m.cls := hown
  show Run p e below _ (T0.setTop (mkF m 0 #[.val (.int p1), .val (.int p2)] []))
  refine go (fun _ => XS.iloadN X0.here hx rfl (hb hby d_j29_m65_0) rfl) ?_
  show Run p e below _ (T0.setTop (mkF m 1 #[.val (.int p1), .val (.int p2)] [(.int p1)]))
  refine go (fun _ => XS.iloadN X0.here hx rfl (hb hby d_j29_m65_1) rfl) ?_
  show Run p e below _ (T0.setTop (mkF m 2 #[.val (.int p1), .val (.int p2)] [(.int p2), (.int p1)]))
  by_cases c7 : p1 < p2
  · skip
    refine go (fun _ => XS.icmpYes X0.here hx rfl (pc0 := 2) (pc' := 9) rfl (hb hby d_j29_m65_2) rfl (tlt c7).1 (by decide) (by decide)) ?_
    show Run p e below _ (T0.setTop (mkF m 9 #[.val (.int p1), .val (.int p2)] []))
    refine go (fun _ => XS.iloadN X0.here hx rfl (hb hby d_j29_m65_9) rfl) ?_
    show Run p e below _ (T0.setTop (mkF m 10 #[.val (.int p1), .val (.int p2)] [(.int p2)]))
    exact endI X0 hx hlk hret (hb hby d_j29_m65_10) (⟨by simp [c7], N0, e0⟩) (by decide) (by decide)
  · skip
    refine go (fun _ => XS.icmpNo X0.here hx rfl (hb hby d_j29_m65_2) rfl (flt c7).1) ?_
    show Run p e below _ (T0.setTop (mkF m 5 #[.val (.int p1), .val (.int p2)] []))
    refine go (fun _ => XS.iloadN X0.here hx rfl (hb hby d_j29_m65_5) rfl) ?_
    show Run p e below _ (T0.setTop (mkF m 6 #[.val (.int p1), .val (.int p2)] [(.int p1)]))
    refine go (fun _ => XS.goto X0.here hx rfl (pc0 := 6) (pc' := 10) rfl (hb hby d_j29_m65_6) (by decide) (by decide)) ?_
    show Run p e below _ (T0.setTop (mkF m 10 #[.val (.int p1), .val (.int p2)] [(.int p1)]))
    exact endI X0 hx hlk hret (hb hby d_j29_m65_10) (⟨by simp [c7], N0, e0⟩) (by decide) (by decide)
theorem d_j38_m6_0 : decode jdk_38_method_6_code 0 = .ok (.aload_n 0, 1) := by decide +kernel
theorem d_j38_m6_1 : decode jdk_38_method_6_code 1 = .ok (.getfield 9, 3) := by decide +kernel
theorem d_j38_m6_4 : decode jdk_38_method_6_code 4 = .ok (.arraylength, 1) := by decide +kernel
theorem d_j38_m6_5 : decode jdk_38_method_6_code 5 = .ok (.istore_n 2, 1) := by decide +kernel
theorem d_j38_m6_6 : decode jdk_38_method_6_code 6 = .ok (.iload_n 2, 1) := by decide +kernel
theorem d_j38_m6_7 : decode jdk_38_method_6_code 7 = .ok (.ifCond .gt 13, 3) := by decide +kernel
theorem d_j38_m6_10 : decode jdk_38_method_6_code 10 = .ok (.aload_n 0, 1) := by decide +kernel
theorem d_j38_m6_11 : decode jdk_38_method_6_code 11 = .ok (.getfield 9, 3) := by decide +kernel
theorem d_j38_m6_14 : decode jdk_38_method_6_code 14 = .ok (.getstatic 39, 3) := by decide +kernel
theorem d_j38_m6_17 : decode jdk_38_method_6_code 17 = .ok (.if_acmp .eq 28, 3) := by decide +kernel
theorem d_j38_m6_45 : decode jdk_38_method_6_code 45 = .ok (.aload_n 0, 1) := by decide +kernel
theorem d_j38_m6_46 : decode jdk_38_method_6_code 46 = .ok (.bipush 10, 2) := by decide +kernel
theorem d_j38_m6_48 : decode jdk_38_method_6_code 48 = .ok (.iload_n 1, 1) := by decide +kernel
theorem d_j38_m6_49 : decode jdk_38_method_6_code 49 = .ok (.invokestatic 79, 3) := by decide +kernel
theorem pd_1 : parseMethodDescriptor "(II)I" = some ⟨[.int, .int], some .int⟩ := by decide +kernel
theorem d_j38_m6_52 : decode jdk_38_method_6_code 52 = .ok (.anewarray 7, 3) := by decide +kernel
theorem d_j38_m6_55 : decode jdk_38_method_6_code 55 = .ok (.dup_x1, 1) := by decide +kernel
theorem d_j38_m6_56 : decode jdk_38_method_6_code 56 = .ok (.putfield 9, 3) := by decide +kernel
theorem d_j38_m6_59 : decode jdk_38_method_6_code 59 = .ok (.areturn, 1) := by decide +kernel
def Q_rm_gr1 (Z : State) (a wD : Addr) (kD : ClassId) (mc : Int32) (h0 : Heap) (n0 : Nat) (v : Option Value) (h : Heap) (L : List Loc) : Prop := ∃ (b : Addr) (k : ClassId), v = some (.ref b) ∧ Fr n0 L ∧ Keep h0 h [a] ∧ h0.size ≤ b ∧ n0 ≤ b ∧ Exa Z h a "java/util/ArrayList" ∧ Fld Z h a "java/util/AbstractList" "modCount" "I" (.int mc) ∧ Fld Z h a "java/util/ArrayList" "elementData" "[Ljava/lang/Object;" (.ref b) ∧ Fld Z h a "java/util/ArrayList" "size" "I" (.int (0 : Int32)) ∧ Ovr Z k "java/lang/Object" ∧ Arv Z h b k (.object "java/lang/Object") (10 : Int32) [.null, .null, .null, .null, .null, .null, .null, .null, .null, .null] .null
set_option maxRecDepth 65536 in
set_option maxHeartbeats 40000000 in
theorem rm_gr1 (l : Launch) (Z : State) (a0 : Array Value) (hw : ∀ d ∈ tables_1, d.before a0 Z = true) (ws : List Jvm.Cond) (a wD : Addr) (kD : ClassId) (mc : Int32) (h0 : Heap) (n0 : Nat) (O0 : Old Z n0 h0) (S_DEFAULTCAPACITY_EMPTY_ELEMENTDATA : Sta Z Z.heap "java/util/ArrayList" "DEFAULTCAPACITY_EMPTY_ELEMENTDATA" "[Ljava/lang/Object;" (.ref wD)) (VD : Arv Z Z.heap wD kD (.object "java/lang/Object") (0 : Int32) [] .null) (E_a : Exa Z h0 a "java/util/ArrayList") (F_modCount_a : Fld Z h0 a "java/util/AbstractList" "modCount" "I" (.int mc)) (F_elementData_a : Fld Z h0 a "java/util/ArrayList" "elementData" "[Ljava/lang/Object;" (.ref wD)) (F_size_a : Fld Z h0 a "java/util/ArrayList" "size" "I" (.int (0 : Int32))) (g_a : n0 ≤ a) :
    Meets l (⟨"java/util/ArrayList", "grow", "(I)[Ljava/lang/Object;"⟩ : MethodName) jdk_38_method_6_code 4 (some (.array (.object "java/lang/Object"))) ws ({ frames := 1, cells := 1, slots := 10, locals := 14 } : Room) Z #[(.ref a), (.int (1 : Int32))] h0 (Q_rm_gr1 Z a wD kD mc h0 n0) 1 10 := by
  refine enter (Ls := #[.val (.ref a), .val (.int (1 : Int32)), .unset, .unset]) (plainFor_of_name pn_2) (fun m => by first | rfl | (simp [entryFrame, mkF, argsToLocals, Value.category]; done)) ?_
  intro p e s m below meth c T0 hx hby hml hown hnm hret hlk hZ X0 e0
  have N0 := Fr.nil n0
  replace hown : s.vm.findClass "java/util/ArrayList" = some m.cls := hown
  show Run p e below _ (T0.setTop (mkF m 0 #[.val (.ref a), .val (.int (1 : Int32)), .unset, .unset] []))
  have K0 := Keep.refl h0 [a]
  have V_wD := VD.ext O0.2
  have ne_wD_a : wD ≠ a := O0.ne VD.lt g_a
  refine go (fun _ => XS.aloadN X0.here hx rfl (hb hby d_j38_m6_0) rfl rfl) ?_
  show Run p e below _ (T0.setTop (mkF m 1 #[.val (.ref a), .val (.int (1 : Int32)), .unset, .unset] [(.ref a)]))
  obtain ⟨T8, X8, e8, st8⟩ := getF X0 hx hZ hown (host := "") (Or.inl (wd hw 25 rfl)) Via.refl e0 F_elementData_a (g := (mkF m 1 #[.val (.ref a), .val (.int (1 : Int32)), .unset, .unset] [(.ref a)])) rfl rfl (hb hby d_j38_m6_1)
  refine go st8 ?_
  show Run p e below _ (T8.setTop (mkF m 4 #[.val (.ref a), .val (.int (1 : Int32)), .unset, .unset] [(.ref wD)]))
  obtain ⟨cl9, Ar9, ak9, as9, an9, ah9, ag9⟩ := id V_wD
  refine go (fun _ => X8.arraylength hx (by rw [e8]; exact Ar9.1) (State.isArrayOf_alike hZ.alike Ar9.2.1) (g := (mkF m 4 #[.val (.ref a), .val (.int (1 : Int32)), .unset, .unset] [(.ref wD)])) rfl rfl (hb hby d_j38_m6_4) _) ?_
  rw [len_of as9 an9]
  show Run p e below _ (T8.setTop (mkF m 5 #[.val (.ref a), .val (.int (1 : Int32)), .unset, .unset] [(.int (0 : Int32))]))
  refine go (fun _ => XS.istoreN X8.here hx rfl (hb hby d_j38_m6_5) rfl (l' := #[.val (.ref a), .val (.int (1 : Int32)), .val (.int (0 : Int32)), .unset]) rfl) ?_
  show Run p e below _ (T8.setTop (mkF m 6 #[.val (.ref a), .val (.int (1 : Int32)), .val (.int (0 : Int32)), .unset] []))
  refine go (fun _ => XS.iloadN X8.here hx rfl (hb hby d_j38_m6_6) rfl) ?_
  show Run p e below _ (T8.setTop (mkF m 7 #[.val (.ref a), .val (.int (1 : Int32)), .val (.int (0 : Int32)), .unset] [(.int (0 : Int32))]))
  refine go (fun _ => XS.ifNo X8.here hx rfl (hb hby d_j38_m6_7) rfl ((if0 _ _).trans (flt (by decide : ¬ ((0 : Int32) < 0))).2.2.1)) ?_
  show Run p e below _ (T8.setTop (mkF m 10 #[.val (.ref a), .val (.int (1 : Int32)), .val (.int (0 : Int32)), .unset] []))
  refine go (fun _ => XS.aloadN X8.here hx rfl (hb hby d_j38_m6_10) rfl rfl) ?_
  show Run p e below _ (T8.setTop (mkF m 11 #[.val (.ref a), .val (.int (1 : Int32)), .val (.int (0 : Int32)), .unset] [(.ref a)]))
  obtain ⟨T10, X10, e10, st10⟩ := getF X8 hx hZ hown (host := "") (Or.inl (wd hw 25 rfl)) Via.refl e8 F_elementData_a (g := (mkF m 11 #[.val (.ref a), .val (.int (1 : Int32)), .val (.int (0 : Int32)), .unset] [(.ref a)])) rfl rfl (hb hby d_j38_m6_11)
  refine go st10 ?_
  show Run p e below _ (T10.setTop (mkF m 14 #[.val (.ref a), .val (.int (1 : Int32)), .val (.int (0 : Int32)), .unset] [(.ref wD)]))
  obtain ⟨T11, X11, e11, st11⟩ := getS2 X10 hx hZ hown (host := "") (Or.inl (wd hw 24 rfl)) Via.refl e10 (S_DEFAULTCAPACITY_EMPTY_ELEMENTDATA.ext O0.2) (g := (mkF m 14 #[.val (.ref a), .val (.int (1 : Int32)), .val (.int (0 : Int32)), .unset] [(.ref wD)])) rfl (hb hby d_j38_m6_14)
  refine go st11 ?_
  show Run p e below _ (T11.setTop (mkF m 17 #[.val (.ref a), .val (.int (1 : Int32)), .val (.int (0 : Int32)), .unset] [(.ref wD), (.ref wD)]))
  refine go (fun _ => acmp X11 hx rfl (x := (.ref wD)) (y := (.ref wD)) rfl rfl (pc0 := 17) (pc' := 45) (same := true) rfl (hb hby d_j38_m6_17) rfl (decide_eq_true rfl) (by decide) (by decide)) ?_
  show Run p e below _ (T11.setTop (mkF m 45 #[.val (.ref a), .val (.int (1 : Int32)), .val (.int (0 : Int32)), .unset] []))
  refine go (fun _ => XS.aloadN X11.here hx rfl (hb hby d_j38_m6_45) rfl rfl) ?_
  show Run p e below _ (T11.setTop (mkF m 46 #[.val (.ref a), .val (.int (1 : Int32)), .val (.int (0 : Int32)), .unset] [(.ref a)]))
  refine go (fun _ => XS.bipush X11.here hx rfl (hb hby d_j38_m6_46)) ?_
  show Run p e below _ (T11.setTop (mkF m 48 #[.val (.ref a), .val (.int (1 : Int32)), .val (.int (0 : Int32)), .unset] [(.int (10 : Int32)), (.ref a)]))
  refine go (fun _ => XS.iloadN X11.here hx rfl (hb hby d_j38_m6_48) rfl) ?_
  show Run p e below _ (T11.setTop (mkF m 49 #[.val (.ref a), .val (.int (1 : Int32)), .val (.int (0 : Int32)), .unset] [(.int (1 : Int32)), (.int (10 : Int32)), (.ref a)]))
  refine callSt X11 hx hZ hown (wd hw 62 rfl) (wd hw 63 rfl) (wd hw 64 rfl) (wd hw 65 rfl) (by decide) e11 (argsL := [(.int (10 : Int32)), (.int (1 : Int32))]) (rest := [(.ref a)]) (rm_max l Z a0 hw [] (10 : Int32) (1 : Int32) h0 n0 O0) (W := 1) (by decide) (by decide) (by decide) (by decide) (by rw [hml]; rfl) (lenOf pd_1 rfl) rfl (Nat.le_of_eq rfl) (hb hby d_j38_m6_49) ?_
  intro v12 T12 L12 h12 X12 e12 q12
  obtain ⟨rv, n12, k12⟩ := q12
  replace rv : v12 = some (.int (10 : Int32)) := rv
  subst rv
  have e12 := e12.trans k12
  have N12 := Fr.app N0 n12
  show Run p e below _ (T12.setTop (mkF m 52 #[.val (.ref a), .val (.int (1 : Int32)), .val (.int (0 : Int32)), .unset] [(.int (10 : Int32)), (.ref a)]))
  obtain ⟨T13, h13, k13, X13, e13, E13, A13, O13, st13⟩ := newR X12 hx hZ hown (wd hw 66 rfl) (wd hw 67 rfl) e12 (g := (mkF m 52 #[.val (.ref a), .val (.int (1 : Int32)), .val (.int (0 : Int32)), .unset] [(.int (10 : Int32)), (.ref a)])) rfl (hb hby d_j38_m6_52) rfl (by decide) (cap := 10) (by decide) (by decide) (by decide) (by decide)
  obtain ⟨b13, y13⟩ : ∃ z, z = h0.size := ⟨_, rfl⟩
  rw [← y13] at A13 st13
  have g_b13 : n0 ≤ b13 := y13.symm ▸ old_sz O0
  have sz_b13 : h0.size ≤ b13 := y13.symm ▸ K0.1
  have ne_a_b13 : a ≠ b13 := Nat.ne_of_lt (y13.symm ▸ E_a.lt)
  have ne_wD_b13 : wD ≠ b13 := Nat.ne_of_lt (y13.symm ▸ V_wD.lt)
  have O0 := O0.ext E13
  have E_a := E_a.ext E13
  have F_modCount_a := F_modCount_a.ext E13
  have F_elementData_a := F_elementData_a.ext E13
  have F_size_a := F_size_a.ext E13
  have K0 := K0.ext E13
  have V_wD := V_wD.ext E13
  have V_b13 : Arv Z h13 b13 k13 (.object "java/lang/Object") (10 : Int32) [.null, .null, .null, .null, .null, .null, .null, .null, .null, .null] .null := (Arv.new A13 (by decide)).pad (pad_rep [] .null 10)
  refine go st13 ?_
  show Run p e below _ (T13.setTop (mkF m 55 #[.val (.ref a), .val (.int (1 : Int32)), .val (.int (0 : Int32)), .unset] [(.ref b13), (.ref a)]))
  refine go (fun _ => XS.dupX1 X13.here hx rfl (hb hby d_j38_m6_55) rfl rfl rfl) ?_
  show Run p e below _ (T13.setTop (mkF m 56 #[.val (.ref a), .val (.int (1 : Int32)), .val (.int (0 : Int32)), .unset] [(.ref b13), (.ref a), (.ref b13)]))
  obtain ⟨T14, h14, X14, e14, W14, st14⟩ := putF X13 hx hZ hown (host := "") (Or.inl (wd hw 25 rfl)) Via.refl e13 F_elementData_a E_a (Or.inl (wd hw 26 rfl)) (wd hw 2 rfl) (ty := (.array (.object "java/lang/Object"))) (by decide) rfl rfl (g := (mkF m 56 #[.val (.ref a), .val (.int (1 : Int32)), .val (.int (0 : Int32)), .unset] [(.ref b13), (.ref a), (.ref b13)])) rfl rfl (hb hby d_j38_m6_56)
  have O0 := O0.wr W14 g_a
  have E_a := E_a.wr W14
  have F_modCount_a := F_modCount_a.other W14 (Or.inr (slot_ne (Or.inl (wd hw 23 rfl)) (Or.inl (wd hw 26 rfl)) (by decide) (t := .int) (t' := (.array (.object "java/lang/Object"))) (by decide) (by decide)))
  have F_elementData_a := F_elementData_a.same W14
  have F_size_a := F_size_a.other W14 (Or.inr (slot_ne (Or.inl (wd hw 46 rfl)) (Or.inl (wd hw 26 rfl)) (by decide) (t := .int) (t' := (.array (.object "java/lang/Object"))) (by decide) (by decide)))
  have K0 := K0.wr W14 (Or.inl (by simp))
  have V_wD := V_wD.other W14 ne_wD_a
  have V_b13 := V_b13.other W14 (Ne.symm ne_a_b13)
  have N14 := Fr.snoc X14 N12 g_a
  refine go st14 ?_
  show Run p e below _ (T14.setTop (mkF m 59 #[.val (.ref a), .val (.int (1 : Int32)), .val (.int (0 : Int32)), .unset] [(.ref b13)]))
  exact endA X14 hx hlk (w := (.ref b13)) hret rfl rfl (hb hby d_j38_m6_59) (by rw [e14]; exact ⟨b13, _, rfl, N14, K0, sz_b13, g_b13, E_a, F_modCount_a, F_elementData_a, F_size_a, O13, V_b13⟩) (by decide) (by decide)
theorem d_j38_m7_0 : decode jdk_38_method_7_code 0 = .ok (.aload_n 0, 1) := by decide +kernel
theorem d_j38_m7_1 : decode jdk_38_method_7_code 1 = .ok (.aload_n 0, 1) := by decide +kernel
theorem d_j38_m7_2 : decode jdk_38_method_7_code 2 = .ok (.getfield 48, 3) := by decide +kernel
theorem d_j38_m7_5 : decode jdk_38_method_7_code 5 = .ok (.iconst 1, 1) := by decide +kernel
theorem d_j38_m7_6 : decode jdk_38_method_7_code 6 = .ok (.iadd, 1) := by decide +kernel
theorem d_j38_m7_7 : decode jdk_38_method_7_code 7 = .ok (.invokevirtual 69, 3) := by decide +kernel
theorem pd_2 : parseMethodDescriptor "(I)[Ljava/lang/Object;" = some ⟨[.int], some (.array (.object "java/lang/Object"))⟩ := by decide +kernel
theorem d_j38_m7_10 : decode jdk_38_method_7_code 10 = .ok (.areturn, 1) := by decide +kernel
def Q_rm_gr0 (Z : State) (a wD : Addr) (kD : ClassId) (mc : Int32) (h0 : Heap) (n0 : Nat) (v : Option Value) (h : Heap) (L : List Loc) : Prop := ∃ (b : Addr) (k : ClassId), v = some (.ref b) ∧ Fr n0 L ∧ Keep h0 h [a] ∧ h0.size ≤ b ∧ n0 ≤ b ∧ Exa Z h a "java/util/ArrayList" ∧ Fld Z h a "java/util/AbstractList" "modCount" "I" (.int mc) ∧ Fld Z h a "java/util/ArrayList" "elementData" "[Ljava/lang/Object;" (.ref b) ∧ Fld Z h a "java/util/ArrayList" "size" "I" (.int (0 : Int32)) ∧ Ovr Z k "java/lang/Object" ∧ Arv Z h b k (.object "java/lang/Object") (10 : Int32) [.null, .null, .null, .null, .null, .null, .null, .null, .null, .null] .null
set_option maxRecDepth 65536 in
set_option maxHeartbeats 40000000 in
theorem rm_gr0 (l : Launch) (Z : State) (a0 : Array Value) (hw : ∀ d ∈ tables_1, d.before a0 Z = true) (ws : List Jvm.Cond) (a wD : Addr) (kD : ClassId) (mc : Int32) (h0 : Heap) (n0 : Nat) (O0 : Old Z n0 h0) (S_DEFAULTCAPACITY_EMPTY_ELEMENTDATA : Sta Z Z.heap "java/util/ArrayList" "DEFAULTCAPACITY_EMPTY_ELEMENTDATA" "[Ljava/lang/Object;" (.ref wD)) (VD : Arv Z Z.heap wD kD (.object "java/lang/Object") (0 : Int32) [] .null) (E_a : Exa Z h0 a "java/util/ArrayList") (F_modCount_a : Fld Z h0 a "java/util/AbstractList" "modCount" "I" (.int mc)) (F_elementData_a : Fld Z h0 a "java/util/ArrayList" "elementData" "[Ljava/lang/Object;" (.ref wD)) (F_size_a : Fld Z h0 a "java/util/ArrayList" "size" "I" (.int (0 : Int32))) (g_a : n0 ≤ a) :
    Meets l (⟨"java/util/ArrayList", "grow", "()[Ljava/lang/Object;"⟩ : MethodName) jdk_38_method_7_code 1 (some (.array (.object "java/lang/Object"))) ws ({ frames := 2, cells := 1, slots := 10, locals := 29 } : Room) Z #[(.ref a)] h0 (Q_rm_gr0 Z a wD kD mc h0 n0) 1 10 := by
  refine enter (Ls := #[.val (.ref a)]) (plainFor_of_name pn_2) (fun m => by first | rfl | (simp [entryFrame, mkF, argsToLocals, Value.category]; done)) ?_
  intro p e s m below meth c T0 hx hby hml hown hnm hret hlk hZ X0 e0
  have N0 := Fr.nil n0
  replace hown : s.vm.findClass "java/util/ArrayList" = some m.cls := hown
  show Run p e below _ (T0.setTop (mkF m 0 #[.val (.ref a)] []))
  have K0 := Keep.refl h0 [a]
  refine go (fun _ => XS.aloadN X0.here hx rfl (hb hby d_j38_m7_0) rfl rfl) ?_
  show Run p e below _ (T0.setTop (mkF m 1 #[.val (.ref a)] [(.ref a)]))
  refine go (fun _ => XS.aloadN X0.here hx rfl (hb hby d_j38_m7_1) rfl rfl) ?_
  show Run p e below _ (T0.setTop (mkF m 2 #[.val (.ref a)] [(.ref a), (.ref a)]))
  obtain ⟨T15, X15, e15, st15⟩ := getF X0 hx hZ hown (host := "") (Or.inl (wd hw 45 rfl)) Via.refl e0 F_size_a (g := (mkF m 2 #[.val (.ref a)] [(.ref a), (.ref a)])) rfl rfl (hb hby d_j38_m7_2)
  refine go st15 ?_
  show Run p e below _ (T15.setTop (mkF m 5 #[.val (.ref a)] [(.int (0 : Int32)), (.ref a)]))
  refine go (fun _ => XS.iconst X15.here hx rfl (hb hby d_j38_m7_5)) ?_
  show Run p e below _ (T15.setTop (mkF m 6 #[.val (.ref a)] [(.int (1 : Int32)), (.int (0 : Int32)), (.ref a)]))
  refine go (fun _ => XS.iadd X15.here hx rfl (hb hby d_j38_m7_6) rfl) ?_
  show Run p e below _ (T15.setTop (mkF m 7 #[.val (.ref a)] [(.int ((0 : Int32) + (1 : Int32))), (.ref a)]))
  show Run p e below _ (T15.setTop (mkF m 7 #[.val (.ref a)] [(.int (1 : Int32)), (.ref a)]))
  refine callPr X15 hx hZ hown (wd hw 57 rfl) (wd hw 59 rfl) (wd hw 60 rfl) (wd hw 58 rfl) (wd hw 61 rfl) (wd hw 3 rfl) (by decide) e15 E_a (argsL := [(.int (1 : Int32))]) (rest := []) (rm_gr1 l Z a0 hw [] a wD kD mc h0 n0 O0 S_DEFAULTCAPACITY_EMPTY_ELEMENTDATA VD E_a F_modCount_a F_elementData_a F_size_a g_a) (W := 0) (by decide) (by decide) (by decide) (by decide) (by rw [hml]; rfl) (lenOf pd_2 rfl) rfl (Nat.le_of_eq rfl) (hb hby d_j38_m7_7) ?_
  intro v16 T16 L16 h16 X16 e16 q16
  have lt17_a := E_a.lt
  obtain ⟨b16, k16, rfl, n16, K16, sb16, g_b16, E_a, F_modCount_a, F_elementData_a, F_size_a, O16, V_b16⟩ := q16
  have szq16 := K0.1
  have ne_a_b16 : a ≠ b16 := Nat.ne_of_lt (Nat.lt_of_lt_of_le lt17_a sb16)
  have O0 := O0.keep K16 (allS g_a all0)
  have K0 := K0.trans K16 (allS (Or.inl (by simp)) all0)
  have sz_b16 : h0.size ≤ b16 := Nat.le_trans szq16 sb16
  have N16 := Fr.app N0 n16
  show Run p e below _ (T16.setTop (mkF m 10 #[.val (.ref a)] [(.ref b16)]))
  exact endA X16 hx hlk (w := (.ref b16)) hret rfl rfl (hb hby d_j38_m7_10) (by rw [e16]; exact ⟨b16, _, rfl, N16, K0, sz_b16, g_b16, E_a, F_modCount_a, F_elementData_a, F_size_a, O16, V_b16⟩) (by decide) (by decide)
theorem own_sub {Z s' : State} {a0 : Array Value} {o : Option Outcome} {idx : List Nat} {a b : Jvm.Term} {x y : Int32} (ha : a.eval a0 Z o idx s' = some (.int x)) (hb : b.eval a0 Z o idx s' = some (.int y)) : (Jvm.Term.sub a b).eval a0 Z o idx s' = some (.int (x - y)) := by simp [Term.eval, ha, hb]
theorem own_idx (x : Int32) (h1 : ¬ x < (-128 : Int32)) (h2 : ¬ (127 : Int32) < x) : ¬ (x + (128 : Int32)) < 0 ∧ (x + (128 : Int32)) < (256 : Int32) := by
  simp only [Int32.lt_iff_toInt_lt] at *
  have e := c_iadd x 128; have r := rng32 x; have r' := rng32 (x + 128)
  have k1 : (128 : Int32).toInt = 128 := by decide
  have k2 : (256 : Int32).toInt = 256 := by decide
  have k3 : (-128 : Int32).toInt = -128 := by decide
  have k4 : (127 : Int32).toInt = 127 := by decide
  have k5 : (0 : Int32).toInt = 0 := by decide
  omega
theorem d_j18_m1_0 : decode jdk_18_method_1_code 0 = .ok (.aload_n 0, 1) := by decide +kernel
theorem d_j18_m1_1 : decode jdk_18_method_1_code 1 = .ok (.invokespecial 1, 3) := by decide +kernel
theorem d_j18_m1_4 : decode jdk_18_method_1_code 4 = .ok (.return_, 1) := by decide +kernel
theorem pn_4 : plainName "java/lang/Number" = true := by first | (simp [plainName, overriddenIn]; done) | decide +kernel
def Q_rm_num (a : Addr) (h0 : Heap) (n0 : Nat) (v : Option Value) (h : Heap) (L : List Loc) : Prop := v = none ∧ Fr n0 L ∧ h = h0
set_option maxRecDepth 65536 in
set_option maxHeartbeats 40000000 in
theorem rm_num (l : Launch) (Z : State) (a0 : Array Value) (hw : ∀ d ∈ tables_1, d.before a0 Z = true) (ws : List Jvm.Cond) (a : Addr) (h0 : Heap) (n0 : Nat) (O0 : Old Z n0 h0)  :
    Meets l (⟨"java/lang/Number", "<init>", "()V"⟩ : MethodName) jdk_18_method_1_code 1 none ws ({ frames := 1, cells := 0, slots := 0, locals := 12 } : Room) Z #[(.ref a)] h0 (Q_rm_num a h0 n0) 0 0 := by
  refine enter (Ls := #[.val (.ref a)]) (plainFor_of_name pn_4) (fun m => by first | rfl | (simp [entryFrame, mkF, argsToLocals, Value.category]; done)) ?_
  intro p e s m below meth c T0 hx hby hml hown hnm hret hlk hZ X0 e0
  have N0 := Fr.nil n0
  replace hown : s.vm.findClass "java/lang/Number" = some m.cls := hown
  show Run p e below _ (T0.setTop (mkF m 0 #[.val (.ref a)] []))
  refine go (fun _ => XS.aloadN X0.here hx rfl (hb hby d_j18_m1_0) rfl rfl) ?_
  show Run p e below _ (T0.setTop (mkF m 1 #[.val (.ref a)] [(.ref a)]))
  obtain ⟨T18, X18, e18, st18⟩ := initO X0 hx hZ hown (wd hw 109 rfl) (wd hw 20 rfl) (wd hw 21 rfl) e0 (g := (mkF m 1 #[.val (.ref a)] [(.ref a)])) rfl (by rw [hml]; rfl) rfl (hb hby d_j18_m1_1) (by decide) (W := 0) (by show 2 * 0 + _ ≤ _; exact Nat.le_of_eq rfl) (by decide)
  refine go st18 ?_
  show Run p e below _ (T18.setTop (mkF m 4 #[.val (.ref a)] []))
  exact endV X18 hx hlk hret (hb hby d_j18_m1_4) (⟨rfl, N0, e18⟩) (by decide) (by decide)
theorem d_j33_m23_0 : decode jdk_33_method_23_code 0 = .ok (.aload_n 0, 1) := by decide +kernel
theorem d_j33_m23_1 : decode jdk_33_method_23_code 1 = .ok (.invokespecial 202, 3) := by decide +kernel
theorem d_j33_m23_4 : decode jdk_33_method_23_code 4 = .ok (.aload_n 0, 1) := by decide +kernel
theorem d_j33_m23_5 : decode jdk_33_method_23_code 5 = .ok (.iload_n 1, 1) := by decide +kernel
theorem d_j33_m23_6 : decode jdk_33_method_23_code 6 = .ok (.putfield 205, 3) := by decide +kernel
theorem d_j33_m23_9 : decode jdk_33_method_23_code 9 = .ok (.return_, 1) := by decide +kernel
theorem pn_5 : plainName "java/lang/Integer" = true := by first | (simp [plainName, overriddenIn]; done) | decide +kernel
def Q_rm_int (Z : State) (a : Addr) (p1 : Int32) (h0 : Heap) (n0 : Nat) (v : Option Value) (h : Heap) (L : List Loc) : Prop := v = none ∧ Fr n0 L ∧ Keep h0 h [a] ∧ Exa Z h a "java/lang/Integer" ∧ Fld Z h a "java/lang/Integer" "value" "I" (.int p1)
set_option maxRecDepth 65536 in
set_option maxHeartbeats 40000000 in
theorem rm_int (l : Launch) (Z : State) (a0 : Array Value) (hw : ∀ d ∈ tables_1, d.before a0 Z = true) (ws : List Jvm.Cond) (a : Addr) (p1 : Int32) (h0 : Heap) (n0 : Nat) (O0 : Old Z n0 h0) (E_a : Exa Z h0 a "java/lang/Integer") (F_value_a : Fld Z h0 a "java/lang/Integer" "value" "I" (.int (0 : Int32))) (g_a : n0 ≤ a) :
    Meets l (⟨"java/lang/Integer", "<init>", "(I)V"⟩ : MethodName) jdk_33_method_23_code 2 none ws ({ frames := 2, cells := 0, slots := 0, locals := 24 } : Room) Z #[(.ref a), (.int p1)] h0 (Q_rm_int Z a p1 h0 n0) 0 0 := by
  refine enter (Ls := #[.val (.ref a), .val (.int p1)]) (plainFor_of_name pn_5) (fun m => by first | rfl | (simp [entryFrame, mkF, argsToLocals, Value.category]; done)) ?_
  intro p e s m below meth c T0 hx hby hml hown hnm hret hlk hZ X0 e0
  have N0 := Fr.nil n0
  replace hown : s.vm.findClass "java/lang/Integer" = some m.cls := hown
  show Run p e below _ (T0.setTop (mkF m 0 #[.val (.ref a), .val (.int p1)] []))
  have K0 := Keep.refl h0 [a]
  refine go (fun _ => XS.aloadN X0.here hx rfl (hb hby d_j33_m23_0) rfl rfl) ?_
  show Run p e below _ (T0.setTop (mkF m 1 #[.val (.ref a), .val (.int p1)] [(.ref a)]))
  refine callSp X0 hx hZ rfl hown (wd hw 103 rfl) (wd hw 104 rfl) (wd hw 108 rfl) (wd hw 107 rfl) (by decide) e0 (a := a) (argsL := []) (rest := []) (rm_num l Z a0 hw [] a h0 n0 O0) (W := 0) (by decide) (by decide) (by decide) (by decide) (by rw [hml]; rfl) (lenOf pd_0 rfl) rfl (Nat.le_of_eq rfl) (hb hby d_j33_m23_1) ?_
  intro v19 T19 L19 h19 X19 e19 q19
  obtain ⟨rfl, n19, k19⟩ := q19
  have e19 := e19.trans k19
  have N19 := Fr.app N0 n19
  show Run p e below _ (T19.setTop (mkF m 4 #[.val (.ref a), .val (.int p1)] []))
  refine go (fun _ => XS.aloadN X19.here hx rfl (hb hby d_j33_m23_4) rfl rfl) ?_
  show Run p e below _ (T19.setTop (mkF m 5 #[.val (.ref a), .val (.int p1)] [(.ref a)]))
  refine go (fun _ => XS.iloadN X19.here hx rfl (hb hby d_j33_m23_5) rfl) ?_
  show Run p e below _ (T19.setTop (mkF m 6 #[.val (.ref a), .val (.int p1)] [(.int p1), (.ref a)]))
  obtain ⟨T20, h20, X20, e20, W20, st20⟩ := putF X19 hx hZ hown (host := "") (Or.inl (wd hw 110 rfl)) Via.refl e19 F_value_a E_a (Or.inr ⟨(wd hw 111 rfl), rfl, hnm⟩) (wd hw 98 rfl) (ty := .int) (by decide) rfl rfl (g := (mkF m 6 #[.val (.ref a), .val (.int p1)] [(.int p1), (.ref a)])) rfl rfl (hb hby d_j33_m23_6)
  have O0 := O0.wr W20 g_a
  have E_a := E_a.wr W20
  have F_value_a := F_value_a.same W20
  have K0 := K0.wr W20 (Or.inl (by simp))
  have N20 := Fr.snoc X20 N19 g_a
  refine go st20 ?_
  show Run p e below _ (T20.setTop (mkF m 9 #[.val (.ref a), .val (.int p1)] []))
  exact endV X20 hx hlk hret (hb hby d_j33_m23_9) (by rw [e20]; exact ⟨rfl, N20, K0, E_a, F_value_a⟩) (by decide) (by decide)
theorem d_j33_m22_0 : decode jdk_33_method_22_code 0 = .ok (.iload_n 0, 1) := by decide +kernel
theorem d_j33_m22_1 : decode jdk_33_method_22_code 1 = .ok (.bipush (-128), 2) := by decide +kernel
theorem d_j33_m22_3 : decode jdk_33_method_22_code 3 = .ok (.if_icmp .lt 20, 3) := by decide +kernel
theorem d_j33_m22_23 : decode jdk_33_method_22_code 23 = .ok (.new 1, 3) := by decide +kernel
theorem d_j33_m22_26 : decode jdk_33_method_22_code 26 = .ok (.dup, 1) := by decide +kernel
theorem d_j33_m22_27 : decode jdk_33_method_22_code 27 = .ok (.iload_n 0, 1) := by decide +kernel
theorem d_j33_m22_28 : decode jdk_33_method_22_code 28 = .ok (.invokespecial 199, 3) := by decide +kernel
theorem pd_3 : parseMethodDescriptor "(I)V" = some ⟨[.int], none⟩ := by decide +kernel
theorem d_j33_m22_31 : decode jdk_33_method_22_code 31 = .ok (.areturn, 1) := by decide +kernel
theorem d_j33_m22_6 : decode jdk_33_method_22_code 6 = .ok (.iload_n 0, 1) := by decide +kernel
theorem d_j33_m22_7 : decode jdk_33_method_22_code 7 = .ok (.getstatic 191, 3) := by decide +kernel
theorem d_j33_m22_10 : decode jdk_33_method_22_code 10 = .ok (.if_icmp .gt 13, 3) := by decide +kernel
theorem d_j33_m22_13 : decode jdk_33_method_22_code 13 = .ok (.getstatic 195, 3) := by decide +kernel
theorem d_j33_m22_16 : decode jdk_33_method_22_code 16 = .ok (.iload_n 0, 1) := by decide +kernel
theorem d_j33_m22_17 : decode jdk_33_method_22_code 17 = .ok (.sipush 128, 3) := by decide +kernel
theorem d_j33_m22_20 : decode jdk_33_method_22_code 20 = .ok (.iadd, 1) := by decide +kernel
theorem d_j33_m22_21 : decode jdk_33_method_22_code 21 = .ok (.aaload, 1) := by decide +kernel
theorem d_j33_m22_22 : decode jdk_33_method_22_code 22 = .ok (.areturn, 1) := by decide +kernel
def Q_rm_vo (Z : State) (p1 : Int32) (wc : Addr) (cl : Cell) (val : Int32 → Value) (h0 : Heap) (n0 : Nat) (v : Option Value) (h : Heap) (L : List Loc) : Prop := ∃ b : Addr, v = some (.ref b) ∧ Fr n0 L ∧ Keep h0 h [] ∧ Exa Z h b "java/lang/Integer"
set_option maxRecDepth 65536 in
set_option maxHeartbeats 40000000 in
theorem rm_vo (l : Launch) (Z : State) (a0 : Array Value) (hw : ∀ d ∈ tables_1, d.before a0 Z = true) (ws : List Jvm.Cond) (p1 : Int32) (wc : Addr) (cl : Cell) (val : Int32 → Value) (h0 : Heap) (n0 : Nat) (O0 : Old Z n0 h0) (S_high : Sta Z Z.heap "java/lang/Integer$IntegerCache" "high" "I" (.int (127 : Int32))) (S_cache : Sta Z Z.heap "java/lang/Integer$IntegerCache" "cache" "[Ljava/lang/Integer;" (.ref wc)) (Bx : Bxs Z wc cl "java/lang/Integer" "I" (256 : Int32) val) :
    Meets l (⟨"java/lang/Integer", "valueOf", "(I)Ljava/lang/Integer;"⟩ : MethodName) jdk_33_method_22_code 1 (some (.object "java/lang/Integer")) ws ({ frames := 3, cells := 1, slots := 1, locals := 38 } : Room) Z #[(.int p1)] h0 (Q_rm_vo Z p1 wc cl val h0 n0) 1 1 := by
  refine enter (Ls := #[.val (.int p1)]) (plainFor_of_name pn_5) (fun m => by first | rfl | (simp [entryFrame, mkF, argsToLocals, Value.category]; done)) ?_
  intro p e s m below meth c T0 hx hby hml hown hnm hret hlk hZ X0 e0
  have N0 := Fr.nil n0
  replace hown : s.vm.findClass "java/lang/Integer" = some m.cls := hown
  show Run p e below _ (T0.setTop (mkF m 0 #[.val (.int p1)] []))
  have K0 := Keep.refl h0 []
  refine go (fun _ => XS.iloadN X0.here hx rfl (hb hby d_j33_m22_0) rfl) ?_
  show Run p e below _ (T0.setTop (mkF m 1 #[.val (.int p1)] [(.int p1)]))
  refine go (fun _ => XS.bipush X0.here hx rfl (hb hby d_j33_m22_1)) ?_
  show Run p e below _ (T0.setTop (mkF m 3 #[.val (.int p1)] [(.int (-128 : Int32)), (.int p1)]))
  by_cases c21 : p1 < (-128 : Int32)
  · skip
    refine go (fun _ => XS.icmpYes X0.here hx rfl (pc0 := 3) (pc' := 23) rfl (hb hby d_j33_m22_3) rfl (tlt c21).1 (by decide) (by decide)) ?_
    show Run p e below _ (T0.setTop (mkF m 23 #[.val (.int p1)] []))
    obtain ⟨T22, h22, X22, e22, E22, A22, D22, -, st22⟩ := newO X0 hx hZ hown (wd hw 97 rfl) (wd hw 98 rfl) (wd hw 29 rfl) e0 (g := (mkF m 23 #[.val (.int p1)] [])) rfl (hb hby d_j33_m22_23) (by decide) (by decide)
    obtain ⟨b22, y22⟩ : ∃ z, z = h0.size := ⟨_, rfl⟩
    rw [← y22] at A22 D22 st22
    have g_b22 : n0 ≤ b22 := y22.symm ▸ old_sz O0
    have sz_b22 : h0.size ≤ b22 := y22.symm ▸ K0.1
    have O0 := O0.ext E22
    have K0 := K0.ext E22
    have E_b22 := A22
    have F_value_b22 : Fld Z h22 b22 "java/lang/Integer" "value" "I" (.int (0 : Int32)) := D22 (Or.inr (wd hw 111 rfl)) (ty := .int) (by decide)
    refine go st22 ?_
    show Run p e below _ (T22.setTop (mkF m 26 #[.val (.int p1)] [(.ref b22)]))
    refine go (fun _ => XS.dup X22.here hx rfl (hb hby d_j33_m22_26) rfl rfl) ?_
    show Run p e below _ (T22.setTop (mkF m 27 #[.val (.int p1)] [(.ref b22), (.ref b22)]))
    refine go (fun _ => XS.iloadN X22.here hx rfl (hb hby d_j33_m22_27) rfl) ?_
    show Run p e below _ (T22.setTop (mkF m 28 #[.val (.int p1)] [(.int p1), (.ref b22), (.ref b22)]))
    refine callSp X22 hx hZ rfl hown (wd hw 99 rfl) (wd hw 100 rfl) (wd hw 102 rfl) (wd hw 29 rfl) (by decide) e22 (a := b22) (argsL := [(.int p1)]) (rest := [(.ref b22)]) (rm_int l Z a0 hw [] b22 p1 h22 n0 O0 E_b22 F_value_b22 g_b22) (W := 1) (by decide) (by decide) (by decide) (by decide) (by rw [hml]; rfl) (lenOf pd_3 rfl) rfl (Nat.le_of_eq rfl) (hb hby d_j33_m22_28) ?_
    intro v23 T23 L23 h23 X23 e23 q23
    obtain ⟨rfl, n23, K23, E_b22, F_value_b22⟩ := q23
    have O0 := O0.keep K23 (allS g_b22 all0)
    have K0 := K0.trans K23 (allS (Or.inr sz_b22) all0)
    have N23 := Fr.app N0 n23
    show Run p e below _ (T23.setTop (mkF m 31 #[.val (.int p1)] [(.ref b22)]))
    exact endA X23 hx hlk (w := (.ref b22)) hret rfl rfl (hb hby d_j33_m22_31) (by rw [e23]; exact ⟨b22, rfl, N23, K0, E_b22⟩) (by decide) (by decide)
  · skip
    refine go (fun _ => XS.icmpNo X0.here hx rfl (hb hby d_j33_m22_3) rfl (flt c21).1) ?_
    show Run p e below _ (T0.setTop (mkF m 6 #[.val (.int p1)] []))
    refine go (fun _ => XS.iloadN X0.here hx rfl (hb hby d_j33_m22_6) rfl) ?_
    show Run p e below _ (T0.setTop (mkF m 7 #[.val (.int p1)] [(.int p1)]))
    obtain ⟨T24, X24, e24, st24⟩ := getS2 X0 hx hZ hown (host := "") (Or.inl (wd hw 31 rfl)) Via.refl e0 (S_high.ext O0.2) (g := (mkF m 7 #[.val (.int p1)] [(.int p1)])) rfl (hb hby d_j33_m22_7)
    refine go st24 ?_
    show Run p e below _ (T24.setTop (mkF m 10 #[.val (.int p1)] [(.int (127 : Int32)), (.int p1)]))
    by_cases c25 : (127 : Int32) < p1
    · skip
      refine go (fun _ => XS.icmpYes X24.here hx rfl (pc0 := 10) (pc' := 23) rfl (hb hby d_j33_m22_10) rfl (tlt c25).2.2.1 (by decide) (by decide)) ?_
      show Run p e below _ (T24.setTop (mkF m 23 #[.val (.int p1)] []))
      obtain ⟨T26, h26, X26, e26, E26, A26, D26, -, st26⟩ := newO X24 hx hZ hown (wd hw 97 rfl) (wd hw 98 rfl) (wd hw 29 rfl) e24 (g := (mkF m 23 #[.val (.int p1)] [])) rfl (hb hby d_j33_m22_23) (by decide) (by decide)
      obtain ⟨b26, y26⟩ : ∃ z, z = h0.size := ⟨_, rfl⟩
      rw [← y26] at A26 D26 st26
      have g_b26 : n0 ≤ b26 := y26.symm ▸ old_sz O0
      have sz_b26 : h0.size ≤ b26 := y26.symm ▸ K0.1
      have O0 := O0.ext E26
      have K0 := K0.ext E26
      have E_b26 := A26
      have F_value_b26 : Fld Z h26 b26 "java/lang/Integer" "value" "I" (.int (0 : Int32)) := D26 (Or.inr (wd hw 111 rfl)) (ty := .int) (by decide)
      refine go st26 ?_
      show Run p e below _ (T26.setTop (mkF m 26 #[.val (.int p1)] [(.ref b26)]))
      refine go (fun _ => XS.dup X26.here hx rfl (hb hby d_j33_m22_26) rfl rfl) ?_
      show Run p e below _ (T26.setTop (mkF m 27 #[.val (.int p1)] [(.ref b26), (.ref b26)]))
      refine go (fun _ => XS.iloadN X26.here hx rfl (hb hby d_j33_m22_27) rfl) ?_
      show Run p e below _ (T26.setTop (mkF m 28 #[.val (.int p1)] [(.int p1), (.ref b26), (.ref b26)]))
      refine callSp X26 hx hZ rfl hown (wd hw 99 rfl) (wd hw 100 rfl) (wd hw 102 rfl) (wd hw 29 rfl) (by decide) e26 (a := b26) (argsL := [(.int p1)]) (rest := [(.ref b26)]) (rm_int l Z a0 hw [] b26 p1 h26 n0 O0 E_b26 F_value_b26 g_b26) (W := 1) (by decide) (by decide) (by decide) (by decide) (by rw [hml]; rfl) (lenOf pd_3 rfl) rfl (Nat.le_of_eq rfl) (hb hby d_j33_m22_28) ?_
      intro v27 T27 L27 h27 X27 e27 q27
      obtain ⟨rfl, n27, K27, E_b26, F_value_b26⟩ := q27
      have O0 := O0.keep K27 (allS g_b26 all0)
      have K0 := K0.trans K27 (allS (Or.inr sz_b26) all0)
      have N27 := Fr.app N0 n27
      show Run p e below _ (T27.setTop (mkF m 31 #[.val (.int p1)] [(.ref b26)]))
      exact endA X27 hx hlk (w := (.ref b26)) hret rfl rfl (hb hby d_j33_m22_31) (by rw [e27]; exact ⟨b26, rfl, N27, K0, E_b26⟩) (by decide) (by decide)
    · skip
      refine go (fun _ => XS.icmpNo X24.here hx rfl (hb hby d_j33_m22_10) rfl (flt c25).2.2.1) ?_
      show Run p e below _ (T24.setTop (mkF m 13 #[.val (.int p1)] []))
      obtain ⟨T28, X28, e28, st28⟩ := getS2 X24 hx hZ hown (host := "") (Or.inl (wd hw 33 rfl)) Via.refl e24 (S_cache.ext O0.2) (g := (mkF m 13 #[.val (.int p1)] [])) rfl (hb hby d_j33_m22_13)
      refine go st28 ?_
      show Run p e below _ (T28.setTop (mkF m 16 #[.val (.int p1)] [(.ref wc)]))
      refine go (fun _ => XS.iloadN X28.here hx rfl (hb hby d_j33_m22_16) rfl) ?_
      show Run p e below _ (T28.setTop (mkF m 17 #[.val (.int p1)] [(.int p1), (.ref wc)]))
      refine go (fun _ => XS.sipush X28.here hx rfl (hb hby d_j33_m22_17)) ?_
      show Run p e below _ (T28.setTop (mkF m 20 #[.val (.int p1)] [(.int (128 : Int32)), (.int p1), (.ref wc)]))
      refine go (fun _ => XS.iadd X28.here hx rfl (hb hby d_j33_m22_20) rfl) ?_
      show Run p e below _ (T28.setTop (mkF m 21 #[.val (.int p1)] [(.int (p1 + (128 : Int32))), (.ref wc)]))
      obtain ⟨Ar, Sz, -, El⟩ := Bx
      have hin := inb_of Sz (own_idx p1 c21 c25)
      obtain ⟨bx, hat, Ebx, -⟩ := El _ hin
      have Ar := Ar.ext O0.2
      have Ebx := Ebx.ext O0.2
      refine go (fun _ => X28.aaload hx (j := (p1 + (128 : Int32))) (v := .ref bx) (by rw [e28]; exact Ar.1) (State.isArrayOf_alike hZ.alike Ar.2.1) rfl Ar.2.2 hin hat (g := (mkF m 21 #[.val (.int p1)] [(.int (p1 + (128 : Int32))), (.ref wc)])) rfl rfl (hb hby d_j33_m22_21) _) ?_
      show Run p e below _ (T28.setTop (mkF m 22 #[.val (.int p1)] [(.ref bx)]))
      exact endA X28 hx hlk (w := (.ref bx)) hret rfl rfl (hb hby d_j33_m22_22) (by rw [e28]; exact ⟨bx, rfl, N0, K0, Ebx⟩) (by decide) (by decide)
theorem d_j30_m1_0 : decode jdk_30_method_1_code 0 = .ok (.aload_n 0, 1) := by decide +kernel
theorem d_j30_m1_1 : decode jdk_30_method_1_code 1 = .ok (.invokespecial 1, 3) := by decide +kernel
theorem d_j30_m1_4 : decode jdk_30_method_1_code 4 = .ok (.return_, 1) := by decide +kernel
theorem pn_6 : plainName "java/lang/Record" = true := by first | (simp [plainName, overriddenIn]; done) | decide +kernel
def Q_rm_rec (a : Addr) (h0 : Heap) (n0 : Nat) (v : Option Value) (h : Heap) (L : List Loc) : Prop := v = none ∧ Fr n0 L ∧ h = h0
set_option maxRecDepth 65536 in
set_option maxHeartbeats 40000000 in
theorem rm_rec (l : Launch) (Z : State) (a0 : Array Value) (hw : ∀ d ∈ tables_1, d.before a0 Z = true) (ws : List Jvm.Cond) (a : Addr) (h0 : Heap) (n0 : Nat) (O0 : Old Z n0 h0)  :
    Meets l (⟨"java/lang/Record", "<init>", "()V"⟩ : MethodName) jdk_30_method_1_code 1 none ws ({ frames := 1, cells := 0, slots := 0, locals := 12 } : Room) Z #[(.ref a)] h0 (Q_rm_rec a h0 n0) 0 0 := by
  refine enter (Ls := #[.val (.ref a)]) (plainFor_of_name pn_6) (fun m => by first | rfl | (simp [entryFrame, mkF, argsToLocals, Value.category]; done)) ?_
  intro p e s m below meth c T0 hx hby hml hown hnm hret hlk hZ X0 e0
  have N0 := Fr.nil n0
  replace hown : s.vm.findClass "java/lang/Record" = some m.cls := hown
  show Run p e below _ (T0.setTop (mkF m 0 #[.val (.ref a)] []))
  refine go (fun _ => XS.aloadN X0.here hx rfl (hb hby d_j30_m1_0) rfl rfl) ?_
  show Run p e below _ (T0.setTop (mkF m 1 #[.val (.ref a)] [(.ref a)]))
  obtain ⟨T29, X29, e29, st29⟩ := initO X0 hx hZ hown (wd hw 80 rfl) (wd hw 20 rfl) (wd hw 21 rfl) e0 (g := (mkF m 1 #[.val (.ref a)] [(.ref a)])) rfl (by rw [hml]; rfl) rfl (hb hby d_j30_m1_1) (by decide) (W := 0) (by show 2 * 0 + _ ≤ _; exact Nat.le_of_eq rfl) (by decide)
  refine go st29 ?_
  show Run p e below _ (T29.setTop (mkF m 4 #[.val (.ref a)] []))
  exact endV X29 hx hlk hret (hb hby d_j30_m1_4) (⟨rfl, N0, e29⟩) (by decide) (by decide)
theorem d_p15_m1_0 : decode prog_15_method_1_code 0 = .ok (.aload_n 0, 1) := by decide +kernel
theorem d_p15_m1_1 : decode prog_15_method_1_code 1 = .ok (.invokespecial 1, 3) := by decide +kernel
theorem d_p15_m1_4 : decode prog_15_method_1_code 4 = .ok (.aload_n 0, 1) := by decide +kernel
theorem d_p15_m1_5 : decode prog_15_method_1_code 5 = .ok (.aload_n 1, 1) := by decide +kernel
theorem d_p15_m1_6 : decode prog_15_method_1_code 6 = .ok (.putfield 7, 3) := by decide +kernel
theorem d_p15_m1_9 : decode prog_15_method_1_code 9 = .ok (.aload_n 0, 1) := by decide +kernel
theorem d_p15_m1_10 : decode prog_15_method_1_code 10 = .ok (.iload_n 2, 1) := by decide +kernel
theorem d_p15_m1_11 : decode prog_15_method_1_code 11 = .ok (.putfield 13, 3) := by decide +kernel
theorem d_p15_m1_14 : decode prog_15_method_1_code 14 = .ok (.aload_n 0, 1) := by decide +kernel
theorem d_p15_m1_15 : decode prog_15_method_1_code 15 = .ok (.lload_n 3, 1) := by decide +kernel
theorem d_p15_m1_16 : decode prog_15_method_1_code 16 = .ok (.putfield 17, 3) := by decide +kernel
theorem d_p15_m1_19 : decode prog_15_method_1_code 19 = .ok (.return_, 1) := by decide +kernel
theorem pn_7 : plainName "com/example/gridsteward/gridsteward/Listing" = true := by first | (simp [plainName, overriddenIn]; done) | decide +kernel
def Q_rm_lst (Z : State) (a r : Addr) (p1 : Int32) (q1 : Int64) (h0 : Heap) (n0 : Nat) (v : Option Value) (h : Heap) (L : List Loc) : Prop := v = none ∧ Fr n0 L ∧ Keep h0 h [a] ∧ Exa Z h a "com/example/gridsteward/gridsteward/Listing" ∧ Fld Z h a "com/example/gridsteward/gridsteward/Listing" "total" "J" (.long q1)
set_option maxRecDepth 65536 in
set_option maxHeartbeats 40000000 in
theorem rm_lst (l : Launch) (Z : State) (a0 : Array Value) (hw : ∀ d ∈ tables_1, d.before a0 Z = true) (ws : List Jvm.Cond) (a r : Addr) (p1 : Int32) (q1 : Int64) (h0 : Heap) (n0 : Nat) (O0 : Old Z n0 h0) (E_a : Exa Z h0 a "com/example/gridsteward/gridsteward/Listing") (F_items_a : Fld Z h0 a "com/example/gridsteward/gridsteward/Listing" "items" "Ljava/util/List;" .null) (F_page_a : Fld Z h0 a "com/example/gridsteward/gridsteward/Listing" "page" "I" (.int (0 : Int32))) (F_total_a : Fld Z h0 a "com/example/gridsteward/gridsteward/Listing" "total" "J" (.long (0 : Int64))) (g_a : n0 ≤ a) :
    Meets l (⟨"com/example/gridsteward/gridsteward/Listing", "<init>", "(Ljava/util/List;IJ)V"⟩ : MethodName) prog_15_method_1_code 5 none ws ({ frames := 2, cells := 0, slots := 0, locals := 24 } : Room) Z #[(.ref a), (.ref r), (.int p1), (.long q1)] h0 (Q_rm_lst Z a r p1 q1 h0 n0) 0 0 := by
  refine enter (Ls := #[.val (.ref a), .val (.ref r), .val (.int p1), .val (.long q1), .second]) (plainFor_of_name pn_7) (fun m => by first | rfl | (simp [entryFrame, mkF, argsToLocals, Value.category]; done)) ?_
  intro p e s m below meth c T0 hx hby hml hown hnm hret hlk hZ X0 e0
  have N0 := Fr.nil n0
  replace hown : s.vm.findClass "com/example/gridsteward/gridsteward/Listing" = some m.cls := hown
  show Run p e below _ (T0.setTop (mkF m 0 #[.val (.ref a), .val (.ref r), .val (.int p1), .val (.long q1), .second] []))
  have K0 := Keep.refl h0 [a]
  refine go (fun _ => XS.aloadN X0.here hx rfl (hb hby d_p15_m1_0) rfl rfl) ?_
  show Run p e below _ (T0.setTop (mkF m 1 #[.val (.ref a), .val (.ref r), .val (.int p1), .val (.long q1), .second] [(.ref a)]))
  refine callSp X0 hx hZ rfl hown (wd hw 75 rfl) (wd hw 76 rfl) (wd hw 79 rfl) (wd hw 78 rfl) (by decide) e0 (a := a) (argsL := []) (rest := []) (rm_rec l Z a0 hw [] a h0 n0 O0) (W := 0) (by decide) (by decide) (by decide) (by decide) (by rw [hml]; rfl) (lenOf pd_0 rfl) rfl (Nat.le_of_eq rfl) (hb hby d_p15_m1_1) ?_
  intro v30 T30 L30 h30 X30 e30 q30
  obtain ⟨rfl, n30, k30⟩ := q30
  have e30 := e30.trans k30
  have N30 := Fr.app N0 n30
  show Run p e below _ (T30.setTop (mkF m 4 #[.val (.ref a), .val (.ref r), .val (.int p1), .val (.long q1), .second] []))
  refine go (fun _ => XS.aloadN X30.here hx rfl (hb hby d_p15_m1_4) rfl rfl) ?_
  show Run p e below _ (T30.setTop (mkF m 5 #[.val (.ref a), .val (.ref r), .val (.int p1), .val (.long q1), .second] [(.ref a)]))
  refine go (fun _ => XS.aloadN X30.here hx rfl (hb hby d_p15_m1_5) rfl rfl) ?_
  show Run p e below _ (T30.setTop (mkF m 6 #[.val (.ref a), .val (.ref r), .val (.int p1), .val (.long q1), .second] [(.ref r), (.ref a)]))
  obtain ⟨T31, h31, X31, e31, W31, st31⟩ := putF X30 hx hZ hown (host := "") (Or.inl (wd hw 81 rfl)) Via.refl e30 F_items_a E_a (Or.inr ⟨(wd hw 82 rfl), rfl, hnm⟩) (wd hw 70 rfl) (ty := (.object "java/util/List")) (by decide) rfl rfl (g := (mkF m 6 #[.val (.ref a), .val (.ref r), .val (.int p1), .val (.long q1), .second] [(.ref r), (.ref a)])) rfl rfl (hb hby d_p15_m1_6)
  have O0 := O0.wr W31 g_a
  have E_a := E_a.wr W31
  have F_items_a := F_items_a.same W31
  have F_page_a := F_page_a.other W31 (Or.inr (slot_ne (Or.inr (wd hw 84 rfl)) (Or.inr (wd hw 82 rfl)) (by decide) (t := .int) (t' := (.object "java/util/List")) (by decide) (by decide)))
  have F_total_a := F_total_a.other W31 (Or.inr (slot_ne (Or.inr (wd hw 86 rfl)) (Or.inr (wd hw 82 rfl)) (by decide) (t := .long) (t' := (.object "java/util/List")) (by decide) (by decide)))
  have K0 := K0.wr W31 (Or.inl (by simp))
  have N31 := Fr.snoc X31 N30 g_a
  refine go st31 ?_
  show Run p e below _ (T31.setTop (mkF m 9 #[.val (.ref a), .val (.ref r), .val (.int p1), .val (.long q1), .second] []))
  refine go (fun _ => XS.aloadN X31.here hx rfl (hb hby d_p15_m1_9) rfl rfl) ?_
  show Run p e below _ (T31.setTop (mkF m 10 #[.val (.ref a), .val (.ref r), .val (.int p1), .val (.long q1), .second] [(.ref a)]))
  refine go (fun _ => XS.iloadN X31.here hx rfl (hb hby d_p15_m1_10) rfl) ?_
  show Run p e below _ (T31.setTop (mkF m 11 #[.val (.ref a), .val (.ref r), .val (.int p1), .val (.long q1), .second] [(.int p1), (.ref a)]))
  obtain ⟨T32, h32, X32, e32, W32, st32⟩ := putF X31 hx hZ hown (host := "") (Or.inl (wd hw 83 rfl)) Via.refl e31 F_page_a E_a (Or.inr ⟨(wd hw 84 rfl), rfl, hnm⟩) (wd hw 70 rfl) (ty := .int) (by decide) rfl rfl (g := (mkF m 11 #[.val (.ref a), .val (.ref r), .val (.int p1), .val (.long q1), .second] [(.int p1), (.ref a)])) rfl rfl (hb hby d_p15_m1_11)
  have O0 := O0.wr W32 g_a
  have E_a := E_a.wr W32
  have F_items_a := F_items_a.other W32 (Or.inr (slot_ne (Or.inr (wd hw 82 rfl)) (Or.inr (wd hw 84 rfl)) (by decide) (t := (.object "java/util/List")) (t' := .int) (by decide) (by decide)))
  have F_page_a := F_page_a.same W32
  have F_total_a := F_total_a.other W32 (Or.inr (slot_ne (Or.inr (wd hw 86 rfl)) (Or.inr (wd hw 84 rfl)) (by decide) (t := .long) (t' := .int) (by decide) (by decide)))
  have K0 := K0.wr W32 (Or.inl (by simp))
  have N32 := Fr.snoc X32 N31 g_a
  refine go st32 ?_
  show Run p e below _ (T32.setTop (mkF m 14 #[.val (.ref a), .val (.ref r), .val (.int p1), .val (.long q1), .second] []))
  refine go (fun _ => XS.aloadN X32.here hx rfl (hb hby d_p15_m1_14) rfl rfl) ?_
  show Run p e below _ (T32.setTop (mkF m 15 #[.val (.ref a), .val (.ref r), .val (.int p1), .val (.long q1), .second] [(.ref a)]))
  refine go (fun _ => XS.lloadN X32.here hx rfl (hb hby d_p15_m1_15) rfl) ?_
  show Run p e below _ (T32.setTop (mkF m 16 #[.val (.ref a), .val (.ref r), .val (.int p1), .val (.long q1), .second] [(.long q1), (.ref a)]))
  obtain ⟨T33, h33, X33, e33, W33, st33⟩ := putF X32 hx hZ hown (host := "") (Or.inl (wd hw 85 rfl)) Via.refl e32 F_total_a E_a (Or.inr ⟨(wd hw 86 rfl), rfl, hnm⟩) (wd hw 70 rfl) (ty := .long) (by decide) rfl rfl (g := (mkF m 16 #[.val (.ref a), .val (.ref r), .val (.int p1), .val (.long q1), .second] [(.long q1), (.ref a)])) rfl rfl (hb hby d_p15_m1_16)
  have O0 := O0.wr W33 g_a
  have E_a := E_a.wr W33
  have F_items_a := F_items_a.other W33 (Or.inr (slot_ne (Or.inr (wd hw 82 rfl)) (Or.inr (wd hw 86 rfl)) (by decide) (t := (.object "java/util/List")) (t' := .long) (by decide) (by decide)))
  have F_page_a := F_page_a.other W33 (Or.inr (slot_ne (Or.inr (wd hw 84 rfl)) (Or.inr (wd hw 86 rfl)) (by decide) (t := .int) (t' := .long) (by decide) (by decide)))
  have F_total_a := F_total_a.same W33
  have K0 := K0.wr W33 (Or.inl (by simp))
  have N33 := Fr.snoc X33 N32 g_a
  refine go st33 ?_
  show Run p e below _ (T33.setTop (mkF m 19 #[.val (.ref a), .val (.ref r), .val (.int p1), .val (.long q1), .second] []))
  exact endV X33 hx hlk hret (hb hby d_p15_m1_19) (by rw [e33]; exact ⟨rfl, N33, K0, E_a, F_total_a⟩) (by decide) (by decide)
theorem d_j29_m66_0 : decode jdk_29_method_66_code 0 = .ok (.lload_n 0, 1) := by decide +kernel
theorem d_j29_m66_1 : decode jdk_29_method_66_code 1 = .ok (.lload_n 2, 1) := by decide +kernel
theorem d_j29_m66_2 : decode jdk_29_method_66_code 2 = .ok (.lcmp, 1) := by decide +kernel
theorem d_j29_m66_3 : decode jdk_29_method_66_code 3 = .ok (.ifCond .lt 7, 3) := by decide +kernel
theorem d_j29_m66_10 : decode jdk_29_method_66_code 10 = .ok (.lload_n 2, 1) := by decide +kernel
theorem d_j29_m66_11 : decode jdk_29_method_66_code 11 = .ok (.lreturn, 1) := by decide +kernel
theorem d_j29_m66_6 : decode jdk_29_method_66_code 6 = .ok (.lload_n 0, 1) := by decide +kernel
theorem d_j29_m66_7 : decode jdk_29_method_66_code 7 = .ok (.goto 4, 3) := by decide +kernel
theorem pn_8 : plainFor (⟨"java/lang/Math", "max", "(JJ)J"⟩ : MethodName) = true := by decide +kernel
def Q_rm_maxj (q1 q2 : Int64) (h0 : Heap) (n0 : Nat) (v : Option Value) (h : Heap) (L : List Loc) : Prop := v = some (.long (if q1 < q2 then q2 else q1)) ∧ Fr n0 L ∧ h = h0
set_option maxRecDepth 65536 in
set_option maxHeartbeats 40000000 in
theorem rm_maxj (l : Launch) (Z : State) (a0 : Array Value) (hw : ∀ d ∈ tables_1, d.before a0 Z = true) (ws : List Jvm.Cond) (q1 q2 : Int64) (h0 : Heap) (n0 : Nat) (O0 : Old Z n0 h0)  :
    Meets l (⟨"java/lang/Math", "max", "(JJ)J"⟩ : MethodName) jdk_29_method_66_code 4 (some .long) ws ({ frames := 0, cells := 0, slots := 0, locals := 0 } : Room) Z #[(.long q1), (.long q2)] h0 (Q_rm_maxj q1 q2 h0 n0) 0 0 := by
  refine enter (Ls := #[.val (.long q1), .second, .val (.long q2), .second]) pn_8 (fun m => by first | rfl | (simp [entryFrame, mkF, argsToLocals, Value.category]; done)) ?_
  intro p e s m below meth c T0 hx hby hml hown hnm hret hlk hZ X0 e0
  have N0 := Fr.nil n0
  replace hown : s.vm.findClass "java/lang/Math" = some m.cls := hown
  show Run p e below _ (T0.setTop (mkF m 0 #[.val (.long q1), .second, .val (.long q2), .second] []))
  refine go (fun _ => XS.lloadN X0.here hx rfl (hb hby d_j29_m66_0) rfl) ?_
  show Run p e below _ (T0.setTop (mkF m 1 #[.val (.long q1), .second, .val (.long q2), .second] [(.long q1)]))
  refine go (fun _ => XS.lloadN X0.here hx rfl (hb hby d_j29_m66_1) rfl) ?_
  show Run p e below _ (T0.setTop (mkF m 2 #[.val (.long q1), .second, .val (.long q2), .second] [(.long q2), (.long q1)]))
  refine go (fun _ => XS.lcmp X0.here hx rfl (hb hby d_j29_m66_2) rfl) ?_
  show Run p e below _ (T0.setTop (mkF m 3 #[.val (.long q1), .second, .val (.long q2), .second] [(.int (lcmpW q1 q2))]))
  by_cases c34 : (lcmpW q1 q2) < 0
  · skip
    refine go (fun _ => XS.ifYes X0.here hx rfl (pc0 := 3) (pc' := 10) rfl (hb hby d_j29_m66_3) rfl ((if0 _ _).trans (tlt c34).1) (by decide) (by decide)) ?_
    show Run p e below _ (T0.setTop (mkF m 10 #[.val (.long q1), .second, .val (.long q2), .second] []))
    refine go (fun _ => XS.lloadN X0.here hx rfl (hb hby d_j29_m66_10) rfl) ?_
    show Run p e below _ (T0.setTop (mkF m 11 #[.val (.long q1), .second, .val (.long q2), .second] [(.long q2)]))
    exact endJ X0 hx hlk hret (hb hby d_j29_m66_11) (⟨by simp only [(lw_lt q1 q2).mp c34, if_true, if_false], N0, e0⟩) (by decide) (by decide)
  · skip
    refine go (fun _ => XS.ifNo X0.here hx rfl (hb hby d_j29_m66_3) rfl ((if0 _ _).trans (flt c34).1)) ?_
    show Run p e below _ (T0.setTop (mkF m 6 #[.val (.long q1), .second, .val (.long q2), .second] []))
    refine go (fun _ => XS.lloadN X0.here hx rfl (hb hby d_j29_m66_6) rfl) ?_
    show Run p e below _ (T0.setTop (mkF m 7 #[.val (.long q1), .second, .val (.long q2), .second] [(.long q1)]))
    refine go (fun _ => XS.goto X0.here hx rfl (pc0 := 7) (pc' := 11) rfl (hb hby d_j29_m66_7) (by decide) (by decide)) ?_
    show Run p e below _ (T0.setTop (mkF m 11 #[.val (.long q1), .second, .val (.long q2), .second] [(.long q1)]))
    exact endJ X0 hx hlk hret (hb hby d_j29_m66_11) (⟨by simp only [mt (lw_lt q1 q2).mpr c34, if_true, if_false], N0, e0⟩) (by decide) (by decide)
def pgV (t : Int64) : Int64 := if (1 : Int64) < (t + (100 : Int64) - (1 : Int64)) / (100 : Int64) then (t + (100 : Int64) - (1 : Int64)) / (100 : Int64) else (1 : Int64)
theorem d_p15_m4_0 : decode prog_15_method_4_code 0 = .ok (.lconst 1, 1) := by decide +kernel
theorem d_p15_m4_1 : decode prog_15_method_4_code 1 = .ok (.aload_n 0, 1) := by decide +kernel
theorem d_p15_m4_2 : decode prog_15_method_4_code 2 = .ok (.getfield 17, 3) := by decide +kernel
theorem d_p15_m4_5 : decode prog_15_method_4_code 5 = .ok (.ldc2_w 32, 3) := by decide +kernel
theorem d_p15_m4_8 : decode prog_15_method_4_code 8 = .ok (.ladd, 1) := by decide +kernel
theorem d_p15_m4_9 : decode prog_15_method_4_code 9 = .ok (.lconst 1, 1) := by decide +kernel
theorem d_p15_m4_10 : decode prog_15_method_4_code 10 = .ok (.lsub, 1) := by decide +kernel
theorem d_p15_m4_11 : decode prog_15_method_4_code 11 = .ok (.ldc2_w 32, 3) := by decide +kernel
theorem d_p15_m4_14 : decode prog_15_method_4_code 14 = .ok (.ldiv, 1) := by decide +kernel
theorem d_p15_m4_15 : decode prog_15_method_4_code 15 = .ok (.invokestatic 72, 3) := by decide +kernel
theorem pd_4 : parseMethodDescriptor "(JJ)J" = some ⟨[.long, .long], some .long⟩ := by decide +kernel
theorem d_p15_m4_18 : decode prog_15_method_4_code 18 = .ok (.lreturn, 1) := by decide +kernel
def Q_rm_pg (a : Addr) (q1 : Int64) (h0 : Heap) (n0 : Nat) (v : Option Value) (h : Heap) (L : List Loc) : Prop := v = some (.long (pgV q1)) ∧ Fr n0 L ∧ h = h0
set_option maxRecDepth 65536 in
set_option maxHeartbeats 40000000 in
theorem rm_pg (l : Launch) (Z : State) (a0 : Array Value) (hw : ∀ d ∈ tables_1, d.before a0 Z = true) (ws : List Jvm.Cond) (a : Addr) (q1 : Int64) (h0 : Heap) (n0 : Nat) (O0 : Old Z n0 h0) (E_a : Exa Z h0 a "com/example/gridsteward/gridsteward/Listing") (F_total_a : Fld Z h0 a "com/example/gridsteward/gridsteward/Listing" "total" "J" (.long q1)) :
    Meets l (⟨"com/example/gridsteward/gridsteward/Listing", "pages", "()J"⟩ : MethodName) prog_15_method_4_code 1 (some .long) ws ({ frames := 1, cells := 0, slots := 0, locals := 15 } : Room) Z #[(.ref a)] h0 (Q_rm_pg a q1 h0 n0) 0 0 := by
  refine enter (Ls := #[.val (.ref a)]) (plainFor_of_name pn_7) (fun m => by first | rfl | (simp [entryFrame, mkF, argsToLocals, Value.category]; done)) ?_
  intro p e s m below meth c T0 hx hby hml hown hnm hret hlk hZ X0 e0
  have N0 := Fr.nil n0
  replace hown : s.vm.findClass "com/example/gridsteward/gridsteward/Listing" = some m.cls := hown
  show Run p e below _ (T0.setTop (mkF m 0 #[.val (.ref a)] []))
  refine go (fun _ => XS.lconst X0.here hx rfl (hb hby d_p15_m4_0)) ?_
  show Run p e below _ (T0.setTop (mkF m 1 #[.val (.ref a)] [(.long (1 : Int64))]))
  refine go (fun _ => XS.aloadN X0.here hx rfl (hb hby d_p15_m4_1) rfl rfl) ?_
  show Run p e below _ (T0.setTop (mkF m 2 #[.val (.ref a)] [(.ref a), (.long (1 : Int64))]))
  obtain ⟨T35, X35, e35, st35⟩ := getF X0 hx hZ hown (host := "") (Or.inl (wd hw 85 rfl)) Via.refl e0 F_total_a (g := (mkF m 2 #[.val (.ref a)] [(.ref a), (.long (1 : Int64))])) rfl rfl (hb hby d_p15_m4_2)
  refine go st35 ?_
  show Run p e below _ (T35.setTop (mkF m 5 #[.val (.ref a)] [(.long q1), (.long (1 : Int64))]))
  refine go (fun _ => X35.ldc2J hx hown (mvT hZ (wd hw 93 rfl)) rfl (hb hby d_p15_m4_5)) ?_
  show Run p e below _ (T35.setTop (mkF m 8 #[.val (.ref a)] [(.long (100 : Int64)), (.long q1), (.long (1 : Int64))]))
  refine go (fun _ => XS.ladd X35.here hx rfl (hb hby d_p15_m4_8) rfl) ?_
  show Run p e below _ (T35.setTop (mkF m 9 #[.val (.ref a)] [(.long (q1 + (100 : Int64))), (.long (1 : Int64))]))
  refine go (fun _ => XS.lconst X35.here hx rfl (hb hby d_p15_m4_9)) ?_
  show Run p e below _ (T35.setTop (mkF m 10 #[.val (.ref a)] [(.long (1 : Int64)), (.long (q1 + (100 : Int64))), (.long (1 : Int64))]))
  refine go (fun _ => XS.lsub X35.here hx rfl (hb hby d_p15_m4_10) rfl) ?_
  show Run p e below _ (T35.setTop (mkF m 11 #[.val (.ref a)] [(.long ((q1 + (100 : Int64)) - (1 : Int64))), (.long (1 : Int64))]))
  refine go (fun _ => X35.ldc2J hx hown (mvT hZ (wd hw 93 rfl)) rfl (hb hby d_p15_m4_11)) ?_
  show Run p e below _ (T35.setTop (mkF m 14 #[.val (.ref a)] [(.long (100 : Int64)), (.long ((q1 + (100 : Int64)) - (1 : Int64))), (.long (1 : Int64))]))
  refine go (fun _ => XS.ldiv X35.here hx rfl (hb hby d_p15_m4_14) rfl (by decide)) ?_
  show Run p e below _ (T35.setTop (mkF m 15 #[.val (.ref a)] [(.long (((q1 + (100 : Int64)) - (1 : Int64)) / (100 : Int64))), (.long (1 : Int64))]))
  refine callSt X35 hx hZ hown (wd hw 94 rfl) (wd hw 95 rfl) (wd hw 64 rfl) (wd hw 96 rfl) (by decide) e35 (argsL := [(.long (1 : Int64)), (.long (((q1 + (100 : Int64)) - (1 : Int64)) / (100 : Int64)))]) (rest := []) (rm_maxj l Z a0 hw [] (1 : Int64) (((q1 + (100 : Int64)) - (1 : Int64)) / (100 : Int64)) h0 n0 O0) (W := 0) (by decide) (by decide) (by decide) (by decide) (by rw [hml]; rfl) (lenOf pd_4 rfl) rfl (Nat.le_of_eq rfl) (hb hby d_p15_m4_15) ?_
  intro v36 T36 L36 h36 X36 e36 q36
  obtain ⟨rv, n36, k36⟩ := q36
  replace rv : v36 = some (.long (pgV q1)) := rv
  subst rv
  have e36 := e36.trans k36
  have N36 := Fr.app N0 n36
  show Run p e below _ (T36.setTop (mkF m 18 #[.val (.ref a)] [(.long (pgV q1))]))
  exact endJ X36 hx hlk hret (hb hby d_p15_m4_18) (⟨rfl, N36, e36⟩) (by decide) (by decide)
theorem own_q (t : Int64) (h : t.toInt ≤ 9223372036854775708) : (t + (100 : Int64) - (1 : Int64)).toInt = t.toInt + 99 := by
  have a := c_ladd t 100; have b := c_lsub (t + 100) 1
  have r1 := rng64 t; have r2 := rng64 (t + 100); have r3 := rng64 (t + 100 - 1)
  have k1 : (100 : Int64).toInt = 100 := by decide
  have k2 : (1 : Int64).toInt = 1 := by decide
  omega
theorem own_pg (t : Int64) (h : t.toInt ≤ 9223372036854775708) : pgV t = if t.toInt ≤ 0 then (1 : Int64) else if t - (t / (100 : Int64)) * (100 : Int64) = 0 then t / (100 : Int64) else t / (100 : Int64) + (1 : Int64) := by
  have k1 : (100 : Int64).toInt = 100 := by decide
  have k2 : (1 : Int64).toInt = 1 := by decide
  have k0 : (0 : Int64).toInt = 0 := by decide
  have e := own_q t h
  have d := c_ldiv (t + 100 - 1) 100 100 k1 (by decide)
  have d2 := c_ldiv t 100 100 k1 (by decide)
  have m2 := c_lrem t 100 100 k1
  have r1 := rng64 t
  have a1 := c_ladd (t / 100) 1; have r2 := rng64 (t / 100 + 1); have r3 := rng64 (t / 100)
  unfold pgV
  by_cases h0 : t.toInt ≤ 0
  · rw [if_pos h0]
    have : ¬ (1 : Int64) < (t + 100 - 1) / 100 := by
      simp only [Int64.lt_iff_toInt_lt, k2]
      by_cases q : 0 ≤ (t + 100 - 1).toInt
      · have := d.1 q; omega
      · have := d.2 (by omega); omega
    rw [if_neg this]
  · rw [if_neg h0]
    have d' := d.1 (by omega)
    have d2' := d2.1 (by omega)
    have m2' := m2.1 (by omega)
    by_cases hr : t - t / 100 * 100 = 0
    · rw [if_pos hr]
      have hz : (t - t / 100 * 100).toInt = 0 := by rw [hr]; exact k0
      split
      · apply Int64.toInt_inj.mp; omega
      · rename_i hl
        simp only [Int64.lt_iff_toInt_lt, k2] at hl
        apply Int64.toInt_inj.mp; omega
    · rw [if_neg hr]
      have hz : (t - t / 100 * 100).toInt ≠ 0 := fun q => hr (Int64.toInt_inj.mp (by rw [q, k0]))
      split
      · apply Int64.toInt_inj.mp; omega
      · rename_i hl
        simp only [Int64.lt_iff_toInt_lt, k2] at hl
        apply Int64.toInt_inj.mp; omega
theorem pd_5 : parseMethodDescriptor "(Ljava/util/List;IJ)V" = some ⟨[(.object "java/util/List"), .int, .long], none⟩ := by decide +kernel
theorem pd_6 : parseMethodDescriptor "()J" = some ⟨[], some .long⟩ := by decide +kernel
theorem pd_7 : parseMethodDescriptor "(I)Ljava/lang/Integer;" = some ⟨[.int], some (.object "java/lang/Integer")⟩ := by decide +kernel
theorem d_j38_m24_0 : decode jdk_38_method_24_code 0 = .ok (.iload_n 3, 1) := by decide +kernel
theorem d_j38_m24_1 : decode jdk_38_method_24_code 1 = .ok (.aload_n 2, 1) := by decide +kernel
theorem d_j38_m24_2 : decode jdk_38_method_24_code 2 = .ok (.arraylength, 1) := by decide +kernel
theorem d_j38_m24_3 : decode jdk_38_method_24_code 3 = .ok (.if_icmp .ne 8, 3) := by decide +kernel
theorem d_j38_m24_6 : decode jdk_38_method_24_code 6 = .ok (.aload_n 0, 1) := by decide +kernel
theorem d_j38_m24_7 : decode jdk_38_method_24_code 7 = .ok (.invokevirtual 129, 3) := by decide +kernel
theorem pd_8 : parseMethodDescriptor "()[Ljava/lang/Object;" = some ⟨[], some (.array (.object "java/lang/Object"))⟩ := by decide +kernel
theorem d_j38_m24_10 : decode jdk_38_method_24_code 10 = .ok (.astore_n 2, 1) := by decide +kernel
theorem d_j38_m24_11 : decode jdk_38_method_24_code 11 = .ok (.aload_n 2, 1) := by decide +kernel
theorem d_j38_m24_12 : decode jdk_38_method_24_code 12 = .ok (.iload_n 3, 1) := by decide +kernel
theorem d_j38_m24_13 : decode jdk_38_method_24_code 13 = .ok (.aload_n 1, 1) := by decide +kernel
theorem d_j38_m24_14 : decode jdk_38_method_24_code 14 = .ok (.aastore, 1) := by decide +kernel
theorem d_j38_m24_15 : decode jdk_38_method_24_code 15 = .ok (.aload_n 0, 1) := by decide +kernel
theorem d_j38_m24_16 : decode jdk_38_method_24_code 16 = .ok (.iload_n 3, 1) := by decide +kernel
theorem d_j38_m24_17 : decode jdk_38_method_24_code 17 = .ok (.iconst 1, 1) := by decide +kernel
theorem d_j38_m24_18 : decode jdk_38_method_24_code 18 = .ok (.iadd, 1) := by decide +kernel
theorem d_j38_m24_19 : decode jdk_38_method_24_code 19 = .ok (.putfield 48, 3) := by decide +kernel
theorem d_j38_m24_22 : decode jdk_38_method_24_code 22 = .ok (.return_, 1) := by decide +kernel
def Q_rm_addp0_0 (Z : State) (a x wD : Addr) (kD : ClassId) (mc : Int32) (h0 : Heap) (n0 : Nat) (v : Option Value) (h : Heap) (L : List Loc) : Prop := ∃ (b : Addr) (k : ClassId), v = none ∧ Fr n0 L ∧ Keep h0 h [a] ∧ h0.size ≤ b ∧ n0 ≤ b ∧ Exa Z h a "java/util/ArrayList" ∧ Fld Z h a "java/util/AbstractList" "modCount" "I" (.int mc) ∧ Fld Z h a "java/util/ArrayList" "elementData" "[Ljava/lang/Object;" (.ref b) ∧ Fld Z h a "java/util/ArrayList" "size" "I" (.int (1 : Int32)) ∧ Ovr Z k "java/lang/Object" ∧ Arv Z h b k (.object "java/lang/Object") (10 : Int32) [(.ref x), .null, .null, .null, .null, .null, .null, .null, .null, .null] .null
set_option maxRecDepth 65536 in
set_option maxHeartbeats 40000000 in
theorem rm_addp0_0 (l : Launch) (Z : State) (a0 : Array Value) (hw : ∀ d ∈ tables_1, d.before a0 Z = true) (ws : List Jvm.Cond) (a x wD : Addr) (kD : ClassId) (mc : Int32) (h0 : Heap) (n0 : Nat) (O0 : Old Z n0 h0) (S_DEFAULTCAPACITY_EMPTY_ELEMENTDATA : Sta Z Z.heap "java/util/ArrayList" "DEFAULTCAPACITY_EMPTY_ELEMENTDATA" "[Ljava/lang/Object;" (.ref wD)) (VD : Arv Z Z.heap wD kD (.object "java/lang/Object") (0 : Int32) [] .null) (E_a : Exa Z h0 a "java/util/ArrayList") (F_modCount_a : Fld Z h0 a "java/util/AbstractList" "modCount" "I" (.int mc)) (F_elementData_a : Fld Z h0 a "java/util/ArrayList" "elementData" "[Ljava/lang/Object;" (.ref wD)) (F_size_a : Fld Z h0 a "java/util/ArrayList" "size" "I" (.int (0 : Int32))) (g_a : n0 ≤ a) (E_x : Exa Z h0 x "java/lang/Integer") (ne_x_a : x ≠ a) :
    Meets l (⟨"java/util/ArrayList", "add", "(Ljava/lang/Object;[Ljava/lang/Object;I)V"⟩ : MethodName) jdk_38_method_24_code 4 none ws ({ frames := 3, cells := 1, slots := 10, locals := 41 } : Room) Z #[(.ref a), (.ref x), (.ref wD), (.int (0 : Int32))] h0 (Q_rm_addp0_0 Z a x wD kD mc h0 n0) 1 10 := by
  refine enter (Ls := #[.val (.ref a), .val (.ref x), .val (.ref wD), .val (.int (0 : Int32))]) (plainFor_of_name pn_2) (fun m => by first | rfl | (simp [entryFrame, mkF, argsToLocals, Value.category]; done)) ?_
  intro p e s m below meth c T0 hx hby hml hown hnm hret hlk hZ X0 e0
  have N0 := Fr.nil n0
  replace hown : s.vm.findClass "java/util/ArrayList" = some m.cls := hown
  show Run p e below _ (T0.setTop (mkF m 0 #[.val (.ref a), .val (.ref x), .val (.ref wD), .val (.int (0 : Int32))] []))
  have K0 := Keep.refl h0 [a]
  have V_wD := VD.ext O0.2
  have ne_wD_a : wD ≠ a := O0.ne VD.lt g_a
  refine go (fun _ => XS.iloadN X0.here hx rfl (hb hby d_j38_m24_0) rfl) ?_
  show Run p e below _ (T0.setTop (mkF m 1 #[.val (.ref a), .val (.ref x), .val (.ref wD), .val (.int (0 : Int32))] [(.int (0 : Int32))]))
  refine go (fun _ => XS.aloadN X0.here hx rfl (hb hby d_j38_m24_1) rfl rfl) ?_
  show Run p e below _ (T0.setTop (mkF m 2 #[.val (.ref a), .val (.ref x), .val (.ref wD), .val (.int (0 : Int32))] [(.ref wD), (.int (0 : Int32))]))
  obtain ⟨cl51, Ar51, ak51, as51, an51, ah51, ag51⟩ := id V_wD
  refine go (fun _ => X0.arraylength hx (by rw [e0]; exact Ar51.1) (State.isArrayOf_alike hZ.alike Ar51.2.1) (g := (mkF m 2 #[.val (.ref a), .val (.ref x), .val (.ref wD), .val (.int (0 : Int32))] [(.ref wD), (.int (0 : Int32))])) rfl rfl (hb hby d_j38_m24_2) _) ?_
  rw [len_of as51 an51]
  show Run p e below _ (T0.setTop (mkF m 3 #[.val (.ref a), .val (.ref x), .val (.ref wD), .val (.int (0 : Int32))] [(.int (0 : Int32)), (.int (0 : Int32))]))
  refine go (fun _ => XS.icmpNo X0.here hx rfl (hb hby d_j38_m24_3) rfl (teq (by decide : (0 : Int32) = 0)).2) ?_
  show Run p e below _ (T0.setTop (mkF m 6 #[.val (.ref a), .val (.ref x), .val (.ref wD), .val (.int (0 : Int32))] []))
  refine go (fun _ => XS.aloadN X0.here hx rfl (hb hby d_j38_m24_6) rfl rfl) ?_
  show Run p e below _ (T0.setTop (mkF m 7 #[.val (.ref a), .val (.ref x), .val (.ref wD), .val (.int (0 : Int32))] [(.ref a)]))
  refine callPr X0 hx hZ hown (wd hw 52 rfl) (wd hw 54 rfl) (wd hw 55 rfl) (wd hw 53 rfl) (wd hw 56 rfl) (wd hw 3 rfl) (by decide) e0 E_a (argsL := []) (rest := []) (rm_gr0 l Z a0 hw [] a wD kD mc h0 n0 O0 S_DEFAULTCAPACITY_EMPTY_ELEMENTDATA VD E_a F_modCount_a F_elementData_a F_size_a g_a) (W := 0) (by decide) (by decide) (by decide) (by decide) (by rw [hml]; rfl) (lenOf pd_8 rfl) rfl (Nat.le_of_eq rfl) (hb hby d_j38_m24_7) ?_
  intro v52 T52 L52 h52 X52 e52 q52
  have lt53_a := E_a.lt
  have lt53_x := E_x.lt
  have lt53_wD := V_wD.lt
  obtain ⟨b52, k52, rfl, n52, K52, sb52, g_b52, E_a, F_modCount_a, F_elementData_a, F_size_a, O52, V_b52⟩ := q52
  have szq52 := K0.1
  have ne_a_b52 : a ≠ b52 := Nat.ne_of_lt (Nat.lt_of_lt_of_le lt53_a sb52)
  have ne_x_b52 : x ≠ b52 := Nat.ne_of_lt (Nat.lt_of_lt_of_le lt53_x sb52)
  have ne_wD_b52 : wD ≠ b52 := Nat.ne_of_lt (Nat.lt_of_lt_of_le lt53_wD sb52)
  have O0 := O0.keep K52 (allS g_a all0)
  have E_x := E_x.keep K52
  have K0 := K0.trans K52 (allS (Or.inl (by simp)) all0)
  have V_wD := V_wD.keep K52 (ninS ne_wD_a nin0)
  have sz_b52 : h0.size ≤ b52 := Nat.le_trans szq52 sb52
  have N52 := Fr.app N0 n52
  show Run p e below _ (T52.setTop (mkF m 10 #[.val (.ref a), .val (.ref x), .val (.ref wD), .val (.int (0 : Int32))] [(.ref b52)]))
  refine go (fun _ => XS.astoreN X52.here hx rfl (hb hby d_j38_m24_10) rfl rfl (l' := #[.val (.ref a), .val (.ref x), .val (.ref b52), .val (.int (0 : Int32))]) rfl) ?_
  show Run p e below _ (T52.setTop (mkF m 11 #[.val (.ref a), .val (.ref x), .val (.ref b52), .val (.int (0 : Int32))] []))
  refine go (fun _ => XS.aloadN X52.here hx rfl (hb hby d_j38_m24_11) rfl rfl) ?_
  show Run p e below _ (T52.setTop (mkF m 12 #[.val (.ref a), .val (.ref x), .val (.ref b52), .val (.int (0 : Int32))] [(.ref b52)]))
  refine go (fun _ => XS.iloadN X52.here hx rfl (hb hby d_j38_m24_12) rfl) ?_
  show Run p e below _ (T52.setTop (mkF m 13 #[.val (.ref a), .val (.ref x), .val (.ref b52), .val (.int (0 : Int32))] [(.int (0 : Int32)), (.ref b52)]))
  refine go (fun _ => XS.aloadN X52.here hx rfl (hb hby d_j38_m24_13) rfl rfl) ?_
  show Run p e below _ (T52.setTop (mkF m 14 #[.val (.ref a), .val (.ref x), .val (.ref b52), .val (.int (0 : Int32))] [(.ref x), (.int (0 : Int32)), (.ref b52)]))
  obtain ⟨cl54, Ar54, ak54, as54, an54, ah54, ag54⟩ := id V_b52
  have hin54 := inb_of as54 (j := (0 : Int32)) ⟨by decide, by decide⟩
  obtain ⟨T54, h54, X54, e54, W54, st54⟩ := stR X52 hx hZ e52 Ar54 (j := (0 : Int32)) hin54 rfl (Sto.ofV Ar54 ak54 O52 (Ins.of_exa E_x (wd hw 68 rfl))) (g := (mkF m 14 #[.val (.ref a), .val (.ref x), .val (.ref b52), .val (.int (0 : Int32))] [(.ref x), (.int (0 : Int32)), (.ref b52)])) rfl rfl (hb hby d_j38_m24_14)
  have O0 := O0.wr W54 g_b52
  have E_a := E_a.wr W54
  have E_x := E_x.wr W54
  have K0 := K0.wr W54 (Or.inr sz_b52)
  have V_wD := V_wD.other W54 ne_wD_b52
  have F_modCount_a := F_modCount_a.other W54 (Or.inl ne_a_b52)
  have F_elementData_a := F_elementData_a.other W54 (Or.inl ne_a_b52)
  have F_size_a := F_size_a.other W54 (Or.inl ne_a_b52)
  have V_b52 := (Arv.set Ar54 ak54 as54 an54 ah54 ag54 rfl W54 0 rfl (Nat.le_of_ble_eq_true rfl) : Arv Z h54 b52 k52 (.object "java/lang/Object") (10 : Int32) [(.ref x), .null, .null, .null, .null, .null, .null, .null, .null, .null] .null)
  have N54 := Fr.snoc X54 N52 g_b52
  refine go st54 ?_
  show Run p e below _ (T54.setTop (mkF m 15 #[.val (.ref a), .val (.ref x), .val (.ref b52), .val (.int (0 : Int32))] []))
  refine go (fun _ => XS.aloadN X54.here hx rfl (hb hby d_j38_m24_15) rfl rfl) ?_
  show Run p e below _ (T54.setTop (mkF m 16 #[.val (.ref a), .val (.ref x), .val (.ref b52), .val (.int (0 : Int32))] [(.ref a)]))
  refine go (fun _ => XS.iloadN X54.here hx rfl (hb hby d_j38_m24_16) rfl) ?_
  show Run p e below _ (T54.setTop (mkF m 17 #[.val (.ref a), .val (.ref x), .val (.ref b52), .val (.int (0 : Int32))] [(.int (0 : Int32)), (.ref a)]))
  refine go (fun _ => XS.iconst X54.here hx rfl (hb hby d_j38_m24_17)) ?_
  show Run p e below _ (T54.setTop (mkF m 18 #[.val (.ref a), .val (.ref x), .val (.ref b52), .val (.int (0 : Int32))] [(.int (1 : Int32)), (.int (0 : Int32)), (.ref a)]))
  refine go (fun _ => XS.iadd X54.here hx rfl (hb hby d_j38_m24_18) rfl) ?_
  show Run p e below _ (T54.setTop (mkF m 19 #[.val (.ref a), .val (.ref x), .val (.ref b52), .val (.int (0 : Int32))] [(.int ((0 : Int32) + (1 : Int32))), (.ref a)]))
  show Run p e below _ (T54.setTop (mkF m 19 #[.val (.ref a), .val (.ref x), .val (.ref b52), .val (.int (0 : Int32))] [(.int (1 : Int32)), (.ref a)]))
  obtain ⟨T55, h55, X55, e55, W55, st55⟩ := putF X54 hx hZ hown (host := "") (Or.inl (wd hw 45 rfl)) Via.refl e54 F_size_a E_a (Or.inl (wd hw 46 rfl)) (wd hw 2 rfl) (ty := .int) (by decide) rfl rfl (g := (mkF m 19 #[.val (.ref a), .val (.ref x), .val (.ref b52), .val (.int (0 : Int32))] [(.int (1 : Int32)), (.ref a)])) rfl rfl (hb hby d_j38_m24_19)
  have O0 := O0.wr W55 g_a
  have E_a := E_a.wr W55
  have E_x := E_x.wr W55
  have K0 := K0.wr W55 (Or.inl (by simp))
  have V_wD := V_wD.other W55 ne_wD_a
  have F_modCount_a := F_modCount_a.other W55 (Or.inr (slot_ne (Or.inl (wd hw 23 rfl)) (Or.inl (wd hw 46 rfl)) (by decide) (t := .int) (t' := .int) (by decide) (by decide)))
  have F_elementData_a := F_elementData_a.other W55 (Or.inr (slot_ne (Or.inl (wd hw 26 rfl)) (Or.inl (wd hw 46 rfl)) (by decide) (t := (.array (.object "java/lang/Object"))) (t' := .int) (by decide) (by decide)))
  have F_size_a := F_size_a.same W55
  have V_b52 := V_b52.other W55 (Ne.symm ne_a_b52)
  have N55 := Fr.snoc X55 N54 g_a
  refine go st55 ?_
  show Run p e below _ (T55.setTop (mkF m 22 #[.val (.ref a), .val (.ref x), .val (.ref b52), .val (.int (0 : Int32))] []))
  exact endV X55 hx hlk hret (hb hby d_j38_m24_22) (by rw [e55]; exact ⟨b52, _, rfl, N55, K0, sz_b52, g_b52, E_a, F_modCount_a, F_elementData_a, F_size_a, O52, V_b52⟩) (by decide) (by decide)
theorem d_j38_m25_0 : decode jdk_38_method_25_code 0 = .ok (.aload_n 0, 1) := by decide +kernel
theorem d_j38_m25_1 : decode jdk_38_method_25_code 1 = .ok (.dup, 1) := by decide +kernel
theorem d_j38_m25_2 : decode jdk_38_method_25_code 2 = .ok (.getfield 63, 3) := by decide +kernel
theorem d_j38_m25_5 : decode jdk_38_method_25_code 5 = .ok (.iconst 1, 1) := by decide +kernel
theorem d_j38_m25_6 : decode jdk_38_method_25_code 6 = .ok (.iadd, 1) := by decide +kernel
theorem d_j38_m25_7 : decode jdk_38_method_25_code 7 = .ok (.putfield 63, 3) := by decide +kernel
theorem d_j38_m25_10 : decode jdk_38_method_25_code 10 = .ok (.aload_n 0, 1) := by decide +kernel
theorem d_j38_m25_11 : decode jdk_38_method_25_code 11 = .ok (.aload_n 1, 1) := by decide +kernel
theorem d_j38_m25_12 : decode jdk_38_method_25_code 12 = .ok (.aload_n 0, 1) := by decide +kernel
theorem d_j38_m25_13 : decode jdk_38_method_25_code 13 = .ok (.getfield 9, 3) := by decide +kernel
theorem d_j38_m25_16 : decode jdk_38_method_25_code 16 = .ok (.aload_n 0, 1) := by decide +kernel
theorem d_j38_m25_17 : decode jdk_38_method_25_code 17 = .ok (.getfield 48, 3) := by decide +kernel
theorem d_j38_m25_20 : decode jdk_38_method_25_code 20 = .ok (.invokevirtual 131, 3) := by decide +kernel
theorem pd_9 : parseMethodDescriptor "(Ljava/lang/Object;[Ljava/lang/Object;I)V" = some ⟨[(.object "java/lang/Object"), (.array (.object "java/lang/Object")), .int], none⟩ := by decide +kernel
theorem d_j38_m25_23 : decode jdk_38_method_25_code 23 = .ok (.iconst 1, 1) := by decide +kernel
theorem d_j38_m25_24 : decode jdk_38_method_25_code 24 = .ok (.ireturn, 1) := by decide +kernel
def Q_rm_add0_0 (Z : State) (a x wD : Addr) (kD : ClassId) (mc : Int32) (h0 : Heap) (n0 : Nat) (v : Option Value) (h : Heap) (L : List Loc) : Prop := ∃ (b : Addr) (k : ClassId), v = some (.int 1) ∧ Fr n0 L ∧ Keep h0 h [a] ∧ h0.size ≤ b ∧ n0 ≤ b ∧ Exa Z h a "java/util/ArrayList" ∧ Fld Z h a "java/util/AbstractList" "modCount" "I" (.int (mc + (1 : Int32))) ∧ Fld Z h a "java/util/ArrayList" "elementData" "[Ljava/lang/Object;" (.ref b) ∧ Fld Z h a "java/util/ArrayList" "size" "I" (.int (1 : Int32)) ∧ Ovr Z k "java/lang/Object" ∧ Arv Z h b k (.object "java/lang/Object") (10 : Int32) [(.ref x), .null, .null, .null, .null, .null, .null, .null, .null, .null] .null
set_option maxRecDepth 65536 in
set_option maxHeartbeats 40000000 in
theorem rm_add0_0 (l : Launch) (Z : State) (a0 : Array Value) (hw : ∀ d ∈ tables_1, d.before a0 Z = true) (ws : List Jvm.Cond) (a x wD : Addr) (kD : ClassId) (mc : Int32) (h0 : Heap) (n0 : Nat) (O0 : Old Z n0 h0) (S_DEFAULTCAPACITY_EMPTY_ELEMENTDATA : Sta Z Z.heap "java/util/ArrayList" "DEFAULTCAPACITY_EMPTY_ELEMENTDATA" "[Ljava/lang/Object;" (.ref wD)) (VD : Arv Z Z.heap wD kD (.object "java/lang/Object") (0 : Int32) [] .null) (E_a : Exa Z h0 a "java/util/ArrayList") (F_modCount_a : Fld Z h0 a "java/util/AbstractList" "modCount" "I" (.int mc)) (F_elementData_a : Fld Z h0 a "java/util/ArrayList" "elementData" "[Ljava/lang/Object;" (.ref wD)) (F_size_a : Fld Z h0 a "java/util/ArrayList" "size" "I" (.int (0 : Int32))) (g_a : n0 ≤ a) (E_x : Exa Z h0 x "java/lang/Integer") (ne_x_a : x ≠ a) :
    Meets l (⟨"java/util/ArrayList", "add", "(Ljava/lang/Object;)Z"⟩ : MethodName) jdk_38_method_25_code 2 (some .boolean) ws ({ frames := 4, cells := 1, slots := 10, locals := 56 } : Room) Z #[(.ref a), (.ref x)] h0 (Q_rm_add0_0 Z a x wD kD mc h0 n0) 1 10 := by
  refine enter (Ls := #[.val (.ref a), .val (.ref x)]) (plainFor_of_name pn_2) (fun m => by first | rfl | (simp [entryFrame, mkF, argsToLocals, Value.category]; done)) ?_
  intro p e s m below meth c T0 hx hby hml hown hnm hret hlk hZ X0 e0
  have N0 := Fr.nil n0
  replace hown : s.vm.findClass "java/util/ArrayList" = some m.cls := hown
  show Run p e below _ (T0.setTop (mkF m 0 #[.val (.ref a), .val (.ref x)] []))
  have K0 := Keep.refl h0 [a]
  have V_wD := VD.ext O0.2
  have ne_wD_a : wD ≠ a := O0.ne VD.lt g_a
  refine go (fun _ => XS.aloadN X0.here hx rfl (hb hby d_j38_m25_0) rfl rfl) ?_
  show Run p e below _ (T0.setTop (mkF m 1 #[.val (.ref a), .val (.ref x)] [(.ref a)]))
  refine go (fun _ => XS.dup X0.here hx rfl (hb hby d_j38_m25_1) rfl rfl) ?_
  show Run p e below _ (T0.setTop (mkF m 2 #[.val (.ref a), .val (.ref x)] [(.ref a), (.ref a)]))
  obtain ⟨T56, X56, e56, st56⟩ := getF X0 hx hZ hown (host := "") (Or.inl (wd hw 43 rfl)) (Via.of (wd hw 44 rfl)) e0 F_modCount_a (g := (mkF m 2 #[.val (.ref a), .val (.ref x)] [(.ref a), (.ref a)])) rfl rfl (hb hby d_j38_m25_2)
  refine go st56 ?_
  show Run p e below _ (T56.setTop (mkF m 5 #[.val (.ref a), .val (.ref x)] [(.int mc), (.ref a)]))
  refine go (fun _ => XS.iconst X56.here hx rfl (hb hby d_j38_m25_5)) ?_
  show Run p e below _ (T56.setTop (mkF m 6 #[.val (.ref a), .val (.ref x)] [(.int (1 : Int32)), (.int mc), (.ref a)]))
  refine go (fun _ => XS.iadd X56.here hx rfl (hb hby d_j38_m25_6) rfl) ?_
  show Run p e below _ (T56.setTop (mkF m 7 #[.val (.ref a), .val (.ref x)] [(.int (mc + (1 : Int32))), (.ref a)]))
  obtain ⟨T57, h57, X57, e57, W57, st57⟩ := putF X56 hx hZ hown (host := "") (Or.inl (wd hw 43 rfl)) (Via.of (wd hw 44 rfl)) e56 F_modCount_a E_a (Or.inl (wd hw 23 rfl)) (wd hw 2 rfl) (ty := .int) (by decide) rfl rfl (g := (mkF m 7 #[.val (.ref a), .val (.ref x)] [(.int (mc + (1 : Int32))), (.ref a)])) rfl rfl (hb hby d_j38_m25_7)
  have O0 := O0.wr W57 g_a
  have E_a := E_a.wr W57
  have F_modCount_a := F_modCount_a.same W57
  have F_elementData_a := F_elementData_a.other W57 (Or.inr (slot_ne (Or.inl (wd hw 26 rfl)) (Or.inl (wd hw 23 rfl)) (by decide) (t := (.array (.object "java/lang/Object"))) (t' := .int) (by decide) (by decide)))
  have F_size_a := F_size_a.other W57 (Or.inr (slot_ne (Or.inl (wd hw 46 rfl)) (Or.inl (wd hw 23 rfl)) (by decide) (t := .int) (t' := .int) (by decide) (by decide)))
  have E_x := E_x.wr W57
  have K0 := K0.wr W57 (Or.inl (by simp))
  have V_wD := V_wD.other W57 ne_wD_a
  have N57 := Fr.snoc X57 N0 g_a
  refine go st57 ?_
  show Run p e below _ (T57.setTop (mkF m 10 #[.val (.ref a), .val (.ref x)] []))
  refine go (fun _ => XS.aloadN X57.here hx rfl (hb hby d_j38_m25_10) rfl rfl) ?_
  show Run p e below _ (T57.setTop (mkF m 11 #[.val (.ref a), .val (.ref x)] [(.ref a)]))
  refine go (fun _ => XS.aloadN X57.here hx rfl (hb hby d_j38_m25_11) rfl rfl) ?_
  show Run p e below _ (T57.setTop (mkF m 12 #[.val (.ref a), .val (.ref x)] [(.ref x), (.ref a)]))
  refine go (fun _ => XS.aloadN X57.here hx rfl (hb hby d_j38_m25_12) rfl rfl) ?_
  show Run p e below _ (T57.setTop (mkF m 13 #[.val (.ref a), .val (.ref x)] [(.ref a), (.ref x), (.ref a)]))
  obtain ⟨T58, X58, e58, st58⟩ := getF X57 hx hZ hown (host := "") (Or.inl (wd hw 25 rfl)) Via.refl e57 F_elementData_a (g := (mkF m 13 #[.val (.ref a), .val (.ref x)] [(.ref a), (.ref x), (.ref a)])) rfl rfl (hb hby d_j38_m25_13)
  refine go st58 ?_
  show Run p e below _ (T58.setTop (mkF m 16 #[.val (.ref a), .val (.ref x)] [(.ref wD), (.ref x), (.ref a)]))
  refine go (fun _ => XS.aloadN X58.here hx rfl (hb hby d_j38_m25_16) rfl rfl) ?_
  show Run p e below _ (T58.setTop (mkF m 17 #[.val (.ref a), .val (.ref x)] [(.ref a), (.ref wD), (.ref x), (.ref a)]))
  obtain ⟨T59, X59, e59, st59⟩ := getF X58 hx hZ hown (host := "") (Or.inl (wd hw 45 rfl)) Via.refl e58 F_size_a (g := (mkF m 17 #[.val (.ref a), .val (.ref x)] [(.ref a), (.ref wD), (.ref x), (.ref a)])) rfl rfl (hb hby d_j38_m25_17)
  refine go st59 ?_
  show Run p e below _ (T59.setTop (mkF m 20 #[.val (.ref a), .val (.ref x)] [(.int (0 : Int32)), (.ref wD), (.ref x), (.ref a)]))
  refine callPr X59 hx hZ hown (wd hw 47 rfl) (wd hw 49 rfl) (wd hw 50 rfl) (wd hw 48 rfl) (wd hw 51 rfl) (wd hw 3 rfl) (by decide) e59 E_a (argsL := [(.ref x), (.ref wD), (.int (0 : Int32))]) (rest := []) (rm_addp0_0 l Z a0 hw [] a x wD kD (mc + (1 : Int32)) h57 n0 O0 S_DEFAULTCAPACITY_EMPTY_ELEMENTDATA VD E_a F_modCount_a F_elementData_a F_size_a g_a E_x ne_x_a) (W := 0) (by decide) (by decide) (by decide) (by decide) (by rw [hml]; rfl) (lenOf pd_9 rfl) rfl (Nat.le_of_eq rfl) (hb hby d_j38_m25_20) ?_
  intro v60 T60 L60 h60 X60 e60 q60
  have lt61_a := E_a.lt
  have lt61_x := E_x.lt
  have lt61_wD := V_wD.lt
  obtain ⟨b60, k60, rfl, n60, K60, sb60, g_b60, E_a, F_modCount_a, F_elementData_a, F_size_a, O60, V_b60⟩ := q60
  have szq60 := K0.1
  have ne_a_b60 : a ≠ b60 := Nat.ne_of_lt (Nat.lt_of_lt_of_le lt61_a sb60)
  have ne_x_b60 : x ≠ b60 := Nat.ne_of_lt (Nat.lt_of_lt_of_le lt61_x sb60)
  have ne_wD_b60 : wD ≠ b60 := Nat.ne_of_lt (Nat.lt_of_lt_of_le lt61_wD sb60)
  have O0 := O0.keep K60 (allS g_a all0)
  have E_x := E_x.keep K60
  have K0 := K0.trans K60 (allS (Or.inl (by simp)) all0)
  have V_wD := V_wD.keep K60 (ninS ne_wD_a nin0)
  have sz_b60 : h0.size ≤ b60 := Nat.le_trans szq60 sb60
  have N60 := Fr.app N57 n60
  show Run p e below _ (T60.setTop (mkF m 23 #[.val (.ref a), .val (.ref x)] []))
  refine go (fun _ => XS.iconst X60.here hx rfl (hb hby d_j38_m25_23)) ?_
  show Run p e below _ (T60.setTop (mkF m 24 #[.val (.ref a), .val (.ref x)] [(.int (1 : Int32))]))
  exact endN X60 hx hlk (t := .boolean) hret (by simp) (hb hby d_j38_m25_24) (by rw [e60]; exact ⟨b60, _, rfl, N60, K0, sz_b60, g_b60, E_a, F_modCount_a, F_elementData_a, F_size_a, O60, V_b60⟩) (by decide) (by decide)
theorem pd_10 : parseMethodDescriptor "(Ljava/lang/Object;)Z" = some ⟨[(.object "java/lang/Object")], some .boolean⟩ := by decide +kernel
def Q_rm_addp1_1 (Z : State) (a x ea : Addr) (ke : ClassId) (mc : Int32) (u0 : Value)  (h0 : Heap) (n0 : Nat) (v : Option Value) (h : Heap) (L : List Loc) : Prop := v = none ∧ Fr n0 L ∧ Keep h0 h [a, ea] ∧ Exa Z h a "java/util/ArrayList" ∧ Fld Z h a "java/util/AbstractList" "modCount" "I" (.int mc) ∧ Fld Z h a "java/util/ArrayList" "elementData" "[Ljava/lang/Object;" (.ref ea) ∧ Fld Z h a "java/util/ArrayList" "size" "I" (.int (2 : Int32)) ∧ Arv Z h ea ke (.object "java/lang/Object") (10 : Int32) [u0, (.ref x), .null, .null, .null, .null, .null, .null, .null, .null] .null
set_option maxRecDepth 65536 in
set_option maxHeartbeats 40000000 in
theorem rm_addp1_1 (l : Launch) (Z : State) (a0 : Array Value) (hw : ∀ d ∈ tables_1, d.before a0 Z = true) (ws : List Jvm.Cond) (a x ea : Addr) (ke : ClassId) (mc : Int32) (u0 : Value)  (h0 : Heap) (n0 : Nat) (O0 : Old Z n0 h0) (E_a : Exa Z h0 a "java/util/ArrayList") (F_modCount_a : Fld Z h0 a "java/util/AbstractList" "modCount" "I" (.int mc)) (F_elementData_a : Fld Z h0 a "java/util/ArrayList" "elementData" "[Ljava/lang/Object;" (.ref ea)) (F_size_a : Fld Z h0 a "java/util/ArrayList" "size" "I" (.int (1 : Int32))) (V_ea : Arv Z h0 ea ke (.object "java/lang/Object") (10 : Int32) [u0, .null, .null, .null, .null, .null, .null, .null, .null, .null] .null) (Oe : Ovr Z ke "java/lang/Object") (g_a : n0 ≤ a) (g_ea : n0 ≤ ea) (ne_ea_a : ea ≠ a) (E_x : Exa Z h0 x "java/lang/Integer") (ne_x_a : x ≠ a) (ne_x_ea : x ≠ ea) :
    Meets l (⟨"java/util/ArrayList", "add", "(Ljava/lang/Object;[Ljava/lang/Object;I)V"⟩ : MethodName) jdk_38_method_24_code 4 none ws ({ frames := 0, cells := 0, slots := 0, locals := 0 } : Room) Z #[(.ref a), (.ref x), (.ref ea), (.int (1 : Int32))] h0 (Q_rm_addp1_1 Z a x ea ke mc u0 h0 n0) 0 0 := by
  refine enter (Ls := #[.val (.ref a), .val (.ref x), .val (.ref ea), .val (.int (1 : Int32))]) (plainFor_of_name pn_2) (fun m => by first | rfl | (simp [entryFrame, mkF, argsToLocals, Value.category]; done)) ?_
  intro p e s m below meth c T0 hx hby hml hown hnm hret hlk hZ X0 e0
  have N0 := Fr.nil n0
  replace hown : s.vm.findClass "java/util/ArrayList" = some m.cls := hown
  show Run p e below _ (T0.setTop (mkF m 0 #[.val (.ref a), .val (.ref x), .val (.ref ea), .val (.int (1 : Int32))] []))
  have K0 := Keep.refl h0 [a, ea]
  refine go (fun _ => XS.iloadN X0.here hx rfl (hb hby d_j38_m24_0) rfl) ?_
  show Run p e below _ (T0.setTop (mkF m 1 #[.val (.ref a), .val (.ref x), .val (.ref ea), .val (.int (1 : Int32))] [(.int (1 : Int32))]))
  refine go (fun _ => XS.aloadN X0.here hx rfl (hb hby d_j38_m24_1) rfl rfl) ?_
  show Run p e below _ (T0.setTop (mkF m 2 #[.val (.ref a), .val (.ref x), .val (.ref ea), .val (.int (1 : Int32))] [(.ref ea), (.int (1 : Int32))]))
  obtain ⟨cl69, Ar69, ak69, as69, an69, ah69, ag69⟩ := id V_ea
  refine go (fun _ => X0.arraylength hx (by rw [e0]; exact Ar69.1) (State.isArrayOf_alike hZ.alike Ar69.2.1) (g := (mkF m 2 #[.val (.ref a), .val (.ref x), .val (.ref ea), .val (.int (1 : Int32))] [(.ref ea), (.int (1 : Int32))])) rfl rfl (hb hby d_j38_m24_2) _) ?_
  rw [len_of as69 an69]
  show Run p e below _ (T0.setTop (mkF m 3 #[.val (.ref a), .val (.ref x), .val (.ref ea), .val (.int (1 : Int32))] [(.int (10 : Int32)), (.int (1 : Int32))]))
  refine go (fun _ => XS.icmpYes X0.here hx rfl (pc0 := 3) (pc' := 11) rfl (hb hby d_j38_m24_3) rfl (feq (by decide : ¬ ((1 : Int32) = 10))).2 (by decide) (by decide)) ?_
  show Run p e below _ (T0.setTop (mkF m 11 #[.val (.ref a), .val (.ref x), .val (.ref ea), .val (.int (1 : Int32))] []))
  refine go (fun _ => XS.aloadN X0.here hx rfl (hb hby d_j38_m24_11) rfl rfl) ?_
  show Run p e below _ (T0.setTop (mkF m 12 #[.val (.ref a), .val (.ref x), .val (.ref ea), .val (.int (1 : Int32))] [(.ref ea)]))
  refine go (fun _ => XS.iloadN X0.here hx rfl (hb hby d_j38_m24_12) rfl) ?_
  show Run p e below _ (T0.setTop (mkF m 13 #[.val (.ref a), .val (.ref x), .val (.ref ea), .val (.int (1 : Int32))] [(.int (1 : Int32)), (.ref ea)]))
  refine go (fun _ => XS.aloadN X0.here hx rfl (hb hby d_j38_m24_13) rfl rfl) ?_
  show Run p e below _ (T0.setTop (mkF m 14 #[.val (.ref a), .val (.ref x), .val (.ref ea), .val (.int (1 : Int32))] [(.ref x), (.int (1 : Int32)), (.ref ea)]))
  obtain ⟨cl70, Ar70, ak70, as70, an70, ah70, ag70⟩ := id V_ea
  have hin70 := inb_of as70 (j := (1 : Int32)) ⟨by decide, by decide⟩
  obtain ⟨T70, h70, X70, e70, W70, st70⟩ := stR X0 hx hZ e0 Ar70 (j := (1 : Int32)) hin70 rfl (Sto.ofV Ar70 ak70 Oe (Ins.of_exa E_x (wd hw 68 rfl))) (g := (mkF m 14 #[.val (.ref a), .val (.ref x), .val (.ref ea), .val (.int (1 : Int32))] [(.ref x), (.int (1 : Int32)), (.ref ea)])) rfl rfl (hb hby d_j38_m24_14)
  have O0 := O0.wr W70 g_ea
  have E_a := E_a.wr W70
  have F_modCount_a := F_modCount_a.other W70 (Or.inl (Ne.symm ne_ea_a))
  have F_elementData_a := F_elementData_a.other W70 (Or.inl (Ne.symm ne_ea_a))
  have F_size_a := F_size_a.other W70 (Or.inl (Ne.symm ne_ea_a))
  have V_ea := (Arv.set Ar70 ak70 as70 an70 ah70 ag70 rfl W70 1 rfl (Nat.le_of_ble_eq_true rfl) : Arv Z h70 ea ke (.object "java/lang/Object") (10 : Int32) [u0, (.ref x), .null, .null, .null, .null, .null, .null, .null, .null] .null)
  have E_x := E_x.wr W70
  have K0 := K0.wr W70 (Or.inl (by simp))
  have N70 := Fr.snoc X70 N0 g_ea
  refine go st70 ?_
  show Run p e below _ (T70.setTop (mkF m 15 #[.val (.ref a), .val (.ref x), .val (.ref ea), .val (.int (1 : Int32))] []))
  refine go (fun _ => XS.aloadN X70.here hx rfl (hb hby d_j38_m24_15) rfl rfl) ?_
  show Run p e below _ (T70.setTop (mkF m 16 #[.val (.ref a), .val (.ref x), .val (.ref ea), .val (.int (1 : Int32))] [(.ref a)]))
  refine go (fun _ => XS.iloadN X70.here hx rfl (hb hby d_j38_m24_16) rfl) ?_
  show Run p e below _ (T70.setTop (mkF m 17 #[.val (.ref a), .val (.ref x), .val (.ref ea), .val (.int (1 : Int32))] [(.int (1 : Int32)), (.ref a)]))
  refine go (fun _ => XS.iconst X70.here hx rfl (hb hby d_j38_m24_17)) ?_
  show Run p e below _ (T70.setTop (mkF m 18 #[.val (.ref a), .val (.ref x), .val (.ref ea), .val (.int (1 : Int32))] [(.int (1 : Int32)), (.int (1 : Int32)), (.ref a)]))
  refine go (fun _ => XS.iadd X70.here hx rfl (hb hby d_j38_m24_18) rfl) ?_
  show Run p e below _ (T70.setTop (mkF m 19 #[.val (.ref a), .val (.ref x), .val (.ref ea), .val (.int (1 : Int32))] [(.int ((1 : Int32) + (1 : Int32))), (.ref a)]))
  show Run p e below _ (T70.setTop (mkF m 19 #[.val (.ref a), .val (.ref x), .val (.ref ea), .val (.int (1 : Int32))] [(.int (2 : Int32)), (.ref a)]))
  obtain ⟨T71, h71, X71, e71, W71, st71⟩ := putF X70 hx hZ hown (host := "") (Or.inl (wd hw 45 rfl)) Via.refl e70 F_size_a E_a (Or.inl (wd hw 46 rfl)) (wd hw 2 rfl) (ty := .int) (by decide) rfl rfl (g := (mkF m 19 #[.val (.ref a), .val (.ref x), .val (.ref ea), .val (.int (1 : Int32))] [(.int (2 : Int32)), (.ref a)])) rfl rfl (hb hby d_j38_m24_19)
  have O0 := O0.wr W71 g_a
  have E_a := E_a.wr W71
  have F_modCount_a := F_modCount_a.other W71 (Or.inr (slot_ne (Or.inl (wd hw 23 rfl)) (Or.inl (wd hw 46 rfl)) (by decide) (t := .int) (t' := .int) (by decide) (by decide)))
  have F_elementData_a := F_elementData_a.other W71 (Or.inr (slot_ne (Or.inl (wd hw 26 rfl)) (Or.inl (wd hw 46 rfl)) (by decide) (t := (.array (.object "java/lang/Object"))) (t' := .int) (by decide) (by decide)))
  have F_size_a := F_size_a.same W71
  have V_ea := V_ea.other W71 ne_ea_a
  have E_x := E_x.wr W71
  have K0 := K0.wr W71 (Or.inl (by simp))
  have N71 := Fr.snoc X71 N70 g_a
  refine go st71 ?_
  show Run p e below _ (T71.setTop (mkF m 22 #[.val (.ref a), .val (.ref x), .val (.ref ea), .val (.int (1 : Int32))] []))
  exact endV X71 hx hlk hret (hb hby d_j38_m24_22) (by rw [e71]; exact ⟨rfl, N71, K0, E_a, F_modCount_a, F_elementData_a, F_size_a, V_ea⟩) (by decide) (by decide)
def Q_rm_add1_1 (Z : State) (a x ea : Addr) (ke : ClassId) (mc : Int32) (u0 : Value)  (h0 : Heap) (n0 : Nat) (v : Option Value) (h : Heap) (L : List Loc) : Prop := v = some (.int 1) ∧ Fr n0 L ∧ Keep h0 h [a, ea] ∧ Exa Z h a "java/util/ArrayList" ∧ Fld Z h a "java/util/AbstractList" "modCount" "I" (.int (mc + (1 : Int32))) ∧ Fld Z h a "java/util/ArrayList" "elementData" "[Ljava/lang/Object;" (.ref ea) ∧ Fld Z h a "java/util/ArrayList" "size" "I" (.int (2 : Int32)) ∧ Arv Z h ea ke (.object "java/lang/Object") (10 : Int32) [u0, (.ref x), .null, .null, .null, .null, .null, .null, .null, .null] .null
set_option maxRecDepth 65536 in
set_option maxHeartbeats 40000000 in
theorem rm_add1_1 (l : Launch) (Z : State) (a0 : Array Value) (hw : ∀ d ∈ tables_1, d.before a0 Z = true) (ws : List Jvm.Cond) (a x ea : Addr) (ke : ClassId) (mc : Int32) (u0 : Value)  (h0 : Heap) (n0 : Nat) (O0 : Old Z n0 h0) (E_a : Exa Z h0 a "java/util/ArrayList") (F_modCount_a : Fld Z h0 a "java/util/AbstractList" "modCount" "I" (.int mc)) (F_elementData_a : Fld Z h0 a "java/util/ArrayList" "elementData" "[Ljava/lang/Object;" (.ref ea)) (F_size_a : Fld Z h0 a "java/util/ArrayList" "size" "I" (.int (1 : Int32))) (V_ea : Arv Z h0 ea ke (.object "java/lang/Object") (10 : Int32) [u0, .null, .null, .null, .null, .null, .null, .null, .null, .null] .null) (Oe : Ovr Z ke "java/lang/Object") (g_a : n0 ≤ a) (g_ea : n0 ≤ ea) (ne_ea_a : ea ≠ a) (E_x : Exa Z h0 x "java/lang/Integer") (ne_x_a : x ≠ a) (ne_x_ea : x ≠ ea) :
    Meets l (⟨"java/util/ArrayList", "add", "(Ljava/lang/Object;)Z"⟩ : MethodName) jdk_38_method_25_code 2 (some .boolean) ws ({ frames := 1, cells := 0, slots := 0, locals := 15 } : Room) Z #[(.ref a), (.ref x)] h0 (Q_rm_add1_1 Z a x ea ke mc u0 h0 n0) 0 0 := by
  refine enter (Ls := #[.val (.ref a), .val (.ref x)]) (plainFor_of_name pn_2) (fun m => by first | rfl | (simp [entryFrame, mkF, argsToLocals, Value.category]; done)) ?_
  intro p e s m below meth c T0 hx hby hml hown hnm hret hlk hZ X0 e0
  have N0 := Fr.nil n0
  replace hown : s.vm.findClass "java/util/ArrayList" = some m.cls := hown
  show Run p e below _ (T0.setTop (mkF m 0 #[.val (.ref a), .val (.ref x)] []))
  have K0 := Keep.refl h0 [a, ea]
  refine go (fun _ => XS.aloadN X0.here hx rfl (hb hby d_j38_m25_0) rfl rfl) ?_
  show Run p e below _ (T0.setTop (mkF m 1 #[.val (.ref a), .val (.ref x)] [(.ref a)]))
  refine go (fun _ => XS.dup X0.here hx rfl (hb hby d_j38_m25_1) rfl rfl) ?_
  show Run p e below _ (T0.setTop (mkF m 2 #[.val (.ref a), .val (.ref x)] [(.ref a), (.ref a)]))
  obtain ⟨T72, X72, e72, st72⟩ := getF X0 hx hZ hown (host := "") (Or.inl (wd hw 43 rfl)) (Via.of (wd hw 44 rfl)) e0 F_modCount_a (g := (mkF m 2 #[.val (.ref a), .val (.ref x)] [(.ref a), (.ref a)])) rfl rfl (hb hby d_j38_m25_2)
  refine go st72 ?_
  show Run p e below _ (T72.setTop (mkF m 5 #[.val (.ref a), .val (.ref x)] [(.int mc), (.ref a)]))
  refine go (fun _ => XS.iconst X72.here hx rfl (hb hby d_j38_m25_5)) ?_
  show Run p e below _ (T72.setTop (mkF m 6 #[.val (.ref a), .val (.ref x)] [(.int (1 : Int32)), (.int mc), (.ref a)]))
  refine go (fun _ => XS.iadd X72.here hx rfl (hb hby d_j38_m25_6) rfl) ?_
  show Run p e below _ (T72.setTop (mkF m 7 #[.val (.ref a), .val (.ref x)] [(.int (mc + (1 : Int32))), (.ref a)]))
  obtain ⟨T73, h73, X73, e73, W73, st73⟩ := putF X72 hx hZ hown (host := "") (Or.inl (wd hw 43 rfl)) (Via.of (wd hw 44 rfl)) e72 F_modCount_a E_a (Or.inl (wd hw 23 rfl)) (wd hw 2 rfl) (ty := .int) (by decide) rfl rfl (g := (mkF m 7 #[.val (.ref a), .val (.ref x)] [(.int (mc + (1 : Int32))), (.ref a)])) rfl rfl (hb hby d_j38_m25_7)
  have O0 := O0.wr W73 g_a
  have E_a := E_a.wr W73
  have F_modCount_a := F_modCount_a.same W73
  have F_elementData_a := F_elementData_a.other W73 (Or.inr (slot_ne (Or.inl (wd hw 26 rfl)) (Or.inl (wd hw 23 rfl)) (by decide) (t := (.array (.object "java/lang/Object"))) (t' := .int) (by decide) (by decide)))
  have F_size_a := F_size_a.other W73 (Or.inr (slot_ne (Or.inl (wd hw 46 rfl)) (Or.inl (wd hw 23 rfl)) (by decide) (t := .int) (t' := .int) (by decide) (by decide)))
  have V_ea := V_ea.other W73 ne_ea_a
  have E_x := E_x.wr W73
  have K0 := K0.wr W73 (Or.inl (by simp))
  have N73 := Fr.snoc X73 N0 g_a
  refine go st73 ?_
  show Run p e below _ (T73.setTop (mkF m 10 #[.val (.ref a), .val (.ref x)] []))
  refine go (fun _ => XS.aloadN X73.here hx rfl (hb hby d_j38_m25_10) rfl rfl) ?_
  show Run p e below _ (T73.setTop (mkF m 11 #[.val (.ref a), .val (.ref x)] [(.ref a)]))
  refine go (fun _ => XS.aloadN X73.here hx rfl (hb hby d_j38_m25_11) rfl rfl) ?_
  show Run p e below _ (T73.setTop (mkF m 12 #[.val (.ref a), .val (.ref x)] [(.ref x), (.ref a)]))
  refine go (fun _ => XS.aloadN X73.here hx rfl (hb hby d_j38_m25_12) rfl rfl) ?_
  show Run p e below _ (T73.setTop (mkF m 13 #[.val (.ref a), .val (.ref x)] [(.ref a), (.ref x), (.ref a)]))
  obtain ⟨T74, X74, e74, st74⟩ := getF X73 hx hZ hown (host := "") (Or.inl (wd hw 25 rfl)) Via.refl e73 F_elementData_a (g := (mkF m 13 #[.val (.ref a), .val (.ref x)] [(.ref a), (.ref x), (.ref a)])) rfl rfl (hb hby d_j38_m25_13)
  refine go st74 ?_
  show Run p e below _ (T74.setTop (mkF m 16 #[.val (.ref a), .val (.ref x)] [(.ref ea), (.ref x), (.ref a)]))
  refine go (fun _ => XS.aloadN X74.here hx rfl (hb hby d_j38_m25_16) rfl rfl) ?_
  show Run p e below _ (T74.setTop (mkF m 17 #[.val (.ref a), .val (.ref x)] [(.ref a), (.ref ea), (.ref x), (.ref a)]))
  obtain ⟨T75, X75, e75, st75⟩ := getF X74 hx hZ hown (host := "") (Or.inl (wd hw 45 rfl)) Via.refl e74 F_size_a (g := (mkF m 17 #[.val (.ref a), .val (.ref x)] [(.ref a), (.ref ea), (.ref x), (.ref a)])) rfl rfl (hb hby d_j38_m25_17)
  refine go st75 ?_
  show Run p e below _ (T75.setTop (mkF m 20 #[.val (.ref a), .val (.ref x)] [(.int (1 : Int32)), (.ref ea), (.ref x), (.ref a)]))
  refine callPr X75 hx hZ hown (wd hw 47 rfl) (wd hw 49 rfl) (wd hw 50 rfl) (wd hw 48 rfl) (wd hw 51 rfl) (wd hw 3 rfl) (by decide) e75 E_a (argsL := [(.ref x), (.ref ea), (.int (1 : Int32))]) (rest := []) (rm_addp1_1 l Z a0 hw [] a x ea ke (mc + (1 : Int32)) u0  h73 n0 O0 E_a F_modCount_a F_elementData_a F_size_a V_ea Oe g_a g_ea ne_ea_a E_x ne_x_a ne_x_ea) (W := 0) (by decide) (by decide) (by decide) (by decide) (by rw [hml]; rfl) (lenOf pd_9 rfl) rfl (Nat.le_of_eq rfl) (hb hby d_j38_m25_20) ?_
  intro v76 T76 L76 h76 X76 e76 q76
  obtain ⟨rfl, n76, K76, E_a, F_modCount_a, F_elementData_a, F_size_a, V_ea⟩ := q76
  have O0 := O0.keep K76 (allS g_a (allS g_ea all0))
  have E_x := E_x.keep K76
  have K0 := K0.trans K76 (allS (Or.inl (by simp)) (allS (Or.inl (by simp)) all0))
  have N76 := Fr.app N73 n76
  show Run p e below _ (T76.setTop (mkF m 23 #[.val (.ref a), .val (.ref x)] []))
  refine go (fun _ => XS.iconst X76.here hx rfl (hb hby d_j38_m25_23)) ?_
  show Run p e below _ (T76.setTop (mkF m 24 #[.val (.ref a), .val (.ref x)] [(.int (1 : Int32))]))
  exact endN X76 hx hlk (t := .boolean) hret (by simp) (hb hby d_j38_m25_24) (by rw [e76]; exact ⟨rfl, N76, K0, E_a, F_modCount_a, F_elementData_a, F_size_a, V_ea⟩) (by decide) (by decide)
theorem pn_9 : plainName "com/example/gridsteward/gridsteward/ListingPagesPinLaw" = true := by first | (simp [plainName, overriddenIn]; done) | decide +kernel
def Q_rmlaw (p0 : Int64) (p1 p2 : Int32) (wD : Addr) (kD : ClassId) (wc : Addr) (cl : Cell) (val : Int32 → Value) (h0 : Heap) (n0 : Nat) (v : Option Value) (h : Heap) (L : List Loc) : Prop := v = some (.int 1) ∧ Fr n0 L
set_option maxRecDepth 65536 in
set_option maxHeartbeats 40000000 in
theorem rmlaw (l : Launch) (Z : State) (a0 : Array Value) (hw : ∀ d ∈ tables_1, d.before a0 Z = true) (ws : List Jvm.Cond) (p0 : Int64) (p1 p2 : Int32) (wD : Addr) (kD : ClassId) (wc : Addr) (cl : Cell) (val : Int32 → Value) (h0 : Heap) (n0 : Nat) (O0 : Old Z n0 h0) (S_DEFAULTCAPACITY_EMPTY_ELEMENTDATA : Sta Z Z.heap "java/util/ArrayList" "DEFAULTCAPACITY_EMPTY_ELEMENTDATA" "[Ljava/lang/Object;" (.ref wD)) (VD : Arv Z Z.heap wD kD (.object "java/lang/Object") (0 : Int32) [] .null) (S_high : Sta Z Z.heap "java/lang/Integer$IntegerCache" "high" "I" (.int (127 : Int32))) (S_cache : Sta Z Z.heap "java/lang/Integer$IntegerCache" "cache" "[Ljava/lang/Integer;" (.ref wc)) (Bx : Bxs Z wc cl "java/lang/Integer" "I" (256 : Int32) val) :
    Meets l x code maxLocals ret ws room_1 Z #[(.long p0), (.int p1), (.int p2)] h0 (Q_rmlaw p0 p1 p2 wD kD wc cl val h0 n0) 24 128 := by
  refine enter (Ls := #[.val (.long p0), .second, .val (.int p1), .val (.int p2), .unset, .unset, .unset, .unset, .unset, .unset, .unset, .unset, .unset, .unset]) (plainFor_of_name pn_9) (fun m => by first | rfl | (simp [entryFrame, mkF, argsToLocals, Value.category]; done)) ?_
  intro p e s m below meth c T0 hx hby hml hown hnm hret hlk hZ X0 e0
  have N0 := Fr.nil n0
  replace hown : s.vm.findClass "com/example/gridsteward/gridsteward/ListingPagesPinLaw" = some m.cls := hown
  show Run p e below _ (T0.setTop (mkF m 0 #[.val (.long p0), .second, .val (.int p1), .val (.int p2), .unset, .unset, .unset, .unset, .unset, .unset, .unset, .unset, .unset, .unset] []))
  refine go (fun _ => XS.lloadN X0.here hx rfl (hb hby at_0) rfl) ?_
  show Run p e below _ (T0.setTop (mkF m 1 #[.val (.long p0), .second, .val (.int p1), .val (.int p2), .unset, .unset, .unset, .unset, .unset, .unset, .unset, .unset, .unset, .unset] [(.long p0)]))
  refine go (fun _ => X0.ldc2J hx hown (mvT hZ (wd hw 0 rfl)) rfl (hb hby at_1)) ?_
  show Run p e below _ (T0.setTop (mkF m 4 #[.val (.long p0), .second, .val (.int p1), .val (.int p2), .unset, .unset, .unset, .unset, .unset, .unset, .unset, .unset, .unset, .unset] [(.long (9223372036854775708 : Int64)), (.long p0)]))
  refine go (fun _ => XS.lcmp X0.here hx rfl (hb hby at_4) rfl) ?_
  show Run p e below _ (T0.setTop (mkF m 5 #[.val (.long p0), .second, .val (.int p1), .val (.int p2), .unset, .unset, .unset, .unset, .unset, .unset, .unset, .unset, .unset, .unset] [(.int (lcmpW p0 (9223372036854775708 : Int64)))]))
  have J17 : ∀ (T37 : State) (L37 : List Loc) (X37 : Stand p l e room_1 s m #[(.long p0), (.int p1), (.int p2)] below meth c T37 L37 0 0) (e37 : T37.heap = h0) (N37 : Fr n0 L37) (t : Int64)  (ht : t.toInt ≤ 9223372036854775708), Run p e below (Ends s (Q_rmlaw p0 p1 p2 wD kD wc cl val h0 n0) 24 128) (T37.setTop (mkF m 17 #[.val (.long p0), .second, .val (.int p1), .val (.int p2), .unset, .unset, .unset, .unset, .unset, .unset, .unset, .unset, .unset, .unset] [(.long t)])) := by
    intro T37 L37 X37 e37 N37 t  ht
    refine go (fun _ => XS.lstore X37.here hx rfl (hb hby at_17) rfl (l' := #[.val (.long p0), .second, .val (.int p1), .val (.int p2), .val (.long t), .second, .unset, .unset, .unset, .unset, .unset, .unset, .unset, .unset]) rfl) ?_
    show Run p e below _ (T37.setTop (mkF m 19 #[.val (.long p0), .second, .val (.int p1), .val (.int p2), .val (.long t), .second, .unset, .unset, .unset, .unset, .unset, .unset, .unset, .unset] []))
    obtain ⟨T38, h38, X38, e38, E38, A38, D38, -, st38⟩ := newO X37 hx hZ hown (wd hw 1 rfl) (wd hw 2 rfl) (wd hw 3 rfl) e37 (g := (mkF m 19 #[.val (.long p0), .second, .val (.int p1), .val (.int p2), .val (.long t), .second, .unset, .unset, .unset, .unset, .unset, .unset, .unset, .unset] [])) rfl (hb hby at_19) (by decide) (by decide)
    obtain ⟨b38, y38⟩ : ∃ z, z = h0.size := ⟨_, rfl⟩
    rw [← y38] at A38 D38 st38
    have g_b38 : n0 ≤ b38 := y38.symm ▸ old_sz O0
    have O0 := O0.ext E38
    have E_b38 := A38
    have F_modCount_b38 : Fld Z h38 b38 "java/util/AbstractList" "modCount" "I" (.int (0 : Int32)) := D38 (Or.inl (wd hw 23 rfl)) (ty := .int) (by decide)
    have F_elementData_b38 : Fld Z h38 b38 "java/util/ArrayList" "elementData" "[Ljava/lang/Object;" .null := D38 (Or.inl (wd hw 26 rfl)) (ty := (.array (.object "java/lang/Object"))) (by decide)
    have F_size_b38 : Fld Z h38 b38 "java/util/ArrayList" "size" "I" (.int (0 : Int32)) := D38 (Or.inl (wd hw 46 rfl)) (ty := .int) (by decide)
    refine go st38 ?_
    show Run p e below _ (T38.setTop (mkF m 22 #[.val (.long p0), .second, .val (.int p1), .val (.int p2), .val (.long t), .second, .unset, .unset, .unset, .unset, .unset, .unset, .unset, .unset] [(.ref b38)]))
    refine go (fun _ => XS.dup X38.here hx rfl (hb hby at_22) rfl rfl) ?_
    show Run p e below _ (T38.setTop (mkF m 23 #[.val (.long p0), .second, .val (.int p1), .val (.int p2), .val (.long t), .second, .unset, .unset, .unset, .unset, .unset, .unset, .unset, .unset] [(.ref b38), (.ref b38)]))
    refine callSp X38 hx hZ rfl hown (wd hw 4 rfl) (wd hw 5 rfl) (wd hw 6 rfl) (wd hw 3 rfl) (by decide) e38 (a := b38) (argsL := []) (rest := [(.ref b38)]) (rm_ali l Z a0 hw [] b38 wD h38 n0 O0 S_DEFAULTCAPACITY_EMPTY_ELEMENTDATA E_b38 F_modCount_b38 F_elementData_b38 F_size_b38 g_b38) (W := 1) (by decide) (by decide) (by decide) (by decide) (by rw [hml]; rfl) (lenOf pd_0 rfl) rfl (Nat.le_of_eq rfl) (hb hby at_23) ?_
    intro v39 T39 L39 h39 X39 e39 q39
    obtain ⟨rfl, n39, K39, E_b38, F_modCount_b38, F_elementData_b38, F_size_b38⟩ := q39
    have O0 := O0.keep K39 (allS g_b38 all0)
    have N39 := Fr.app N37 n39
    show Run p e below _ (T39.setTop (mkF m 26 #[.val (.long p0), .second, .val (.int p1), .val (.int p2), .val (.long t), .second, .unset, .unset, .unset, .unset, .unset, .unset, .unset, .unset] [(.ref b38)]))
    refine go (fun _ => XS.astore X39.here hx rfl (hb hby at_26) rfl rfl (l' := #[.val (.long p0), .second, .val (.int p1), .val (.int p2), .val (.long t), .second, .val (.ref b38), .unset, .unset, .unset, .unset, .unset, .unset, .unset]) rfl) ?_
    show Run p e below _ (T39.setTop (mkF m 28 #[.val (.long p0), .second, .val (.int p1), .val (.int p2), .val (.long t), .second, .val (.ref b38), .unset, .unset, .unset, .unset, .unset, .unset, .unset] []))
    have J64 : ∀ (T40 : State) (L40 : List Loc) (h40 : Heap) (X40 : Stand p l e room_1 s m #[(.long p0), (.int p1), (.int p2)] below meth c T40 L40 12 60) (e40 : T40.heap = h40) (N40 : Fr n0 L40) (r : Addr) (O0 : Old Z n0 h40) , Run p e below (Ends s (Q_rmlaw p0 p1 p2 wD kD wc cl val h0 n0) 24 128) (T40.setTop (mkF m 64 #[.val (.long p0), .second, .val (.int p1), .val (.int p2), .val (.long t), .second, .val (.ref r), .unset, .unset, .unset, .unset, .unset, .unset, .unset] [])) := by
      intro T40 L40 h40 X40 e40 N40 r O0 
      obtain ⟨T41, h41, X41, e41, E41, A41, D41, -, st41⟩ := newO X40 hx hZ hown (wd hw 69 rfl) (wd hw 70 rfl) (wd hw 71 rfl) e40 (g := (mkF m 64 #[.val (.long p0), .second, .val (.int p1), .val (.int p2), .val (.long t), .second, .val (.ref r), .unset, .unset, .unset, .unset, .unset, .unset, .unset] [])) rfl (hb hby at_64) (by decide) (by decide)
      obtain ⟨b41, y41⟩ : ∃ z, z = h40.size := ⟨_, rfl⟩
      rw [← y41] at A41 D41 st41
      have g_b41 : n0 ≤ b41 := y41.symm ▸ old_sz O0
      have O0 := O0.ext E41
      have E_b41 := A41
      have F_items_b41 : Fld Z h41 b41 "com/example/gridsteward/gridsteward/Listing" "items" "Ljava/util/List;" .null := D41 (Or.inr (wd hw 82 rfl)) (ty := (.object "java/util/List")) (by decide)
      have F_page_b41 : Fld Z h41 b41 "com/example/gridsteward/gridsteward/Listing" "page" "I" (.int (0 : Int32)) := D41 (Or.inr (wd hw 84 rfl)) (ty := .int) (by decide)
      have F_total_b41 : Fld Z h41 b41 "com/example/gridsteward/gridsteward/Listing" "total" "J" (.long (0 : Int64)) := D41 (Or.inr (wd hw 86 rfl)) (ty := .long) (by decide)
      refine go st41 ?_
      show Run p e below _ (T41.setTop (mkF m 67 #[.val (.long p0), .second, .val (.int p1), .val (.int p2), .val (.long t), .second, .val (.ref r), .unset, .unset, .unset, .unset, .unset, .unset, .unset] [(.ref b41)]))
      refine go (fun _ => XS.dup X41.here hx rfl (hb hby at_67) rfl rfl) ?_
      show Run p e below _ (T41.setTop (mkF m 68 #[.val (.long p0), .second, .val (.int p1), .val (.int p2), .val (.long t), .second, .val (.ref r), .unset, .unset, .unset, .unset, .unset, .unset, .unset] [(.ref b41), (.ref b41)]))
      refine go (fun _ => XS.aload X41.here hx rfl (hb hby at_68) rfl rfl) ?_
      show Run p e below _ (T41.setTop (mkF m 70 #[.val (.long p0), .second, .val (.int p1), .val (.int p2), .val (.long t), .second, .val (.ref r), .unset, .unset, .unset, .unset, .unset, .unset, .unset] [(.ref r), (.ref b41), (.ref b41)]))
      refine go (fun _ => XS.iloadN X41.here hx rfl (hb hby at_70) rfl) ?_
      show Run p e below _ (T41.setTop (mkF m 71 #[.val (.long p0), .second, .val (.int p1), .val (.int p2), .val (.long t), .second, .val (.ref r), .unset, .unset, .unset, .unset, .unset, .unset, .unset] [(.int p1), (.ref r), (.ref b41), (.ref b41)]))
      refine go (fun _ => XS.lload X41.here hx rfl (hb hby at_71) rfl) ?_
      show Run p e below _ (T41.setTop (mkF m 73 #[.val (.long p0), .second, .val (.int p1), .val (.int p2), .val (.long t), .second, .val (.ref r), .unset, .unset, .unset, .unset, .unset, .unset, .unset] [(.long t), (.int p1), (.ref r), (.ref b41), (.ref b41)]))
      refine callSp X41 hx hZ rfl hown (wd hw 72 rfl) (wd hw 73 rfl) (wd hw 74 rfl) (wd hw 71 rfl) (by decide) e41 (a := b41) (argsL := [(.ref r), (.int p1), (.long t)]) (rest := [(.ref b41)]) (rm_lst l Z a0 hw [] b41 r p1 t h41 n0 O0 E_b41 F_items_b41 F_page_b41 F_total_b41 g_b41) (W := 1) (by decide) (by decide) (by decide) (by decide) (by rw [hml]; rfl) (lenOf pd_5 rfl) rfl (Nat.le_of_eq rfl) (hb hby at_73) ?_
      intro v42 T42 L42 h42 X42 e42 q42
      obtain ⟨rfl, n42, K42, E_b41, F_total_b41⟩ := q42
      have O0 := O0.keep K42 (allS g_b41 all0)
      have N42 := Fr.app N40 n42
      show Run p e below _ (T42.setTop (mkF m 76 #[.val (.long p0), .second, .val (.int p1), .val (.int p2), .val (.long t), .second, .val (.ref r), .unset, .unset, .unset, .unset, .unset, .unset, .unset] [(.ref b41)]))
      refine go (fun _ => XS.astore X42.here hx rfl (hb hby at_76) rfl rfl (l' := #[.val (.long p0), .second, .val (.int p1), .val (.int p2), .val (.long t), .second, .val (.ref r), .val (.ref b41), .unset, .unset, .unset, .unset, .unset, .unset]) rfl) ?_
      show Run p e below _ (T42.setTop (mkF m 78 #[.val (.long p0), .second, .val (.int p1), .val (.int p2), .val (.long t), .second, .val (.ref r), .val (.ref b41), .unset, .unset, .unset, .unset, .unset, .unset] []))
      refine go (fun _ => XS.lload X42.here hx rfl (hb hby at_78) rfl) ?_
      show Run p e below _ (T42.setTop (mkF m 80 #[.val (.long p0), .second, .val (.int p1), .val (.int p2), .val (.long t), .second, .val (.ref r), .val (.ref b41), .unset, .unset, .unset, .unset, .unset, .unset] [(.long t)]))
      refine go (fun _ => XS.lconst X42.here hx rfl (hb hby at_80)) ?_
      show Run p e below _ (T42.setTop (mkF m 81 #[.val (.long p0), .second, .val (.int p1), .val (.int p2), .val (.long t), .second, .val (.ref r), .val (.ref b41), .unset, .unset, .unset, .unset, .unset, .unset] [(.long (0 : Int64)), (.long t)]))
      refine go (fun _ => XS.lcmp X42.here hx rfl (hb hby at_81) rfl) ?_
      show Run p e below _ (T42.setTop (mkF m 82 #[.val (.long p0), .second, .val (.int p1), .val (.int p2), .val (.long t), .second, .val (.ref r), .val (.ref b41), .unset, .unset, .unset, .unset, .unset, .unset] [(.int (lcmpW t (0 : Int64)))]))
      by_cases c43 : 0 < (lcmpW t (0 : Int64))
      · skip
        refine go (fun _ => XS.ifYes X42.here hx rfl (pc0 := 82) (pc' := 91) rfl (hb hby at_82) rfl ((if0 _ _).trans (tlt c43).2.2.1) (by decide) (by decide)) ?_
        show Run p e below _ (T42.setTop (mkF m 91 #[.val (.long p0), .second, .val (.int p1), .val (.int p2), .val (.long t), .second, .val (.ref r), .val (.ref b41), .unset, .unset, .unset, .unset, .unset, .unset] []))
        refine go (fun _ => XS.lload X42.here hx rfl (hb hby at_91) rfl) ?_
        show Run p e below _ (T42.setTop (mkF m 93 #[.val (.long p0), .second, .val (.int p1), .val (.int p2), .val (.long t), .second, .val (.ref r), .val (.ref b41), .unset, .unset, .unset, .unset, .unset, .unset] [(.long t)]))
        refine go (fun _ => X42.ldc2J hx hown (mvT hZ (wd hw 87 rfl)) rfl (hb hby at_93)) ?_
        show Run p e below _ (T42.setTop (mkF m 96 #[.val (.long p0), .second, .val (.int p1), .val (.int p2), .val (.long t), .second, .val (.ref r), .val (.ref b41), .unset, .unset, .unset, .unset, .unset, .unset] [(.long (100 : Int64)), (.long t)]))
        refine go (fun _ => XS.ldiv X42.here hx rfl (hb hby at_96) rfl (by decide)) ?_
        show Run p e below _ (T42.setTop (mkF m 97 #[.val (.long p0), .second, .val (.int p1), .val (.int p2), .val (.long t), .second, .val (.ref r), .val (.ref b41), .unset, .unset, .unset, .unset, .unset, .unset] [(.long (t / (100 : Int64)))]))
        refine go (fun _ => XS.lstore X42.here hx rfl (hb hby at_97) rfl (l' := #[.val (.long p0), .second, .val (.int p1), .val (.int p2), .val (.long t), .second, .val (.ref r), .val (.ref b41), .unset, .unset, .val (.long (t / (100 : Int64))), .second, .unset, .unset]) rfl) ?_
        show Run p e below _ (T42.setTop (mkF m 99 #[.val (.long p0), .second, .val (.int p1), .val (.int p2), .val (.long t), .second, .val (.ref r), .val (.ref b41), .unset, .unset, .val (.long (t / (100 : Int64))), .second, .unset, .unset] []))
        refine go (fun _ => XS.lload X42.here hx rfl (hb hby at_99) rfl) ?_
        show Run p e below _ (T42.setTop (mkF m 101 #[.val (.long p0), .second, .val (.int p1), .val (.int p2), .val (.long t), .second, .val (.ref r), .val (.ref b41), .unset, .unset, .val (.long (t / (100 : Int64))), .second, .unset, .unset] [(.long t)]))
        refine go (fun _ => X42.ldc2J hx hown (mvT hZ (wd hw 87 rfl)) rfl (hb hby at_101)) ?_
        show Run p e below _ (T42.setTop (mkF m 104 #[.val (.long p0), .second, .val (.int p1), .val (.int p2), .val (.long t), .second, .val (.ref r), .val (.ref b41), .unset, .unset, .val (.long (t / (100 : Int64))), .second, .unset, .unset] [(.long (100 : Int64)), (.long t)]))
        refine go (fun _ => XS.lrem X42.here hx rfl (hb hby at_104) rfl (by decide)) ?_
        show Run p e below _ (T42.setTop (mkF m 105 #[.val (.long p0), .second, .val (.int p1), .val (.int p2), .val (.long t), .second, .val (.ref r), .val (.ref b41), .unset, .unset, .val (.long (t / (100 : Int64))), .second, .unset, .unset] [(.long (t - (t / (100 : Int64)) * (100 : Int64)))]))
        refine go (fun _ => XS.lstore X42.here hx rfl (hb hby at_105) rfl (l' := #[.val (.long p0), .second, .val (.int p1), .val (.int p2), .val (.long t), .second, .val (.ref r), .val (.ref b41), .unset, .unset, .val (.long (t / (100 : Int64))), .second, .val (.long (t - (t / (100 : Int64)) * (100 : Int64))), .second]) rfl) ?_
        show Run p e below _ (T42.setTop (mkF m 107 #[.val (.long p0), .second, .val (.int p1), .val (.int p2), .val (.long t), .second, .val (.ref r), .val (.ref b41), .unset, .unset, .val (.long (t / (100 : Int64))), .second, .val (.long (t - (t / (100 : Int64)) * (100 : Int64))), .second] []))
        refine go (fun _ => XS.lload X42.here hx rfl (hb hby at_107) rfl) ?_
        show Run p e below _ (T42.setTop (mkF m 109 #[.val (.long p0), .second, .val (.int p1), .val (.int p2), .val (.long t), .second, .val (.ref r), .val (.ref b41), .unset, .unset, .val (.long (t / (100 : Int64))), .second, .val (.long (t - (t / (100 : Int64)) * (100 : Int64))), .second] [(.long (t - (t / (100 : Int64)) * (100 : Int64)))]))
        refine go (fun _ => XS.lconst X42.here hx rfl (hb hby at_109)) ?_
        show Run p e below _ (T42.setTop (mkF m 110 #[.val (.long p0), .second, .val (.int p1), .val (.int p2), .val (.long t), .second, .val (.ref r), .val (.ref b41), .unset, .unset, .val (.long (t / (100 : Int64))), .second, .val (.long (t - (t / (100 : Int64)) * (100 : Int64))), .second] [(.long (0 : Int64)), (.long (t - (t / (100 : Int64)) * (100 : Int64)))]))
        refine go (fun _ => XS.lcmp X42.here hx rfl (hb hby at_110) rfl) ?_
        show Run p e below _ (T42.setTop (mkF m 111 #[.val (.long p0), .second, .val (.int p1), .val (.int p2), .val (.long t), .second, .val (.ref r), .val (.ref b41), .unset, .unset, .val (.long (t / (100 : Int64))), .second, .val (.long (t - (t / (100 : Int64)) * (100 : Int64))), .second] [(.int (lcmpW (t - (t / (100 : Int64)) * (100 : Int64)) (0 : Int64)))]))
        by_cases c44 : (lcmpW (t - (t / (100 : Int64)) * (100 : Int64)) (0 : Int64)) = 0
        · skip
          refine go (fun _ => XS.ifNo X42.here hx rfl (hb hby at_111) rfl ((if0 _ _).trans (teq c44).2)) ?_
          show Run p e below _ (T42.setTop (mkF m 114 #[.val (.long p0), .second, .val (.int p1), .val (.int p2), .val (.long t), .second, .val (.ref r), .val (.ref b41), .unset, .unset, .val (.long (t / (100 : Int64))), .second, .val (.long (t - (t / (100 : Int64)) * (100 : Int64))), .second] []))
          refine go (fun _ => XS.lload X42.here hx rfl (hb hby at_114) rfl) ?_
          show Run p e below _ (T42.setTop (mkF m 116 #[.val (.long p0), .second, .val (.int p1), .val (.int p2), .val (.long t), .second, .val (.ref r), .val (.ref b41), .unset, .unset, .val (.long (t / (100 : Int64))), .second, .val (.long (t - (t / (100 : Int64)) * (100 : Int64))), .second] [(.long (t / (100 : Int64)))]))
          refine go (fun _ => XS.goto X42.here hx rfl (pc0 := 116) (pc' := 123) rfl (hb hby at_116) (by decide) (by decide)) ?_
          show Run p e below _ (T42.setTop (mkF m 123 #[.val (.long p0), .second, .val (.int p1), .val (.int p2), .val (.long t), .second, .val (.ref r), .val (.ref b41), .unset, .unset, .val (.long (t / (100 : Int64))), .second, .val (.long (t - (t / (100 : Int64)) * (100 : Int64))), .second] [(.long (t / (100 : Int64)))]))
          refine go (fun _ => XS.lstore X42.here hx rfl (hb hby at_123) rfl (l' := #[.val (.long p0), .second, .val (.int p1), .val (.int p2), .val (.long t), .second, .val (.ref r), .val (.ref b41), .val (.long (t / (100 : Int64))), .second, .val (.long (t / (100 : Int64))), .second, .val (.long (t - (t / (100 : Int64)) * (100 : Int64))), .second]) rfl) ?_
          show Run p e below _ (T42.setTop (mkF m 125 #[.val (.long p0), .second, .val (.int p1), .val (.int p2), .val (.long t), .second, .val (.ref r), .val (.ref b41), .val (.long (t / (100 : Int64))), .second, .val (.long (t / (100 : Int64))), .second, .val (.long (t - (t / (100 : Int64)) * (100 : Int64))), .second] []))
          refine go (fun _ => XS.aload X42.here hx rfl (hb hby at_125) rfl rfl) ?_
          show Run p e below _ (T42.setTop (mkF m 127 #[.val (.long p0), .second, .val (.int p1), .val (.int p2), .val (.long t), .second, .val (.ref r), .val (.ref b41), .val (.long (t / (100 : Int64))), .second, .val (.long (t / (100 : Int64))), .second, .val (.long (t - (t / (100 : Int64)) * (100 : Int64))), .second] [(.ref b41)]))
          have hpg : pgV t = (t / (100 : Int64)) := by
            rw [own_pg t ht]
            have k0 : (0 : Int64).toInt = 0 := by decide
            rw [lw_gt, Int64.lt_iff_toInt_lt, k0] at c43
            rw [if_neg (by omega)]
            rw [lw_eq] at c44
            rw [if_pos c44]
          refine callVi X42 hx hZ hown (wd hw 88 rfl) (wd hw 89 rfl) (notFace_of_selects (args := #[]) (mvT hZ (wd hw 91 rfl))) (wd hw 91 rfl) (wd hw 90 rfl) (wd hw 92 rfl) (wd hw 71 rfl) (by decide) e42 E_b41 (argsL := []) (rest := []) (rm_pg l Z a0 hw [] b41 t h42 n0 O0 E_b41 F_total_b41) (W := 0) (by decide) (by decide) (by decide) (by decide) (by rw [hml]; rfl) (lenOf pd_6 rfl) rfl (Nat.le_of_eq rfl) (hb hby at_127) ?_
          intro v45 T45 L45 h45 X45 e45 q45
          obtain ⟨rv, n45, k45⟩ := q45
          replace rv : v45 = some (.long (t / (100 : Int64))) := hpg ▸ rv
          subst rv
          have e45 := e45.trans k45
          have N45 := Fr.app N42 n45
          show Run p e below _ (T45.setTop (mkF m 130 #[.val (.long p0), .second, .val (.int p1), .val (.int p2), .val (.long t), .second, .val (.ref r), .val (.ref b41), .val (.long (t / (100 : Int64))), .second, .val (.long (t / (100 : Int64))), .second, .val (.long (t - (t / (100 : Int64)) * (100 : Int64))), .second] [(.long (t / (100 : Int64)))]))
          refine go (fun _ => XS.lload X45.here hx rfl (hb hby at_130) rfl) ?_
          show Run p e below _ (T45.setTop (mkF m 132 #[.val (.long p0), .second, .val (.int p1), .val (.int p2), .val (.long t), .second, .val (.ref r), .val (.ref b41), .val (.long (t / (100 : Int64))), .second, .val (.long (t / (100 : Int64))), .second, .val (.long (t - (t / (100 : Int64)) * (100 : Int64))), .second] [(.long (t / (100 : Int64))), (.long (t / (100 : Int64)))]))
          refine go (fun _ => XS.lcmp X45.here hx rfl (hb hby at_132) rfl) ?_
          show Run p e below _ (T45.setTop (mkF m 133 #[.val (.long p0), .second, .val (.int p1), .val (.int p2), .val (.long t), .second, .val (.ref r), .val (.ref b41), .val (.long (t / (100 : Int64))), .second, .val (.long (t / (100 : Int64))), .second, .val (.long (t - (t / (100 : Int64)) * (100 : Int64))), .second] [(.int (lcmpW (t / (100 : Int64)) (t / (100 : Int64))))]))
          have hq := (lw_eq (t / (100 : Int64)) (t / (100 : Int64))).mpr rfl
          refine go (fun _ => XS.ifNo X45.here hx rfl (hb hby at_133) rfl ((if0 _ _).trans (teq hq).2)) ?_
          show Run p e below _ (T45.setTop (mkF m 136 #[.val (.long p0), .second, .val (.int p1), .val (.int p2), .val (.long t), .second, .val (.ref r), .val (.ref b41), .val (.long (t / (100 : Int64))), .second, .val (.long (t / (100 : Int64))), .second, .val (.long (t - (t / (100 : Int64)) * (100 : Int64))), .second] []))
          refine go (fun _ => XS.iconst X45.here hx rfl (hb hby at_136)) ?_
          show Run p e below _ (T45.setTop (mkF m 137 #[.val (.long p0), .second, .val (.int p1), .val (.int p2), .val (.long t), .second, .val (.ref r), .val (.ref b41), .val (.long (t / (100 : Int64))), .second, .val (.long (t / (100 : Int64))), .second, .val (.long (t - (t / (100 : Int64)) * (100 : Int64))), .second] [(.int (1 : Int32))]))
          refine go (fun _ => XS.goto X45.here hx rfl (pc0 := 137) (pc' := 141) rfl (hb hby at_137) (by decide) (by decide)) ?_
          show Run p e below _ (T45.setTop (mkF m 141 #[.val (.long p0), .second, .val (.int p1), .val (.int p2), .val (.long t), .second, .val (.ref r), .val (.ref b41), .val (.long (t / (100 : Int64))), .second, .val (.long (t / (100 : Int64))), .second, .val (.long (t - (t / (100 : Int64)) * (100 : Int64))), .second] [(.int (1 : Int32))]))
          exact endN X45 hx hlk (t := .boolean) hret (by simp) (hb hby at_141) (⟨rfl, N45⟩) (by decide) (by decide)
        · skip
          refine go (fun _ => XS.ifYes X42.here hx rfl (pc0 := 111) (pc' := 119) rfl (hb hby at_111) rfl ((if0 _ _).trans (feq c44).2) (by decide) (by decide)) ?_
          show Run p e below _ (T42.setTop (mkF m 119 #[.val (.long p0), .second, .val (.int p1), .val (.int p2), .val (.long t), .second, .val (.ref r), .val (.ref b41), .unset, .unset, .val (.long (t / (100 : Int64))), .second, .val (.long (t - (t / (100 : Int64)) * (100 : Int64))), .second] []))
          refine go (fun _ => XS.lload X42.here hx rfl (hb hby at_119) rfl) ?_
          show Run p e below _ (T42.setTop (mkF m 121 #[.val (.long p0), .second, .val (.int p1), .val (.int p2), .val (.long t), .second, .val (.ref r), .val (.ref b41), .unset, .unset, .val (.long (t / (100 : Int64))), .second, .val (.long (t - (t / (100 : Int64)) * (100 : Int64))), .second] [(.long (t / (100 : Int64)))]))
          refine go (fun _ => XS.lconst X42.here hx rfl (hb hby at_121)) ?_
          show Run p e below _ (T42.setTop (mkF m 122 #[.val (.long p0), .second, .val (.int p1), .val (.int p2), .val (.long t), .second, .val (.ref r), .val (.ref b41), .unset, .unset, .val (.long (t / (100 : Int64))), .second, .val (.long (t - (t / (100 : Int64)) * (100 : Int64))), .second] [(.long (1 : Int64)), (.long (t / (100 : Int64)))]))
          refine go (fun _ => XS.ladd X42.here hx rfl (hb hby at_122) rfl) ?_
          show Run p e below _ (T42.setTop (mkF m 123 #[.val (.long p0), .second, .val (.int p1), .val (.int p2), .val (.long t), .second, .val (.ref r), .val (.ref b41), .unset, .unset, .val (.long (t / (100 : Int64))), .second, .val (.long (t - (t / (100 : Int64)) * (100 : Int64))), .second] [(.long ((t / (100 : Int64)) + (1 : Int64)))]))
          refine go (fun _ => XS.lstore X42.here hx rfl (hb hby at_123) rfl (l' := #[.val (.long p0), .second, .val (.int p1), .val (.int p2), .val (.long t), .second, .val (.ref r), .val (.ref b41), .val (.long ((t / (100 : Int64)) + (1 : Int64))), .second, .val (.long (t / (100 : Int64))), .second, .val (.long (t - (t / (100 : Int64)) * (100 : Int64))), .second]) rfl) ?_
          show Run p e below _ (T42.setTop (mkF m 125 #[.val (.long p0), .second, .val (.int p1), .val (.int p2), .val (.long t), .second, .val (.ref r), .val (.ref b41), .val (.long ((t / (100 : Int64)) + (1 : Int64))), .second, .val (.long (t / (100 : Int64))), .second, .val (.long (t - (t / (100 : Int64)) * (100 : Int64))), .second] []))
          refine go (fun _ => XS.aload X42.here hx rfl (hb hby at_125) rfl rfl) ?_
          show Run p e below _ (T42.setTop (mkF m 127 #[.val (.long p0), .second, .val (.int p1), .val (.int p2), .val (.long t), .second, .val (.ref r), .val (.ref b41), .val (.long ((t / (100 : Int64)) + (1 : Int64))), .second, .val (.long (t / (100 : Int64))), .second, .val (.long (t - (t / (100 : Int64)) * (100 : Int64))), .second] [(.ref b41)]))
          have hpg : pgV t = ((t / (100 : Int64)) + (1 : Int64)) := by
            rw [own_pg t ht]
            have k0 : (0 : Int64).toInt = 0 := by decide
            rw [lw_gt, Int64.lt_iff_toInt_lt, k0] at c43
            rw [if_neg (by omega)]
            rw [lw_eq] at c44
            rw [if_neg c44]
          refine callVi X42 hx hZ hown (wd hw 88 rfl) (wd hw 89 rfl) (notFace_of_selects (args := #[]) (mvT hZ (wd hw 91 rfl))) (wd hw 91 rfl) (wd hw 90 rfl) (wd hw 92 rfl) (wd hw 71 rfl) (by decide) e42 E_b41 (argsL := []) (rest := []) (rm_pg l Z a0 hw [] b41 t h42 n0 O0 E_b41 F_total_b41) (W := 0) (by decide) (by decide) (by decide) (by decide) (by rw [hml]; rfl) (lenOf pd_6 rfl) rfl (Nat.le_of_eq rfl) (hb hby at_127) ?_
          intro v46 T46 L46 h46 X46 e46 q46
          obtain ⟨rv, n46, k46⟩ := q46
          replace rv : v46 = some (.long ((t / (100 : Int64)) + (1 : Int64))) := hpg ▸ rv
          subst rv
          have e46 := e46.trans k46
          have N46 := Fr.app N42 n46
          show Run p e below _ (T46.setTop (mkF m 130 #[.val (.long p0), .second, .val (.int p1), .val (.int p2), .val (.long t), .second, .val (.ref r), .val (.ref b41), .val (.long ((t / (100 : Int64)) + (1 : Int64))), .second, .val (.long (t / (100 : Int64))), .second, .val (.long (t - (t / (100 : Int64)) * (100 : Int64))), .second] [(.long ((t / (100 : Int64)) + (1 : Int64)))]))
          refine go (fun _ => XS.lload X46.here hx rfl (hb hby at_130) rfl) ?_
          show Run p e below _ (T46.setTop (mkF m 132 #[.val (.long p0), .second, .val (.int p1), .val (.int p2), .val (.long t), .second, .val (.ref r), .val (.ref b41), .val (.long ((t / (100 : Int64)) + (1 : Int64))), .second, .val (.long (t / (100 : Int64))), .second, .val (.long (t - (t / (100 : Int64)) * (100 : Int64))), .second] [(.long ((t / (100 : Int64)) + (1 : Int64))), (.long ((t / (100 : Int64)) + (1 : Int64)))]))
          refine go (fun _ => XS.lcmp X46.here hx rfl (hb hby at_132) rfl) ?_
          show Run p e below _ (T46.setTop (mkF m 133 #[.val (.long p0), .second, .val (.int p1), .val (.int p2), .val (.long t), .second, .val (.ref r), .val (.ref b41), .val (.long ((t / (100 : Int64)) + (1 : Int64))), .second, .val (.long (t / (100 : Int64))), .second, .val (.long (t - (t / (100 : Int64)) * (100 : Int64))), .second] [(.int (lcmpW ((t / (100 : Int64)) + (1 : Int64)) ((t / (100 : Int64)) + (1 : Int64))))]))
          have hq := (lw_eq ((t / (100 : Int64)) + (1 : Int64)) ((t / (100 : Int64)) + (1 : Int64))).mpr rfl
          refine go (fun _ => XS.ifNo X46.here hx rfl (hb hby at_133) rfl ((if0 _ _).trans (teq hq).2)) ?_
          show Run p e below _ (T46.setTop (mkF m 136 #[.val (.long p0), .second, .val (.int p1), .val (.int p2), .val (.long t), .second, .val (.ref r), .val (.ref b41), .val (.long ((t / (100 : Int64)) + (1 : Int64))), .second, .val (.long (t / (100 : Int64))), .second, .val (.long (t - (t / (100 : Int64)) * (100 : Int64))), .second] []))
          refine go (fun _ => XS.iconst X46.here hx rfl (hb hby at_136)) ?_
          show Run p e below _ (T46.setTop (mkF m 137 #[.val (.long p0), .second, .val (.int p1), .val (.int p2), .val (.long t), .second, .val (.ref r), .val (.ref b41), .val (.long ((t / (100 : Int64)) + (1 : Int64))), .second, .val (.long (t / (100 : Int64))), .second, .val (.long (t - (t / (100 : Int64)) * (100 : Int64))), .second] [(.int (1 : Int32))]))
          refine go (fun _ => XS.goto X46.here hx rfl (pc0 := 137) (pc' := 141) rfl (hb hby at_137) (by decide) (by decide)) ?_
          show Run p e below _ (T46.setTop (mkF m 141 #[.val (.long p0), .second, .val (.int p1), .val (.int p2), .val (.long t), .second, .val (.ref r), .val (.ref b41), .val (.long ((t / (100 : Int64)) + (1 : Int64))), .second, .val (.long (t / (100 : Int64))), .second, .val (.long (t - (t / (100 : Int64)) * (100 : Int64))), .second] [(.int (1 : Int32))]))
          exact endN X46 hx hlk (t := .boolean) hret (by simp) (hb hby at_141) (⟨rfl, N46⟩) (by decide) (by decide)
      · skip
        refine go (fun _ => XS.ifNo X42.here hx rfl (hb hby at_82) rfl ((if0 _ _).trans (flt c43).2.2.1)) ?_
        show Run p e below _ (T42.setTop (mkF m 85 #[.val (.long p0), .second, .val (.int p1), .val (.int p2), .val (.long t), .second, .val (.ref r), .val (.ref b41), .unset, .unset, .unset, .unset, .unset, .unset] []))
        refine go (fun _ => XS.lconst X42.here hx rfl (hb hby at_85)) ?_
        show Run p e below _ (T42.setTop (mkF m 86 #[.val (.long p0), .second, .val (.int p1), .val (.int p2), .val (.long t), .second, .val (.ref r), .val (.ref b41), .unset, .unset, .unset, .unset, .unset, .unset] [(.long (1 : Int64))]))
        refine go (fun _ => XS.lstore X42.here hx rfl (hb hby at_86) rfl (l' := #[.val (.long p0), .second, .val (.int p1), .val (.int p2), .val (.long t), .second, .val (.ref r), .val (.ref b41), .val (.long (1 : Int64)), .second, .unset, .unset, .unset, .unset]) rfl) ?_
        show Run p e below _ (T42.setTop (mkF m 88 #[.val (.long p0), .second, .val (.int p1), .val (.int p2), .val (.long t), .second, .val (.ref r), .val (.ref b41), .val (.long (1 : Int64)), .second, .unset, .unset, .unset, .unset] []))
        refine go (fun _ => XS.goto X42.here hx rfl (pc0 := 88) (pc' := 125) rfl (hb hby at_88) (by decide) (by decide)) ?_
        show Run p e below _ (T42.setTop (mkF m 125 #[.val (.long p0), .second, .val (.int p1), .val (.int p2), .val (.long t), .second, .val (.ref r), .val (.ref b41), .val (.long (1 : Int64)), .second, .unset, .unset, .unset, .unset] []))
        refine go (fun _ => XS.aload X42.here hx rfl (hb hby at_125) rfl rfl) ?_
        show Run p e below _ (T42.setTop (mkF m 127 #[.val (.long p0), .second, .val (.int p1), .val (.int p2), .val (.long t), .second, .val (.ref r), .val (.ref b41), .val (.long (1 : Int64)), .second, .unset, .unset, .unset, .unset] [(.ref b41)]))
        have hpg : pgV t = (1 : Int64) := by
          rw [own_pg t ht]
          have k0 : (0 : Int64).toInt = 0 := by decide
          rw [lw_gt, Int64.lt_iff_toInt_lt, k0] at c43
          rw [if_pos (by omega)]
        refine callVi X42 hx hZ hown (wd hw 88 rfl) (wd hw 89 rfl) (notFace_of_selects (args := #[]) (mvT hZ (wd hw 91 rfl))) (wd hw 91 rfl) (wd hw 90 rfl) (wd hw 92 rfl) (wd hw 71 rfl) (by decide) e42 E_b41 (argsL := []) (rest := []) (rm_pg l Z a0 hw [] b41 t h42 n0 O0 E_b41 F_total_b41) (W := 0) (by decide) (by decide) (by decide) (by decide) (by rw [hml]; rfl) (lenOf pd_6 rfl) rfl (Nat.le_of_eq rfl) (hb hby at_127) ?_
        intro v47 T47 L47 h47 X47 e47 q47
        obtain ⟨rv, n47, k47⟩ := q47
        replace rv : v47 = some (.long (1 : Int64)) := hpg ▸ rv
        subst rv
        have e47 := e47.trans k47
        have N47 := Fr.app N42 n47
        show Run p e below _ (T47.setTop (mkF m 130 #[.val (.long p0), .second, .val (.int p1), .val (.int p2), .val (.long t), .second, .val (.ref r), .val (.ref b41), .val (.long (1 : Int64)), .second, .unset, .unset, .unset, .unset] [(.long (1 : Int64))]))
        refine go (fun _ => XS.lload X47.here hx rfl (hb hby at_130) rfl) ?_
        show Run p e below _ (T47.setTop (mkF m 132 #[.val (.long p0), .second, .val (.int p1), .val (.int p2), .val (.long t), .second, .val (.ref r), .val (.ref b41), .val (.long (1 : Int64)), .second, .unset, .unset, .unset, .unset] [(.long (1 : Int64)), (.long (1 : Int64))]))
        refine go (fun _ => XS.lcmp X47.here hx rfl (hb hby at_132) rfl) ?_
        show Run p e below _ (T47.setTop (mkF m 133 #[.val (.long p0), .second, .val (.int p1), .val (.int p2), .val (.long t), .second, .val (.ref r), .val (.ref b41), .val (.long (1 : Int64)), .second, .unset, .unset, .unset, .unset] [(.int (lcmpW (1 : Int64) (1 : Int64)))]))
        have hq := (lw_eq (1 : Int64) (1 : Int64)).mpr rfl
        refine go (fun _ => XS.ifNo X47.here hx rfl (hb hby at_133) rfl ((if0 _ _).trans (teq hq).2)) ?_
        show Run p e below _ (T47.setTop (mkF m 136 #[.val (.long p0), .second, .val (.int p1), .val (.int p2), .val (.long t), .second, .val (.ref r), .val (.ref b41), .val (.long (1 : Int64)), .second, .unset, .unset, .unset, .unset] []))
        refine go (fun _ => XS.iconst X47.here hx rfl (hb hby at_136)) ?_
        show Run p e below _ (T47.setTop (mkF m 137 #[.val (.long p0), .second, .val (.int p1), .val (.int p2), .val (.long t), .second, .val (.ref r), .val (.ref b41), .val (.long (1 : Int64)), .second, .unset, .unset, .unset, .unset] [(.int (1 : Int32))]))
        refine go (fun _ => XS.goto X47.here hx rfl (pc0 := 137) (pc' := 141) rfl (hb hby at_137) (by decide) (by decide)) ?_
        show Run p e below _ (T47.setTop (mkF m 141 #[.val (.long p0), .second, .val (.int p1), .val (.int p2), .val (.long t), .second, .val (.ref r), .val (.ref b41), .val (.long (1 : Int64)), .second, .unset, .unset, .unset, .unset] [(.int (1 : Int32))]))
        exact endN X47 hx hlk (t := .boolean) hret (by simp) (hb hby at_141) (⟨rfl, N47⟩) (by decide) (by decide)
    refine go (fun _ => XS.iloadN X39.here hx rfl (hb hby at_28) rfl) ?_
    show Run p e below _ (T39.setTop (mkF m 29 #[.val (.long p0), .second, .val (.int p1), .val (.int p2), .val (.long t), .second, .val (.ref b38), .unset, .unset, .unset, .unset, .unset, .unset, .unset] [(.int p2)]))
    refine go (fun _ => XS.iconst X39.here hx rfl (hb hby at_29)) ?_
    show Run p e below _ (T39.setTop (mkF m 30 #[.val (.long p0), .second, .val (.int p1), .val (.int p2), .val (.long t), .second, .val (.ref b38), .unset, .unset, .unset, .unset, .unset, .unset, .unset] [(.int (1 : Int32)), (.int p2)]))
    refine go (fun _ => XS.iand X39.here hx rfl (hb hby at_30) rfl) ?_
    show Run p e below _ (T39.setTop (mkF m 31 #[.val (.long p0), .second, .val (.int p1), .val (.int p2), .val (.long t), .second, .val (.ref b38), .unset, .unset, .unset, .unset, .unset, .unset, .unset] [(.int (p2 &&& (1 : Int32)))]))
    by_cases c48 : (p2 &&& (1 : Int32)) = 0
    · skip
      refine go (fun _ => XS.ifYes X39.here hx rfl (pc0 := 31) (pc' := 46) rfl (hb hby at_31) rfl ((if0 _ _).trans (teq c48).1) (by decide) (by decide)) ?_
      show Run p e below _ (T39.setTop (mkF m 46 #[.val (.long p0), .second, .val (.int p1), .val (.int p2), .val (.long t), .second, .val (.ref b38), .unset, .unset, .unset, .unset, .unset, .unset, .unset] []))
      refine go (fun _ => XS.iloadN X39.here hx rfl (hb hby at_46) rfl) ?_
      show Run p e below _ (T39.setTop (mkF m 47 #[.val (.long p0), .second, .val (.int p1), .val (.int p2), .val (.long t), .second, .val (.ref b38), .unset, .unset, .unset, .unset, .unset, .unset, .unset] [(.int p2)]))
      refine go (fun _ => XS.iconst X39.here hx rfl (hb hby at_47)) ?_
      show Run p e below _ (T39.setTop (mkF m 48 #[.val (.long p0), .second, .val (.int p1), .val (.int p2), .val (.long t), .second, .val (.ref b38), .unset, .unset, .unset, .unset, .unset, .unset, .unset] [(.int (2 : Int32)), (.int p2)]))
      refine go (fun _ => XS.iand X39.here hx rfl (hb hby at_48) rfl) ?_
      show Run p e below _ (T39.setTop (mkF m 49 #[.val (.long p0), .second, .val (.int p1), .val (.int p2), .val (.long t), .second, .val (.ref b38), .unset, .unset, .unset, .unset, .unset, .unset, .unset] [(.int (p2 &&& (2 : Int32)))]))
      by_cases c49 : (p2 &&& (2 : Int32)) = 0
      · skip
        refine go (fun _ => XS.ifYes X39.here hx rfl (pc0 := 49) (pc' := 64) rfl (hb hby at_49) rfl ((if0 _ _).trans (teq c49).1) (by decide) (by decide)) ?_
        show Run p e below _ (T39.setTop (mkF m 64 #[.val (.long p0), .second, .val (.int p1), .val (.int p2), .val (.long t), .second, .val (.ref b38), .unset, .unset, .unset, .unset, .unset, .unset, .unset] []))
        exact J64 _ _ _ (smono X39 (by decide) (by decide)) e39 N39 b38 O0 
      · skip
        refine go (fun _ => XS.ifNo X39.here hx rfl (hb hby at_49) rfl ((if0 _ _).trans (feq c49).1)) ?_
        show Run p e below _ (T39.setTop (mkF m 52 #[.val (.long p0), .second, .val (.int p1), .val (.int p2), .val (.long t), .second, .val (.ref b38), .unset, .unset, .unset, .unset, .unset, .unset, .unset] []))
        refine go (fun _ => XS.aload X39.here hx rfl (hb hby at_52) rfl rfl) ?_
        show Run p e below _ (T39.setTop (mkF m 54 #[.val (.long p0), .second, .val (.int p1), .val (.int p2), .val (.long t), .second, .val (.ref b38), .unset, .unset, .unset, .unset, .unset, .unset, .unset] [(.ref b38)]))
        refine go (fun _ => XS.iloadN X39.here hx rfl (hb hby at_54) rfl) ?_
        show Run p e below _ (T39.setTop (mkF m 55 #[.val (.long p0), .second, .val (.int p1), .val (.int p2), .val (.long t), .second, .val (.ref b38), .unset, .unset, .unset, .unset, .unset, .unset, .unset] [(.int p2), (.ref b38)]))
        refine callSt X39 hx hZ hown (wd hw 27 rfl) (wd hw 28 rfl) (wd hw 29 rfl) (wd hw 30 rfl) (by decide) e39 (argsL := [(.int p2)]) (rest := [(.ref b38)]) (rm_vo l Z a0 hw [] p2 wc cl val h39 n0 O0 S_high S_cache Bx) (W := 1) (by decide) (by decide) (by decide) (by decide) (by rw [hml]; rfl) (lenOf pd_7 rfl) rfl (Nat.le_of_eq rfl) (hb hby at_55) ?_
        intro v50 T50 L50 h50 X50 e50 q50
        obtain ⟨b50, rfl, n50, K50, E_b50⟩ := q50
        have O0 := O0.keep K50 all0
        have E_b38 := E_b38.keep K50
        have F_modCount_b38 := F_modCount_b38.keep K50 nin0
        have F_elementData_b38 := F_elementData_b38.keep K50 nin0
        have F_size_b38 := F_size_b38.keep K50 nin0
        have N50 := Fr.app N39 n50
        show Run p e below _ (T50.setTop (mkF m 58 #[.val (.long p0), .second, .val (.int p1), .val (.int p2), .val (.long t), .second, .val (.ref b38), .unset, .unset, .unset, .unset, .unset, .unset, .unset] [(.ref b50), (.ref b38)]))
        have ne_b50_b38 : b50 ≠ b38 := ne_exa E_b50 E_b38 (by decide)
        refine callIf X50 hx hZ hown (wd hw 34 rfl) (wd hw 35 rfl) (wd hw 36 rfl) rfl (wd hw 37 rfl) (wd hw 38 rfl) (wd hw 39 rfl) (wd hw 40 rfl) (wd hw 41 rfl) (wd hw 42 rfl) (wd hw 3 rfl) (by decide) e50 E_b38 (argsL := [(.ref b50)]) (rest := []) (rm_add0_0 l Z a0 hw [] b38 b50 wD kD (0 : Int32) h50 n0 O0 S_DEFAULTCAPACITY_EMPTY_ELEMENTDATA VD E_b38 F_modCount_b38 F_elementData_b38 F_size_b38 g_b38 E_b50 ne_b50_b38) (W := 0) (by decide) (by decide) (by decide) (by decide) (by rw [hml]; rfl) (lenOf pd_10 rfl) rfl (Nat.le_of_eq rfl) (hb hby at_58) ?_
        intro v62 T62 L62 h62 X62 e62 q62
        have lt63_b38 := E_b38.lt
        have lt63_b50 := E_b50.lt
        obtain ⟨b62, k62, rfl, n62, K62, sb62, g_b62, E_b38, F_modCount_b38, F_elementData_b38, F_size_b38, O62, V_b62⟩ := q62
        have ne_b38_b62 : b38 ≠ b62 := Nat.ne_of_lt (Nat.lt_of_lt_of_le lt63_b38 sb62)
        have ne_b50_b62 : b50 ≠ b62 := Nat.ne_of_lt (Nat.lt_of_lt_of_le lt63_b50 sb62)
        have O0 := O0.keep K62 (allS g_b38 all0)
        have E_b50 := E_b50.keep K62
        have N62 := Fr.app N50 n62
        show Run p e below _ (T62.setTop (mkF m 63 #[.val (.long p0), .second, .val (.int p1), .val (.int p2), .val (.long t), .second, .val (.ref b38), .unset, .unset, .unset, .unset, .unset, .unset, .unset] [(.int (1 : Int32))]))
        refine go (fun _ => XS.pop X62.here hx rfl (hb hby at_63) rfl rfl) ?_
        show Run p e below _ (T62.setTop (mkF m 64 #[.val (.long p0), .second, .val (.int p1), .val (.int p2), .val (.long t), .second, .val (.ref b38), .unset, .unset, .unset, .unset, .unset, .unset, .unset] []))
        exact J64 _ _ _ (smono X62 (by decide) (by decide)) e62 N62 b38 O0 
    · skip
      refine go (fun _ => XS.ifNo X39.here hx rfl (hb hby at_31) rfl ((if0 _ _).trans (feq c48).1)) ?_
      show Run p e below _ (T39.setTop (mkF m 34 #[.val (.long p0), .second, .val (.int p1), .val (.int p2), .val (.long t), .second, .val (.ref b38), .unset, .unset, .unset, .unset, .unset, .unset, .unset] []))
      refine go (fun _ => XS.aload X39.here hx rfl (hb hby at_34) rfl rfl) ?_
      show Run p e below _ (T39.setTop (mkF m 36 #[.val (.long p0), .second, .val (.int p1), .val (.int p2), .val (.long t), .second, .val (.ref b38), .unset, .unset, .unset, .unset, .unset, .unset, .unset] [(.ref b38)]))
      refine go (fun _ => XS.iloadN X39.here hx rfl (hb hby at_36) rfl) ?_
      show Run p e below _ (T39.setTop (mkF m 37 #[.val (.long p0), .second, .val (.int p1), .val (.int p2), .val (.long t), .second, .val (.ref b38), .unset, .unset, .unset, .unset, .unset, .unset, .unset] [(.int p1), (.ref b38)]))
      refine callSt X39 hx hZ hown (wd hw 27 rfl) (wd hw 28 rfl) (wd hw 29 rfl) (wd hw 30 rfl) (by decide) e39 (argsL := [(.int p1)]) (rest := [(.ref b38)]) (rm_vo l Z a0 hw [] p1 wc cl val h39 n0 O0 S_high S_cache Bx) (W := 1) (by decide) (by decide) (by decide) (by decide) (by rw [hml]; rfl) (lenOf pd_7 rfl) rfl (Nat.le_of_eq rfl) (hb hby at_37) ?_
      intro v64 T64 L64 h64 X64 e64 q64
      obtain ⟨b64, rfl, n64, K64, E_b64⟩ := q64
      have O0 := O0.keep K64 all0
      have E_b38 := E_b38.keep K64
      have F_modCount_b38 := F_modCount_b38.keep K64 nin0
      have F_elementData_b38 := F_elementData_b38.keep K64 nin0
      have F_size_b38 := F_size_b38.keep K64 nin0
      have N64 := Fr.app N39 n64
      show Run p e below _ (T64.setTop (mkF m 40 #[.val (.long p0), .second, .val (.int p1), .val (.int p2), .val (.long t), .second, .val (.ref b38), .unset, .unset, .unset, .unset, .unset, .unset, .unset] [(.ref b64), (.ref b38)]))
      have ne_b64_b38 : b64 ≠ b38 := ne_exa E_b64 E_b38 (by decide)
      refine callIf X64 hx hZ hown (wd hw 34 rfl) (wd hw 35 rfl) (wd hw 36 rfl) rfl (wd hw 37 rfl) (wd hw 38 rfl) (wd hw 39 rfl) (wd hw 40 rfl) (wd hw 41 rfl) (wd hw 42 rfl) (wd hw 3 rfl) (by decide) e64 E_b38 (argsL := [(.ref b64)]) (rest := []) (rm_add0_0 l Z a0 hw [] b38 b64 wD kD (0 : Int32) h64 n0 O0 S_DEFAULTCAPACITY_EMPTY_ELEMENTDATA VD E_b38 F_modCount_b38 F_elementData_b38 F_size_b38 g_b38 E_b64 ne_b64_b38) (W := 0) (by decide) (by decide) (by decide) (by decide) (by rw [hml]; rfl) (lenOf pd_10 rfl) rfl (Nat.le_of_eq rfl) (hb hby at_40) ?_
      intro v65 T65 L65 h65 X65 e65 q65
      have lt66_b38 := E_b38.lt
      have lt66_b64 := E_b64.lt
      obtain ⟨b65, k65, rfl, n65, K65, sb65, g_b65, E_b38, F_modCount_b38, F_elementData_b38, F_size_b38, O65, V_b65⟩ := q65
      have ne_b38_b65 : b38 ≠ b65 := Nat.ne_of_lt (Nat.lt_of_lt_of_le lt66_b38 sb65)
      have ne_b64_b65 : b64 ≠ b65 := Nat.ne_of_lt (Nat.lt_of_lt_of_le lt66_b64 sb65)
      have O0 := O0.keep K65 (allS g_b38 all0)
      have E_b64 := E_b64.keep K65
      have N65 := Fr.app N64 n65
      show Run p e below _ (T65.setTop (mkF m 45 #[.val (.long p0), .second, .val (.int p1), .val (.int p2), .val (.long t), .second, .val (.ref b38), .unset, .unset, .unset, .unset, .unset, .unset, .unset] [(.int (1 : Int32))]))
      refine go (fun _ => XS.pop X65.here hx rfl (hb hby at_45) rfl rfl) ?_
      show Run p e below _ (T65.setTop (mkF m 46 #[.val (.long p0), .second, .val (.int p1), .val (.int p2), .val (.long t), .second, .val (.ref b38), .unset, .unset, .unset, .unset, .unset, .unset, .unset] []))
      refine go (fun _ => XS.iloadN X65.here hx rfl (hb hby at_46) rfl) ?_
      show Run p e below _ (T65.setTop (mkF m 47 #[.val (.long p0), .second, .val (.int p1), .val (.int p2), .val (.long t), .second, .val (.ref b38), .unset, .unset, .unset, .unset, .unset, .unset, .unset] [(.int p2)]))
      refine go (fun _ => XS.iconst X65.here hx rfl (hb hby at_47)) ?_
      show Run p e below _ (T65.setTop (mkF m 48 #[.val (.long p0), .second, .val (.int p1), .val (.int p2), .val (.long t), .second, .val (.ref b38), .unset, .unset, .unset, .unset, .unset, .unset, .unset] [(.int (2 : Int32)), (.int p2)]))
      refine go (fun _ => XS.iand X65.here hx rfl (hb hby at_48) rfl) ?_
      show Run p e below _ (T65.setTop (mkF m 49 #[.val (.long p0), .second, .val (.int p1), .val (.int p2), .val (.long t), .second, .val (.ref b38), .unset, .unset, .unset, .unset, .unset, .unset, .unset] [(.int (p2 &&& (2 : Int32)))]))
      by_cases c67 : (p2 &&& (2 : Int32)) = 0
      · skip
        refine go (fun _ => XS.ifYes X65.here hx rfl (pc0 := 49) (pc' := 64) rfl (hb hby at_49) rfl ((if0 _ _).trans (teq c67).1) (by decide) (by decide)) ?_
        show Run p e below _ (T65.setTop (mkF m 64 #[.val (.long p0), .second, .val (.int p1), .val (.int p2), .val (.long t), .second, .val (.ref b38), .unset, .unset, .unset, .unset, .unset, .unset, .unset] []))
        exact J64 _ _ _ (smono X65 (by decide) (by decide)) e65 N65 b38 O0 
      · skip
        refine go (fun _ => XS.ifNo X65.here hx rfl (hb hby at_49) rfl ((if0 _ _).trans (feq c67).1)) ?_
        show Run p e below _ (T65.setTop (mkF m 52 #[.val (.long p0), .second, .val (.int p1), .val (.int p2), .val (.long t), .second, .val (.ref b38), .unset, .unset, .unset, .unset, .unset, .unset, .unset] []))
        refine go (fun _ => XS.aload X65.here hx rfl (hb hby at_52) rfl rfl) ?_
        show Run p e below _ (T65.setTop (mkF m 54 #[.val (.long p0), .second, .val (.int p1), .val (.int p2), .val (.long t), .second, .val (.ref b38), .unset, .unset, .unset, .unset, .unset, .unset, .unset] [(.ref b38)]))
        refine go (fun _ => XS.iloadN X65.here hx rfl (hb hby at_54) rfl) ?_
        show Run p e below _ (T65.setTop (mkF m 55 #[.val (.long p0), .second, .val (.int p1), .val (.int p2), .val (.long t), .second, .val (.ref b38), .unset, .unset, .unset, .unset, .unset, .unset, .unset] [(.int p2), (.ref b38)]))
        refine callSt X65 hx hZ hown (wd hw 27 rfl) (wd hw 28 rfl) (wd hw 29 rfl) (wd hw 30 rfl) (by decide) e65 (argsL := [(.int p2)]) (rest := [(.ref b38)]) (rm_vo l Z a0 hw [] p2 wc cl val h65 n0 O0 S_high S_cache Bx) (W := 1) (by decide) (by decide) (by decide) (by decide) (by rw [hml]; rfl) (lenOf pd_7 rfl) rfl (Nat.le_of_eq rfl) (hb hby at_55) ?_
        intro v68 T68 L68 h68 X68 e68 q68
        obtain ⟨b68, rfl, n68, K68, E_b68⟩ := q68
        have O0 := O0.keep K68 all0
        have E_b38 := E_b38.keep K68
        have E_b64 := E_b64.keep K68
        have V_b65 := V_b65.keep K68 nin0
        have F_modCount_b38 := F_modCount_b38.keep K68 nin0
        have F_elementData_b38 := F_elementData_b38.keep K68 nin0
        have F_size_b38 := F_size_b38.keep K68 nin0
        have N68 := Fr.app N65 n68
        show Run p e below _ (T68.setTop (mkF m 58 #[.val (.long p0), .second, .val (.int p1), .val (.int p2), .val (.long t), .second, .val (.ref b38), .unset, .unset, .unset, .unset, .unset, .unset, .unset] [(.ref b68), (.ref b38)]))
        have ne_b68_b38 : b68 ≠ b38 := ne_exa E_b68 E_b38 (by decide)
        have ne_b68_b65 : b68 ≠ b65 := Exa.neArv E_b68 V_b65 (wd hw 98 rfl)
        refine callIf X68 hx hZ hown (wd hw 34 rfl) (wd hw 35 rfl) (wd hw 36 rfl) rfl (wd hw 37 rfl) (wd hw 38 rfl) (wd hw 39 rfl) (wd hw 40 rfl) (wd hw 41 rfl) (wd hw 42 rfl) (wd hw 3 rfl) (by decide) e68 E_b38 (argsL := [(.ref b68)]) (rest := []) (rm_add1_1 l Z a0 hw [] b38 b68 b65 k65 ((0 : Int32) + (1 : Int32)) (.ref b64) h68 n0 O0 E_b38 F_modCount_b38 F_elementData_b38 F_size_b38 V_b65 O65 g_b38 g_b65 (Ne.symm ne_b38_b65) E_b68 ne_b68_b38 ne_b68_b65) (W := 0) (by decide) (by decide) (by decide) (by decide) (by rw [hml]; rfl) (lenOf pd_10 rfl) rfl (Nat.le_of_eq rfl) (hb hby at_58) ?_
        intro v77 T77 L77 h77 X77 e77 q77
        obtain ⟨rfl, n77, K77, E_b38, F_modCount_b38, F_elementData_b38, F_size_b38, V_b65⟩ := q77
        have O0 := O0.keep K77 (allS g_b38 (allS g_b65 all0))
        have E_b64 := E_b64.keep K77
        have E_b68 := E_b68.keep K77
        have N77 := Fr.app N68 n77
        show Run p e below _ (T77.setTop (mkF m 63 #[.val (.long p0), .second, .val (.int p1), .val (.int p2), .val (.long t), .second, .val (.ref b38), .unset, .unset, .unset, .unset, .unset, .unset, .unset] [(.int (1 : Int32))]))
        refine go (fun _ => XS.pop X77.here hx rfl (hb hby at_63) rfl rfl) ?_
        show Run p e below _ (T77.setTop (mkF m 64 #[.val (.long p0), .second, .val (.int p1), .val (.int p2), .val (.long t), .second, .val (.ref b38), .unset, .unset, .unset, .unset, .unset, .unset, .unset] []))
        exact J64 _ _ _ (smono X77 (by decide) (by decide)) e77 N77 b38 O0 
  by_cases c78 : 0 < (lcmpW p0 (9223372036854775708 : Int64))
  · skip
    refine go (fun _ => XS.ifNo X0.here hx rfl (hb hby at_5) rfl ((if0 _ _).trans (tlt c78).2.2.2)) ?_
    show Run p e below _ (T0.setTop (mkF m 8 #[.val (.long p0), .second, .val (.int p1), .val (.int p2), .unset, .unset, .unset, .unset, .unset, .unset, .unset, .unset, .unset, .unset] []))
    refine go (fun _ => XS.lloadN X0.here hx rfl (hb hby at_8) rfl) ?_
    show Run p e below _ (T0.setTop (mkF m 9 #[.val (.long p0), .second, .val (.int p1), .val (.int p2), .unset, .unset, .unset, .unset, .unset, .unset, .unset, .unset, .unset, .unset] [(.long p0)]))
    refine go (fun _ => X0.ldc2J hx hown (mvT hZ (wd hw 112 rfl)) rfl (hb hby at_9)) ?_
    show Run p e below _ (T0.setTop (mkF m 12 #[.val (.long p0), .second, .val (.int p1), .val (.int p2), .unset, .unset, .unset, .unset, .unset, .unset, .unset, .unset, .unset, .unset] [(.long (99 : Int64)), (.long p0)]))
    refine go (fun _ => XS.lsub X0.here hx rfl (hb hby at_12) rfl) ?_
    show Run p e below _ (T0.setTop (mkF m 13 #[.val (.long p0), .second, .val (.int p1), .val (.int p2), .unset, .unset, .unset, .unset, .unset, .unset, .unset, .unset, .unset, .unset] [(.long (p0 - (99 : Int64)))]))
    refine go (fun _ => XS.goto X0.here hx rfl (pc0 := 13) (pc' := 17) rfl (hb hby at_13) (by decide) (by decide)) ?_
    show Run p e below _ (T0.setTop (mkF m 17 #[.val (.long p0), .second, .val (.int p1), .val (.int p2), .unset, .unset, .unset, .unset, .unset, .unset, .unset, .unset, .unset, .unset] [(.long (p0 - (99 : Int64)))]))
    have kM : (9223372036854775708 : Int64).toInt = 9223372036854775708 := by decide
    rw [lw_gt, Int64.lt_iff_toInt_lt, kM] at c78
    have kk : (p0 - (99 : Int64)).toInt ≤ 9223372036854775708 := by
      have a := c_lsub p0 99; have r1 := rng64 p0; have r2 := rng64 (p0 - 99)
      have k9 : (99 : Int64).toInt = 99 := by decide
      omega
    exact J17 _ _ X0 e0 N0 (p0 - (99 : Int64))  kk
  · skip
    refine go (fun _ => XS.ifYes X0.here hx rfl (pc0 := 5) (pc' := 16) rfl (hb hby at_5) rfl ((if0 _ _).trans (flt c78).2.2.2) (by decide) (by decide)) ?_
    show Run p e below _ (T0.setTop (mkF m 16 #[.val (.long p0), .second, .val (.int p1), .val (.int p2), .unset, .unset, .unset, .unset, .unset, .unset, .unset, .unset, .unset, .unset] []))
    refine go (fun _ => XS.lloadN X0.here hx rfl (hb hby at_16) rfl) ?_
    show Run p e below _ (T0.setTop (mkF m 17 #[.val (.long p0), .second, .val (.int p1), .val (.int p2), .unset, .unset, .unset, .unset, .unset, .unset, .unset, .unset, .unset, .unset] [(.long p0)]))
    have kM : (9223372036854775708 : Int64).toInt = 9223372036854775708 := by decide
    rw [lw_gt, Int64.lt_iff_toInt_lt, kM] at c78
    have kk : p0.toInt ≤ 9223372036854775708 := by omega
    exact J17 _ _ X0 e0 N0 p0  kk
set_option maxRecDepth 65536 in
set_option maxHeartbeats 40000000 in
theorem comes_1 {Post : Tables → Env → Array Value → State → Outcome → State → Prop} (hpost : ∀ tb e args s v u, (limb_1_1.after args s (.returned v) u = true ∧ limb_1_2.after args s (.returned v) u = true ∧ True) → FrameEnd s (.returned v) u (Jvm.fieldLocs frame_1_writes args s ++ Jvm.arrayLocs frame_1_arrays args s ++ Jvm.staticLocs frame_1_statics s) 24 128 → Post tb e args s (.returned v) u) :
    ArmFor flags0 classFile x code maxLocals ret World_1 tables_1 room_1 Calls_1 rest_1 Pre_1 Post := by
  intro l hfl _ _ p e ha hc hk s m args below hf hA hF happ hP
  obtain ⟨hcalls, hrest, hpre⟩ := hP
  obtain ⟨-, -, -, hnamed, -, -, -, hat⟩ := (Spec.applies_iff hf).mp happ
  obtain ⟨hg, hn⟩ := and_e (Cond.before_iff.mp (show (Jvm.Cond.and given_1 narrow_1).before args s = true from hpre))
  obtain ⟨h1, hg⟩ := and_e hg
  obtain ⟨g0, hg⟩ := and_e hg
  obtain ⟨g1, hg⟩ := and_e hg
  have g2 := hg
  obtain ⟨w0, w1, w2, rfl⟩ : ∃ w0 w1 w2 : Value, args = #[w0, w1, w2] := by
    have hs : args.size = 3 := by simpa [Cond.value, given_1] using h1
    obtain ⟨L⟩ := args
    match L, hs with
    | [w0, w1, w2], _ => exact ⟨w0, w1, w2, rfl⟩
  have hw := fun d (hd : d ∈ tables_1) => atoms_spec (ws := Jvm.Cond.code x code maxLocals ret :: tables_1) hat d (List.mem_cons_of_mem _ hd)
  obtain ⟨hsets, hown0⟩ := atoms_of _ (rest_1_c_eq ▸ (show rest_1_c.before _ s = true from hrest))
  have hr0 := Cond.before_iff.mp hown0
  have hfit : Fit s := fun {y c} hc i hi => by
    obtain ⟨ha, rfl⟩ := Array.getElem?_eq_some_iff.mp hc
    have q := List.all_eq_true.mp ((Array.all_eq_true_iff_forall_mem.mp hF) _ (Array.getElem_mem ha)) i (List.mem_range.mpr hi)
    simpa [Array.getElem?_eq_getElem hi] using q
  obtain ⟨i0, ev0⟩ := isL_v g0
  obtain rfl : w0 = (.long i0) := Option.some.inj ev0
  obtain ⟨i1, ev1⟩ := is_v g1
  obtain rfl : w1 = (.int i1) := Option.some.inj ev1
  obtain ⟨i2, ev2⟩ := is_v g2
  obtain rfl : w2 = (.int i2) := Option.some.inj ev2
  obtain ⟨wD, ed⟩ := arr_v (Cond.before_iff.mp (hsets _ (List.mem_of_getElem? (i := 6) rfl)))
  have S_DEFAULTCAPACITY_EMPTY_ELEMENTDATA := Sta.start ed (Or.inr ⟨(wd hw 3 rfl), (hsets _ (List.mem_of_getElem? (i := 2) rfl))⟩)
  obtain ⟨clD, AD⟩ := Arr.start ed (Cond.before_iff.mp (hsets _ (List.mem_of_getElem? (i := 6) rfl)))
  have elD := eqv_i (Term.int_eval (0)) (Cond.before_iff.mp (hsets _ (List.mem_of_getElem? (i := 8) rfl)))
  obtain ⟨lqD, leD⟩ := own_len ed AD elD
  have VD : Arv s s.heap wD clD.cls (.object "java/lang/Object") (0 : Int32) [] .null := Arv.start hfit AD lqD leD (by decide) rfl trivial
  have eh := eqv_i (Term.int_eval (127)) (Cond.before_iff.mp (hsets _ (List.mem_of_getElem? (i := 12) rfl)))
  have S_high := Sta.start eh (Or.inl (hsets _ (List.mem_of_getElem? (i := 10) rfl)))
  obtain ⟨wc, ec⟩ := arr_v (Cond.before_iff.mp (hsets _ (List.mem_of_getElem? (i := 13) rfl)))
  have S_cache := Sta.start ec (Or.inr ⟨(wd hw 32 rfl), (hsets _ (List.mem_of_getElem? (i := 11) rfl))⟩)
  obtain ⟨cl, Ac⟩ := Arr.start ec (Cond.before_iff.mp (hsets _ (List.mem_of_getElem? (i := 13) rfl)))
  have el := eqv_i (Term.int_eval (256)) (Cond.before_iff.mp (hsets _ (List.mem_of_getElem? (i := 15) rfl)))
  obtain ⟨lq, le⟩ := own_len ec Ac el
  have Bx : Bxs s wc cl "java/lang/Integer" "I" (256 : Int32) (fun j => .int (j - 128)) := Bxs.start (fun _ => ec) Ac lq le (by decide) (Cond.before_iff.mp (hsets _ (List.mem_of_getElem? (i := 16) rfl))) (fun X j nn hq => eqv_i (own_sub (idx_at nn) (Term.int_eval (128))) hq)
  obtain ⟨n, o, h1, h2, h3, _, L, rfl, ⟨rfl, N⟩, hq⟩ := rmlaw l s _ hw tables_1 i0 i1 i2 wD clD.cls wc cl _ s.heap s.heap.size (Old.start s) S_DEFAULTCAPACITY_EMPTY_ELEMENTDATA VD S_high S_cache Bx p e ha hc hk s m _ below hf ((Spec.applies_iff_loose hf).mp happ).1 ⟨rfl, State.Warmed39.refl s, rfl⟩ trivial
  refine ⟨n, _, h1, h2, h3, hpost _ _ _ _ _ _ ⟨Cond.after_iff.mpr rfl, Cond.after_iff.mpr (eq_i res_at (Term.int_eval (1)) rfl), trivial⟩ ⟨hq.1, hq.2.1, (hq.2.2.sift fun y hy => Or.inr (N y hy)).mono (by decide) (by decide)⟩⟩
theorem main_1_1 : Claimed_1_1 := comes_1 fun _ _ _ _ _ _ h hF => ⟨h.1, hF⟩
theorem main_1_2 : Claimed_1_2 := comes_1 fun _ _ _ _ _ _ h hF => ⟨h.2.1, hF⟩
end Jvm.Pilot.@@N@@
namespace Jvm.Pilot.@@N@@
open Jvm Jvm.ClassFile Sem Op Lib Jvm.Free Jvm.Stand Jvm.Pilot.@@N@@.Jvm.D
/-! MADE BY PROGRAM (witnessworld.py) out of the Statement's table words and the real class files: 27 classes; the members and pool entries that the words name. The judged class is class 1, her method 1. -/
namespace start1
open Jvm.ClassFile
def u (s : String) : CpInfo := .utf8 (stringToUtf16 s)
/-- a pool by its gaps: so many unusable entries, then the entry; so many at the end -/
def gap : Nat → List CpInfo → List CpInfo
  | 0, r => r
  | n + 1, r => .unusable :: gap n r
def poolList (es : List (Nat × CpInfo)) (last : Nat) : List CpInfo := es.foldr (fun e r => gap e.1 (e.2 :: r)) (gap last [])
def pool (es : List (Nat × CpInfo)) (last : Nat) : Array CpInfo := ⟨poolList es last⟩
def fileOf (pool : Array CpInfo) (this : Nat) (attrs : Array Attribute := #[]) (ms : Array MethodInfo := #[]) (fl : Nat := 33) (sup : Nat := 0) (ifs : Array Nat := #[]) (fds : Array FieldInfo := #[]) : ClassFile where
  minorVersion := 0
  majorVersion := 65
  constantPool := pool
  accessFlags := fl
  thisClass := this
  superClass := sup
  interfaces := ifs
  fields := fds
  methods := ms
  attributes := attrs
def plain (name : String) (sup : Option ClassId) : Class where
  name := name
  kind := .ordinary
  loader := none
  accessFlags := 33
  super := sup
  interfaces := #[]
  cf := none
  fields := #[]
  methods := #[]
  instanceTypes := #[]
  staticTypes := #[]
  resolved := #[]
  callSites := []
  init := .initialized
  statics := none
  mirror := none

def pool0 : Array CpInfo := pool [(5, u "<init>"), (0, u "()V"), (1, .class_ 10), (1, u "java/lang/Object")] 113

def k0c0 : Code := { maxStack := 0, maxLocals := 1, code := object_method_1_code, exceptionTable := #[], attributes := #[] }
def k0m0 : Method := { name := "<init>", desc := "()V", sig := { parameters := [], returnType := none }, accessFlags := 1, code := some k0c0 }
/-- java/lang/Object -/
def k0 : Class := { plain "java/lang/Object" none with
  accessFlags := 33
  interfaces := #[]
  cf := some (fileOf pool0 8 #[] #[{ accessFlags := 1, nameIndex := 5, descriptorIndex := 6, attributes := #[] }] 33 0 #[] #[])
  fields := #[]
  methods := #[k0m0]
  instanceTypes := #[]
  staticTypes := #[]
  resolved := Array.replicate 124 none
  statics := none }

def pool1 : Array CpInfo := pool [(2, .class_ 4), (0, .nameAndType 5 6), (0, u "java/lang/Object"), (0, u "<init>"), (0, u "()V"), (2, .long 9223372036854775708), (1, .long 99), (1, .class_ 14), (0, u "java/util/ArrayList"), (0, .methodref 13 3), (0, .methodref 17 18), (0, .class_ 19), (0, .nameAndType 20 21), (0, u "java/lang/Integer"), (0, u "valueOf"), (0, u "(I)Ljava/lang/Integer;"), (0, .interfaceMethodref 23 24), (0, .class_ 25), (0, .nameAndType 26 27), (0, u "java/util/List"), (0, u "add"), (0, u "(Ljava/lang/Object;)Z"), (0, .class_ 29), (0, u "com/example/gridsteward/gridsteward/Listing"), (0, .methodref 28 31), (0, .nameAndType 5 32), (0, u "(Ljava/util/List;IJ)V"), (0, .long 100), (1, .methodref 28 36), (0, .nameAndType 37 38), (0, u "pages"), (0, u "()J"), (0, .class_ 40), (0, u "com/example/gridsteward/gridsteward/ListingPagesPinLaw"), (2, u "law"), (0, u "(JII)Z")] 3

def k1m0 : Method := { name := "<init>", desc := "()V", sig := { parameters := [], returnType := none }, accessFlags := 1, code := none }
def k1c1 : Code := { maxStack := 6, maxLocals := 14, code := code, exceptionTable := #[], attributes := #[] }
def k1m1 : Method := { name := "law", desc := "(JII)Z", sig := { parameters := [.long, .int, .int], returnType := some .boolean }, accessFlags := 9, code := some k1c1 }
/-- com/example/gridsteward/gridsteward/ListingPagesPinLaw -/
def k1 : Class := { plain "com/example/gridsteward/gridsteward/ListingPagesPinLaw" (some 0) with
  accessFlags := 49
  interfaces := #[]
  cf := some (fileOf pool1 39 #[] #[{ accessFlags := 1, nameIndex := 5, descriptorIndex := 6, attributes := #[] }, { accessFlags := 9, nameIndex := 43, descriptorIndex := 44, attributes := #[] }] 49 2 #[] #[])
  fields := #[]
  methods := #[k1m0, k1m1]
  instanceTypes := #[]
  staticTypes := #[]
  resolved := Array.replicate 48 none
  statics := none }

def pool2 : Array CpInfo := pool [(8, .class_ 10), (1, u "java/lang/Iterable"), (24, .class_ 36), (0, u "java/lang/Object")] 25

/-- java/lang/Iterable -/
def k2 : Class := { plain "java/lang/Iterable" (some 0) with
  accessFlags := 1537
  interfaces := #[]
  cf := some (fileOf pool2 8 #[] #[] 1537 35 #[] #[])
  fields := #[]
  methods := #[]
  instanceTypes := #[]
  staticTypes := #[]
  resolved := Array.replicate 62 none
  statics := none }

def pool3 : Array CpInfo := pool [(10, .class_ 12), (1, u "java/util/Collection"), (47, .class_ 61), (0, u "java/lang/Object"), (0, .class_ 63), (0, u "java/lang/Iterable")] 51

/-- java/util/Collection -/
def k3 : Class := { plain "java/util/Collection" (some 0) with
  accessFlags := 1537
  interfaces := #[2]
  cf := some (fileOf pool3 10 #[] #[] 1537 60 #[62] #[])
  fields := #[]
  methods := #[]
  instanceTypes := #[]
  staticTypes := #[]
  resolved := Array.replicate 115 none
  statics := none }

def pool4 : Array CpInfo := pool [(1, .methodref 2 3), (0, .class_ 4), (0, .nameAndType 5 6), (0, u "java/lang/Object"), (0, u "<init>"), (0, u "()V"), (1, .class_ 10), (1, u "java/util/AbstractCollection"), (66, .class_ 78), (0, u "java/util/Collection")] 81

def k4c0 : Code := { maxStack := 1, maxLocals := 1, code := jdk_22_method_1_code, exceptionTable := #[], attributes := #[] }
def k4m0 : Method := { name := "<init>", desc := "()V", sig := { parameters := [], returnType := none }, accessFlags := 4, code := some k4c0 }
/-- java/util/AbstractCollection -/
def k4 : Class := { plain "java/util/AbstractCollection" (some 0) with
  accessFlags := 1057
  interfaces := #[3]
  cf := some (fileOf pool4 8 #[] #[{ accessFlags := 4, nameIndex := 5, descriptorIndex := 6, attributes := #[] }] 1057 2 #[77] #[])
  fields := #[]
  methods := #[k4m0]
  instanceTypes := #[]
  staticTypes := #[]
  resolved := Array.replicate 160 none
  statics := none }

def pool5 : Array CpInfo := pool [(8, .class_ 10), (1, u "java/util/SequencedCollection"), (15, .class_ 27), (0, u "java/lang/Object"), (0, .class_ 29), (0, u "java/util/Collection")] 27

/-- java/util/SequencedCollection -/
def k5 : Class := { plain "java/util/SequencedCollection" (some 0) with
  accessFlags := 1537
  interfaces := #[3]
  cf := some (fileOf pool5 8 #[] #[] 1537 26 #[28] #[])
  fields := #[]
  methods := #[]
  instanceTypes := #[]
  staticTypes := #[]
  resolved := Array.replicate 57 none
  statics := none }

def pool6 : Array CpInfo := pool [(8, .class_ 10), (1, u "java/util/List"), (49, u "add"), (3, u "(Ljava/lang/Object;)Z"), (38, .class_ 104), (0, u "java/lang/Object"), (15, .class_ 121), (0, u "java/util/SequencedCollection")] 129

def k6m0 : Method := { name := "add", desc := "(Ljava/lang/Object;)Z", sig := { parameters := [(.object "java/lang/Object")], returnType := some .boolean }, accessFlags := 1025, code := none }
/-- java/util/List -/
def k6 : Class := { plain "java/util/List" (some 0) with
  accessFlags := 1537
  interfaces := #[5]
  cf := some (fileOf pool6 8 #[] #[{ accessFlags := 1025, nameIndex := 60, descriptorIndex := 64, attributes := #[] }] 1537 103 #[120] #[])
  fields := #[]
  methods := #[k6m0]
  instanceTypes := #[]
  staticTypes := #[]
  resolved := Array.replicate 251 none
  statics := none }

def pool7 : Array CpInfo := pool [(1, .methodref 2 3), (0, .class_ 4), (0, .nameAndType 5 6), (0, u "java/util/AbstractCollection"), (0, u "<init>"), (0, u "()V"), (0, .fieldref 8 9), (0, .class_ 10), (0, .nameAndType 11 12), (0, u "java/util/AbstractList"), (0, u "modCount"), (0, u "I"), (64, .class_ 78), (0, u "java/util/AbstractList$Itr"), (3, .class_ 83), (0, u "java/util/AbstractList$ListItr"), (9, .class_ 94), (0, u "java/util/AbstractList$RandomAccessSubList"), (3, .class_ 99), (0, u "java/util/AbstractList$SubList"), (33, .class_ 134), (0, u "java/util/List"), (73, .class_ 209), (0, u "java/util/AbstractList$SubList$1"), (0, .class_ 211), (0, u "java/util/AbstractList$RandomAccessSpliterator")] 6

def k7c0 : Code := { maxStack := 2, maxLocals := 1, code := jdk_39_method_1_code, exceptionTable := #[], attributes := #[] }
def k7m0 : Method := { name := "<init>", desc := "()V", sig := { parameters := [], returnType := none }, accessFlags := 4, code := some k7c0 }
/-- java/util/AbstractList -/
def k7 : Class := { plain "java/util/AbstractList" (some 4) with
  accessFlags := 1057
  interfaces := #[6]
  cf := some (fileOf pool7 8 #[.nestMembers #[93, 98, 208, 210, 82, 77]] #[{ accessFlags := 4, nameIndex := 5, descriptorIndex := 6, attributes := #[] }] 1057 2 #[133] #[{ accessFlags := 132, nameIndex := 11, descriptorIndex := 12, attributes := #[] }])
  fields := #[{ name := "modCount", type := .int, accessFlags := 132, slot := 0, constantValue := 0 }]
  methods := #[k7m0]
  instanceTypes := #[.int]
  staticTypes := #[]
  resolved := Array.replicate 218 none
  statics := none }

def pool8 : Array CpInfo := pool [(1, .class_ 2), (0, u "java/util/RandomAccess"), (0, .class_ 4), (0, u "java/lang/Object")] 2

/-- java/util/RandomAccess -/
def k8 : Class := { plain "java/util/RandomAccess" (some 0) with
  accessFlags := 1537
  interfaces := #[]
  cf := some (fileOf pool8 1 #[] #[] 1537 3 #[] #[])
  fields := #[]
  methods := #[]
  instanceTypes := #[]
  staticTypes := #[]
  resolved := Array.replicate 7 none
  statics := none }

def pool9 : Array CpInfo := pool [(1, .class_ 2), (0, u "java/lang/Cloneable"), (0, .class_ 4), (0, u "java/lang/Object")] 2

/-- java/lang/Cloneable -/
def k9 : Class := { plain "java/lang/Cloneable" (some 0) with
  accessFlags := 1537
  interfaces := #[]
  cf := some (fileOf pool9 1 #[] #[] 1537 3 #[] #[])
  fields := #[]
  methods := #[]
  instanceTypes := #[]
  staticTypes := #[]
  resolved := Array.replicate 7 none
  statics := none }

def pool10 : Array CpInfo := pool [(1, .class_ 2), (0, u "java/io/Serializable"), (0, .class_ 4), (0, u "java/lang/Object")] 2

/-- java/io/Serializable -/
def k10 : Class := { plain "java/io/Serializable" (some 0) with
  accessFlags := 1537
  interfaces := #[]
  cf := some (fileOf pool10 1 #[] #[] 1537 3 #[] #[])
  fields := #[]
  methods := #[]
  instanceTypes := #[]
  staticTypes := #[]
  resolved := Array.replicate 7 none
  statics := none }

def pool11 : Array CpInfo := pool [(1, .methodref 2 3), (0, .class_ 4), (0, .nameAndType 5 6), (0, u "java/util/AbstractList"), (0, u "<init>"), (0, u "()V"), (0, .class_ 8), (0, u "java/lang/Object"), (0, .fieldref 10 11), (0, .class_ 12), (0, .nameAndType 13 14), (0, u "java/util/ArrayList"), (0, u "elementData"), (0, u "[Ljava/lang/Object;"), (2, u "EMPTY_ELEMENTDATA"), (21, .fieldref 10 40), (0, .nameAndType 41 14), (0, u "DEFAULTCAPACITY_EMPTY_ELEMENTDATA"), (5, u "()[Ljava/lang/Object;"), (0, .fieldref 10 49), (0, .nameAndType 50 51), (0, u "size"), (0, u "I"), (11, .fieldref 10 64), (0, .nameAndType 65 51), (0, u "modCount"), (3, .methodref 10 70), (0, .nameAndType 71 72), (0, u "grow"), (0, u "(I)[Ljava/lang/Object;"), (6, .methodref 80 81), (0, .class_ 82), (0, .nameAndType 83 84), (0, u "java/lang/Math"), (0, u "max"), (0, u "(II)I"), (11, u "(Ljava/lang/Object;)Z"), (32, .methodref 10 130), (0, .nameAndType 71 47), (0, .methodref 10 132), (0, .nameAndType 133 134), (0, u "add"), (0, u "(Ljava/lang/Object;[Ljava/lang/Object;I)V"), (13, .class_ 149), (0, u "java/util/List"), (112, .class_ 263), (0, u "java/util/ArrayList$ListItr"), (3, .class_ 268), (0, u "java/util/ArrayList$Itr"), (7, .class_ 277), (0, u "java/util/ArrayList$SubList"), (12, .class_ 291), (0, u "java/util/ArrayList$ArrayListSpliterator"), (37, .class_ 330), (0, u "java/util/RandomAccess"), (0, .class_ 332), (0, u "java/lang/Cloneable"), (0, .class_ 334), (0, u "java/io/Serializable"), (0, u "serialVersionUID"), (0, u "J"), (3, u "DEFAULT_CAPACITY"), (159, .class_ 501), (0, u "java/util/ArrayList$SubList$2"), (0, .class_ 503), (0, u "java/util/ArrayList$SubList$1")] 5

def k11c0 : Code := { maxStack := 2, maxLocals := 1, code := jdk_38_method_2_code, exceptionTable := #[], attributes := #[] }
def k11m0 : Method := { name := "<init>", desc := "()V", sig := { parameters := [], returnType := none }, accessFlags := 1, code := some k11c0 }
def k11c1 : Code := { maxStack := 4, maxLocals := 4, code := jdk_38_method_6_code, exceptionTable := #[], attributes := #[] }
def k11m1 : Method := { name := "grow", desc := "(I)[Ljava/lang/Object;", sig := { parameters := [.int], returnType := some (.array (.object "java/lang/Object")) }, accessFlags := 2, code := some k11c1 }
def k11c2 : Code := { maxStack := 3, maxLocals := 1, code := jdk_38_method_7_code, exceptionTable := #[], attributes := #[] }
def k11m2 : Method := { name := "grow", desc := "()[Ljava/lang/Object;", sig := { parameters := [], returnType := some (.array (.object "java/lang/Object")) }, accessFlags := 2, code := some k11c2 }
def k11c3 : Code := { maxStack := 3, maxLocals := 4, code := jdk_38_method_24_code, exceptionTable := #[], attributes := #[] }
def k11m3 : Method := { name := "add", desc := "(Ljava/lang/Object;[Ljava/lang/Object;I)V", sig := { parameters := [(.object "java/lang/Object"), (.array (.object "java/lang/Object")), .int], returnType := none }, accessFlags := 2, code := some k11c3 }
def k11c4 : Code := { maxStack := 4, maxLocals := 2, code := jdk_38_method_25_code, exceptionTable := #[], attributes := #[] }
def k11m4 : Method := { name := "add", desc := "(Ljava/lang/Object;)Z", sig := { parameters := [(.object "java/lang/Object")], returnType := some .boolean }, accessFlags := 1, code := some k11c4 }
/-- java/util/ArrayList -/
def k11 : Class := { plain "java/util/ArrayList" (some 7) with
  accessFlags := 33
  interfaces := #[6, 8, 9, 10]
  cf := some (fileOf pool11 10 #[.nestMembers #[290, 276, 500, 502, 262, 267]] #[{ accessFlags := 1, nameIndex := 5, descriptorIndex := 6, attributes := #[] }, { accessFlags := 2, nameIndex := 71, descriptorIndex := 72, attributes := #[] }, { accessFlags := 2, nameIndex := 71, descriptorIndex := 47, attributes := #[] }, { accessFlags := 2, nameIndex := 133, descriptorIndex := 134, attributes := #[] }, { accessFlags := 1, nameIndex := 133, descriptorIndex := 96, attributes := #[] }] 33 2 #[148, 329, 331, 333] #[{ accessFlags := 26, nameIndex := 335, descriptorIndex := 336, attributes := #[] }, { accessFlags := 26, nameIndex := 340, descriptorIndex := 51, attributes := #[] }, { accessFlags := 26, nameIndex := 17, descriptorIndex := 14, attributes := #[] }, { accessFlags := 26, nameIndex := 41, descriptorIndex := 14, attributes := #[] }, { accessFlags := 128, nameIndex := 13, descriptorIndex := 14, attributes := #[] }, { accessFlags := 2, nameIndex := 50, descriptorIndex := 51, attributes := #[] }])
  fields := #[{ name := "serialVersionUID", type := .long, accessFlags := 26, slot := 0, constantValue := 0 }, { name := "DEFAULT_CAPACITY", type := .int, accessFlags := 26, slot := 1, constantValue := 0 }, { name := "EMPTY_ELEMENTDATA", type := (.array (.object "java/lang/Object")), accessFlags := 26, slot := 2, constantValue := 0 }, { name := "DEFAULTCAPACITY_EMPTY_ELEMENTDATA", type := (.array (.object "java/lang/Object")), accessFlags := 26, slot := 3, constantValue := 0 }, { name := "elementData", type := (.array (.object "java/lang/Object")), accessFlags := 128, slot := 1, constantValue := 0 }, { name := "size", type := .int, accessFlags := 2, slot := 2, constantValue := 0 }]
  methods := #[k11m0, k11m1, k11m2, k11m3, k11m4]
  instanceTypes := #[.int, (.array (.object "java/lang/Object")), .int]
  staticTypes := #[.long, .int, (.array (.object "java/lang/Object")), (.array (.object "java/lang/Object"))]
  resolved := Array.replicate 509 none
  statics := some 0 }

def pool12 : Array CpInfo := pool [(1, .methodref 2 3), (0, .class_ 4), (0, .nameAndType 5 6), (0, u "java/lang/Object"), (0, u "<init>"), (0, u "()V"), (1, .class_ 10), (1, u "java/lang/Number"), (2, .class_ 14), (0, u "java/io/Serializable"), (0, u "serialVersionUID"), (0, u "J")] 20

def k12c0 : Code := { maxStack := 1, maxLocals := 1, code := jdk_18_method_1_code, exceptionTable := #[], attributes := #[] }
def k12m0 : Method := { name := "<init>", desc := "()V", sig := { parameters := [], returnType := none }, accessFlags := 1, code := some k12c0 }
/-- java/lang/Number -/
def k12 : Class := { plain "java/lang/Number" (some 0) with
  accessFlags := 1057
  interfaces := #[10]
  cf := some (fileOf pool12 8 #[] #[{ accessFlags := 1, nameIndex := 5, descriptorIndex := 6, attributes := #[] }] 1057 2 #[13] #[{ accessFlags := 26, nameIndex := 15, descriptorIndex := 16, attributes := #[] }])
  fields := #[{ name := "serialVersionUID", type := .long, accessFlags := 26, slot := 0, constantValue := 0 }]
  methods := #[k12m0]
  instanceTypes := #[]
  staticTypes := #[.long]
  resolved := Array.replicate 37 none
  statics := none }

def pool13 : Array CpInfo := pool [(1, .class_ 2), (0, u "java/lang/Comparable"), (0, .class_ 4), (0, u "java/lang/Object")] 7

/-- java/lang/Comparable -/
def k13 : Class := { plain "java/lang/Comparable" (some 0) with
  accessFlags := 1537
  interfaces := #[]
  cf := some (fileOf pool13 1 #[] #[] 1537 3 #[] #[])
  fields := #[]
  methods := #[]
  instanceTypes := #[]
  staticTypes := #[]
  resolved := Array.replicate 12 none
  statics := none }

def pool14 : Array CpInfo := pool [(1, .class_ 2), (0, u "java/lang/constant/Constable"), (0, .class_ 4), (0, u "java/lang/Object")] 6

/-- java/lang/constant/Constable -/
def k14 : Class := { plain "java/lang/constant/Constable" (some 0) with
  accessFlags := 1537
  interfaces := #[]
  cf := some (fileOf pool14 1 #[] #[] 1537 3 #[] #[])
  fields := #[]
  methods := #[]
  instanceTypes := #[]
  staticTypes := #[]
  resolved := Array.replicate 11 none
  statics := none }

def pool15 : Array CpInfo := pool [(1, .class_ 2), (0, u "java/lang/constant/ConstantDesc"), (0, .class_ 4), (0, u "java/lang/Object")] 32

/-- java/lang/constant/ConstantDesc -/
def k15 : Class := { plain "java/lang/constant/ConstantDesc" (some 0) with
  accessFlags := 1537
  interfaces := #[]
  cf := some (fileOf pool15 1 #[] #[] 1537 3 #[] #[])
  fields := #[]
  methods := #[]
  instanceTypes := #[]
  staticTypes := #[]
  resolved := Array.replicate 37 none
  statics := none }

def pool16 : Array CpInfo := pool [(1, .class_ 2), (0, u "java/lang/Integer"), (16, u "digits"), (0, u "[C"), (46, u "<init>"), (17, u "DigitOnes"), (0, u "[B"), (2, u "DigitTens"), (10, .nameAndType 67 101), (0, u "()V"), (85, u "valueOf"), (0, u "(I)Ljava/lang/Integer;"), (0, .class_ 190), (0, u "java/lang/Integer$IntegerCache"), (0, .fieldref 189 192), (0, .nameAndType 193 194), (0, u "high"), (0, u "I"), (0, .fieldref 189 196), (0, .nameAndType 197 198), (0, u "cache"), (0, u "[Ljava/lang/Integer;"), (0, .methodref 1 200), (0, .nameAndType 67 201), (0, u "(I)V"), (0, .methodref 203 100), (0, .class_ 204), (0, u "java/lang/Number"), (0, .fieldref 1 206), (0, .nameAndType 207 194), (0, u "value"), (94, u "TYPE"), (0, u "Ljava/lang/Class;"), (0, .class_ 305), (0, u "java/lang/Comparable"), (0, .class_ 307), (0, u "java/lang/constant/Constable"), (0, .class_ 309), (0, u "java/lang/constant/ConstantDesc"), (0, u "MIN_VALUE"), (1, u "MAX_VALUE"), (3, u "SIZE"), (1, u "BYTES"), (1, u "serialVersionUID"), (0, u "J")] 131

def k16c0 : Code := { maxStack := 3, maxLocals := 1, code := jdk_33_method_22_code, exceptionTable := #[], attributes := #[] }
def k16m0 : Method := { name := "valueOf", desc := "(I)Ljava/lang/Integer;", sig := { parameters := [.int], returnType := some (.object "java/lang/Integer") }, accessFlags := 9, code := some k16c0 }
def k16c1 : Code := { maxStack := 2, maxLocals := 2, code := jdk_33_method_23_code, exceptionTable := #[], attributes := #[] }
def k16m1 : Method := { name := "<init>", desc := "(I)V", sig := { parameters := [.int], returnType := none }, accessFlags := 1, code := some k16c1 }
/-- java/lang/Integer -/
def k16 : Class := { plain "java/lang/Integer" (some 12) with
  accessFlags := 49
  interfaces := #[13, 14, 15]
  cf := some (fileOf pool16 1 #[.nestMembers #[189]] #[{ accessFlags := 9, nameIndex := 187, descriptorIndex := 188, attributes := #[] }, { accessFlags := 1, nameIndex := 67, descriptorIndex := 201, attributes := #[] }] 49 203 #[304, 306, 308] #[{ accessFlags := 25, nameIndex := 310, descriptorIndex := 194, attributes := #[] }, { accessFlags := 25, nameIndex := 312, descriptorIndex := 194, attributes := #[] }, { accessFlags := 25, nameIndex := 302, descriptorIndex := 303, attributes := #[] }, { accessFlags := 24, nameIndex := 19, descriptorIndex := 20, attributes := #[] }, { accessFlags := 24, nameIndex := 89, descriptorIndex := 86, attributes := #[] }, { accessFlags := 24, nameIndex := 85, descriptorIndex := 86, attributes := #[] }, { accessFlags := 18, nameIndex := 207, descriptorIndex := 194, attributes := #[] }, { accessFlags := 25, nameIndex := 316, descriptorIndex := 194, attributes := #[] }, { accessFlags := 25, nameIndex := 318, descriptorIndex := 194, attributes := #[] }, { accessFlags := 26, nameIndex := 320, descriptorIndex := 321, attributes := #[] }])
  fields := #[{ name := "MIN_VALUE", type := .int, accessFlags := 25, slot := 0, constantValue := 0 }, { name := "MAX_VALUE", type := .int, accessFlags := 25, slot := 1, constantValue := 0 }, { name := "TYPE", type := (.object "java/lang/Class"), accessFlags := 25, slot := 2, constantValue := 0 }, { name := "digits", type := (.array .char), accessFlags := 24, slot := 3, constantValue := 0 }, { name := "DigitTens", type := (.array .byte), accessFlags := 24, slot := 4, constantValue := 0 }, { name := "DigitOnes", type := (.array .byte), accessFlags := 24, slot := 5, constantValue := 0 }, { name := "value", type := .int, accessFlags := 18, slot := 0, constantValue := 0 }, { name := "SIZE", type := .int, accessFlags := 25, slot := 6, constantValue := 0 }, { name := "BYTES", type := .int, accessFlags := 25, slot := 7, constantValue := 0 }, { name := "serialVersionUID", type := .long, accessFlags := 26, slot := 8, constantValue := 0 }]
  methods := #[k16m0, k16m1]
  instanceTypes := #[.int]
  staticTypes := #[.int, .int, (.object "java/lang/Class"), (.array .char), (.array .byte), (.array .byte), .int, .int, .long]
  resolved := Array.replicate 453 none
  statics := none }

def pool17 : Array CpInfo := pool [(2, .class_ 4), (1, u "java/lang/Object"), (0, u "<init>"), (0, u "()V"), (0, .class_ 8), (0, u "java/lang/Integer"), (7, .class_ 18), (1, u "java/lang/Integer$IntegerCache"), (0, u "$assertionsDisabled"), (0, u "Z"), (26, u "high"), (0, u "I"), (8, u "archivedCache"), (0, u "[Ljava/lang/Integer;"), (12, u "cache"), (0, u "low")] 27

def k17m0 : Method := { name := "<init>", desc := "()V", sig := { parameters := [], returnType := none }, accessFlags := 2, code := none }
/-- java/lang/Integer$IntegerCache -/
def k17 : Class := { plain "java/lang/Integer$IntegerCache" (some 0) with
  accessFlags := 48
  interfaces := #[]
  cf := some (fileOf pool17 16 #[.nestHost 7] #[{ accessFlags := 2, nameIndex := 5, descriptorIndex := 6, attributes := #[] }] 48 2 #[] #[{ accessFlags := 24, nameIndex := 72, descriptorIndex := 48, attributes := #[] }, { accessFlags := 24, nameIndex := 47, descriptorIndex := 48, attributes := #[] }, { accessFlags := 24, nameIndex := 71, descriptorIndex := 58, attributes := #[] }, { accessFlags := 8, nameIndex := 57, descriptorIndex := 58, attributes := #[] }, { accessFlags := 4120, nameIndex := 19, descriptorIndex := 20, attributes := #[] }])
  fields := #[{ name := "low", type := .int, accessFlags := 24, slot := 0, constantValue := 0 }, { name := "high", type := .int, accessFlags := 24, slot := 1, constantValue := 0 }, { name := "cache", type := (.array (.object "java/lang/Integer")), accessFlags := 24, slot := 2, constantValue := 0 }, { name := "archivedCache", type := (.array (.object "java/lang/Integer")), accessFlags := 8, slot := 3, constantValue := 0 }, { name := "$assertionsDisabled", type := .boolean, accessFlags := 4120, slot := 4, constantValue := 0 }]
  methods := #[k17m0]
  instanceTypes := #[]
  staticTypes := #[.int, .int, (.array (.object "java/lang/Integer")), (.array (.object "java/lang/Integer")), .boolean]
  resolved := Array.replicate 100 none
  statics := some 1 }

def pool18 : Array CpInfo := pool [(1, .class_ 2), (0, u "java/lang/Math"), (1, .class_ 6), (1, u "java/lang/Object"), (0, u "<init>"), (0, u "()V"), (89, .class_ 100), (1, u "java/lang/Math$RandomNumberGeneratorHolder"), (20, u "(JJ)J"), (50, u "negativeZeroFloatBits"), (0, u "J"), (2, u "negativeZeroDoubleBits"), (21, u "max"), (46, u "$assertionsDisabled"), (0, u "Z"), (88, u "(II)I"), (2, u "twoToTheDoubleScaleDown"), (0, u "D"), (4, u "twoToTheDoubleScaleUp"), (9, u "E"), (3, u "PI"), (2, u "TAU"), (2, u "DEGREES_TO_RADIANS"), (0, u "RADIANS_TO_DEGREES")] 94

def k18m0 : Method := { name := "<init>", desc := "()V", sig := { parameters := [], returnType := none }, accessFlags := 2, code := none }
def k18c1 : Code := { maxStack := 2, maxLocals := 2, code := jdk_29_method_65_code, exceptionTable := #[], attributes := #[] }
def k18m1 : Method := { name := "max", desc := "(II)I", sig := { parameters := [.int, .int], returnType := some .int }, accessFlags := 9, code := some k18c1 }
def k18c2 : Code := { maxStack := 4, maxLocals := 4, code := jdk_29_method_66_code, exceptionTable := #[], attributes := #[] }
def k18m2 : Method := { name := "max", desc := "(JJ)J", sig := { parameters := [.long, .long], returnType := some .long }, accessFlags := 9, code := some k18c2 }
/-- java/lang/Math -/
def k18 : Class := { plain "java/lang/Math" (some 0) with
  accessFlags := 49
  interfaces := #[]
  cf := some (fileOf pool18 1 #[.nestMembers #[98]] #[{ accessFlags := 2, nameIndex := 7, descriptorIndex := 8, attributes := #[] }, { accessFlags := 9, nameIndex := 198, descriptorIndex := 335, attributes := #[] }, { accessFlags := 9, nameIndex := 198, descriptorIndex := 121, attributes := #[] }] 49 4 #[] #[{ accessFlags := 25, nameIndex := 354, descriptorIndex := 339, attributes := #[] }, { accessFlags := 25, nameIndex := 358, descriptorIndex := 339, attributes := #[] }, { accessFlags := 25, nameIndex := 361, descriptorIndex := 339, attributes := #[] }, { accessFlags := 26, nameIndex := 364, descriptorIndex := 339, attributes := #[] }, { accessFlags := 26, nameIndex := 365, descriptorIndex := 339, attributes := #[] }, { accessFlags := 26, nameIndex := 172, descriptorIndex := 173, attributes := #[] }, { accessFlags := 26, nameIndex := 176, descriptorIndex := 173, attributes := #[] }, { accessFlags := 8, nameIndex := 344, descriptorIndex := 339, attributes := #[] }, { accessFlags := 8, nameIndex := 338, descriptorIndex := 339, attributes := #[] }, { accessFlags := 4120, nameIndex := 245, descriptorIndex := 246, attributes := #[] }])
  fields := #[{ name := "E", type := .double, accessFlags := 25, slot := 0, constantValue := 0 }, { name := "PI", type := .double, accessFlags := 25, slot := 1, constantValue := 0 }, { name := "TAU", type := .double, accessFlags := 25, slot := 2, constantValue := 0 }, { name := "DEGREES_TO_RADIANS", type := .double, accessFlags := 26, slot := 3, constantValue := 0 }, { name := "RADIANS_TO_DEGREES", type := .double, accessFlags := 26, slot := 4, constantValue := 0 }, { name := "negativeZeroFloatBits", type := .long, accessFlags := 26, slot := 5, constantValue := 0 }, { name := "negativeZeroDoubleBits", type := .long, accessFlags := 26, slot := 6, constantValue := 0 }, { name := "twoToTheDoubleScaleUp", type := .double, accessFlags := 8, slot := 7, constantValue := 0 }, { name := "twoToTheDoubleScaleDown", type := .double, accessFlags := 8, slot := 8, constantValue := 0 }, { name := "$assertionsDisabled", type := .boolean, accessFlags := 4120, slot := 9, constantValue := 0 }]
  methods := #[k18m0, k18m1, k18m2]
  instanceTypes := #[]
  staticTypes := #[.double, .double, .double, .double, .double, .long, .long, .double, .double, .boolean]
  resolved := Array.replicate 460 none
  statics := none }

def pool19 : Array CpInfo := pool [(1, .methodref 2 3), (0, .class_ 4), (0, .nameAndType 5 6), (0, u "java/lang/Object"), (0, u "<init>"), (0, u "()V"), (0, .class_ 8), (0, u "java/lang/Record")] 13

def k19c0 : Code := { maxStack := 1, maxLocals := 1, code := jdk_30_method_1_code, exceptionTable := #[], attributes := #[] }
def k19m0 : Method := { name := "<init>", desc := "()V", sig := { parameters := [], returnType := none }, accessFlags := 4, code := some k19c0 }
/-- java/lang/Record -/
def k19 : Class := { plain "java/lang/Record" (some 0) with
  accessFlags := 1057
  interfaces := #[]
  cf := some (fileOf pool19 7 #[] #[{ accessFlags := 4, nameIndex := 5, descriptorIndex := 6, attributes := #[] }] 1057 2 #[] #[])
  fields := #[]
  methods := #[k19m0]
  instanceTypes := #[]
  staticTypes := #[]
  resolved := Array.replicate 22 none
  statics := none }

def pool20 : Array CpInfo := pool [(1, .methodref 2 3), (0, .class_ 4), (0, .nameAndType 5 6), (0, u "java/lang/Record"), (0, u "<init>"), (0, u "()V"), (0, .fieldref 8 9), (0, .class_ 10), (0, .nameAndType 11 12), (0, u "com/example/gridsteward/gridsteward/Listing"), (0, u "items"), (0, u "Ljava/util/List;"), (0, .fieldref 8 14), (0, .nameAndType 15 16), (0, u "page"), (0, u "I"), (0, .fieldref 8 18), (0, .nameAndType 19 20), (0, u "total"), (0, u "J"), (11, .long 100), (38, u "(Ljava/util/List;IJ)V"), (0, .methodref 73 74), (0, .class_ 75), (0, .nameAndType 76 77), (0, u "java/lang/Math"), (0, u "max"), (0, u "(JJ)J"), (8, u "pages"), (2, u "()J"), (21, u "SIZE"), (2, u "WINDOW"), (0, u "Ljava/lang/String;")] 39

def k20c0 : Code := { maxStack := 3, maxLocals := 5, code := prog_15_method_1_code, exceptionTable := #[], attributes := #[] }
def k20m0 : Method := { name := "<init>", desc := "(Ljava/util/List;IJ)V", sig := { parameters := [(.object "java/util/List"), .int, .long], returnType := none }, accessFlags := 0, code := some k20c0 }
def k20c1 : Code := { maxStack := 6, maxLocals := 1, code := prog_15_method_4_code, exceptionTable := #[], attributes := #[] }
def k20m1 : Method := { name := "pages", desc := "()J", sig := { parameters := [], returnType := some .long }, accessFlags := 0, code := some k20c1 }
/-- com/example/gridsteward/gridsteward/Listing -/
def k20 : Class := { plain "com/example/gridsteward/gridsteward/Listing" (some 19) with
  accessFlags := 48
  interfaces := #[]
  cf := some (fileOf pool20 8 #[] #[{ accessFlags := 0, nameIndex := 5, descriptorIndex := 71, attributes := #[] }, { accessFlags := 0, nameIndex := 86, descriptorIndex := 89, attributes := #[] }] 48 2 #[] #[{ accessFlags := 18, nameIndex := 11, descriptorIndex := 12, attributes := #[] }, { accessFlags := 18, nameIndex := 15, descriptorIndex := 16, attributes := #[] }, { accessFlags := 18, nameIndex := 19, descriptorIndex := 20, attributes := #[] }, { accessFlags := 24, nameIndex := 111, descriptorIndex := 16, attributes := #[] }, { accessFlags := 24, nameIndex := 114, descriptorIndex := 115, attributes := #[] }])
  fields := #[{ name := "items", type := (.object "java/util/List"), accessFlags := 18, slot := 0, constantValue := 0 }, { name := "page", type := .int, accessFlags := 18, slot := 1, constantValue := 0 }, { name := "total", type := .long, accessFlags := 18, slot := 2, constantValue := 0 }, { name := "SIZE", type := .int, accessFlags := 24, slot := 0, constantValue := 0 }, { name := "WINDOW", type := (.object "java/lang/String"), accessFlags := 24, slot := 1, constantValue := 0 }]
  methods := #[k20m0, k20m1]
  instanceTypes := #[(.object "java/util/List"), .int, .long]
  staticTypes := #[.int, (.object "java/lang/String")]
  resolved := Array.replicate 155 none
  statics := none }

/-- the primitive byte -/
def k21 : Class := { plain "byte" none with kind := .primitive 'B', accessFlags := 0x411 }
/-- [B -/
def k22 : Class := { plain "[B" (some 0) with kind := .array 21 .byte, interfaces := #[9, 10], accessFlags := 1041 }

/-- the primitive int -/
def k23 : Class := { plain "int" none with kind := .primitive 'I', accessFlags := 0x411 }
/-- [I -/
def k24 : Class := { plain "[I" (some 0) with kind := .array 23 .int, interfaces := #[9, 10], accessFlags := 1041 }

/-- [Ljava/lang/Integer; -/
def k25 : Class := { plain "[Ljava/lang/Integer;" (some 0) with kind := .array 16 (.object "java/lang/Integer"), interfaces := #[9, 10], accessFlags := 1041 }

/-- [Ljava/lang/Object; -/
def k26 : Class := { plain "[Ljava/lang/Object;" (some 0) with kind := .array 0 (.object "java/lang/Object"), interfaces := #[9, 10], accessFlags := 1041 }

def heap : Heap := #[{ cls := 11, slots := #[.long 0, .int 0, .ref 259, .ref 260], vm := .statics 11 },
  { cls := 17, slots := #[.int 0, .int 127, .ref 2, .null, .int 0], vm := .statics 17 },
  { cls := 25, slots := #[.ref 3, .ref 4, .ref 5, .ref 6, .ref 7, .ref 8, .ref 9, .ref 10, .ref 11, .ref 12, .ref 13, .ref 14, .ref 15, .ref 16, .ref 17, .ref 18, .ref 19, .ref 20, .ref 21, .ref 22, .ref 23, .ref 24, .ref 25, .ref 26, .ref 27, .ref 28, .ref 29, .ref 30, .ref 31, .ref 32, .ref 33, .ref 34, .ref 35, .ref 36, .ref 37, .ref 38, .ref 39, .ref 40, .ref 41, .ref 42, .ref 43, .ref 44, .ref 45, .ref 46, .ref 47, .ref 48, .ref 49, .ref 50, .ref 51, .ref 52, .ref 53, .ref 54, .ref 55, .ref 56, .ref 57, .ref 58, .ref 59, .ref 60, .ref 61, .ref 62, .ref 63, .ref 64, .ref 65, .ref 66, .ref 67, .ref 68, .ref 69, .ref 70, .ref 71, .ref 72, .ref 73, .ref 74, .ref 75, .ref 76, .ref 77, .ref 78, .ref 79, .ref 80, .ref 81, .ref 82, .ref 83, .ref 84, .ref 85, .ref 86, .ref 87, .ref 88, .ref 89, .ref 90, .ref 91, .ref 92, .ref 93, .ref 94, .ref 95, .ref 96, .ref 97, .ref 98, .ref 99, .ref 100, .ref 101, .ref 102, .ref 103, .ref 104, .ref 105, .ref 106, .ref 107, .ref 108, .ref 109, .ref 110, .ref 111, .ref 112, .ref 113, .ref 114, .ref 115, .ref 116, .ref 117, .ref 118, .ref 119, .ref 120, .ref 121, .ref 122, .ref 123, .ref 124, .ref 125, .ref 126, .ref 127, .ref 128, .ref 129, .ref 130, .ref 131, .ref 132, .ref 133, .ref 134, .ref 135, .ref 136, .ref 137, .ref 138, .ref 139, .ref 140, .ref 141, .ref 142, .ref 143, .ref 144, .ref 145, .ref 146, .ref 147, .ref 148, .ref 149, .ref 150, .ref 151, .ref 152, .ref 153, .ref 154, .ref 155, .ref 156, .ref 157, .ref 158, .ref 159, .ref 160, .ref 161, .ref 162, .ref 163, .ref 164, .ref 165, .ref 166, .ref 167, .ref 168, .ref 169, .ref 170, .ref 171, .ref 172, .ref 173, .ref 174, .ref 175, .ref 176, .ref 177, .ref 178, .ref 179, .ref 180, .ref 181, .ref 182, .ref 183, .ref 184, .ref 185, .ref 186, .ref 187, .ref 188, .ref 189, .ref 190, .ref 191, .ref 192, .ref 193, .ref 194, .ref 195, .ref 196, .ref 197, .ref 198, .ref 199, .ref 200, .ref 201, .ref 202, .ref 203, .ref 204, .ref 205, .ref 206, .ref 207, .ref 208, .ref 209, .ref 210, .ref 211, .ref 212, .ref 213, .ref 214, .ref 215, .ref 216, .ref 217, .ref 218, .ref 219, .ref 220, .ref 221, .ref 222, .ref 223, .ref 224, .ref 225, .ref 226, .ref 227, .ref 228, .ref 229, .ref 230, .ref 231, .ref 232, .ref 233, .ref 234, .ref 235, .ref 236, .ref 237, .ref 238, .ref 239, .ref 240, .ref 241, .ref 242, .ref 243, .ref 244, .ref 245, .ref 246, .ref 247, .ref 248, .ref 249, .ref 250, .ref 251, .ref 252, .ref 253, .ref 254, .ref 255, .ref 256, .ref 257, .ref 258], vm := .none },
  { cls := 16, slots := #[.int (-128)], vm := .none },
  { cls := 16, slots := #[.int (-127)], vm := .none },
  { cls := 16, slots := #[.int (-126)], vm := .none },
  { cls := 16, slots := #[.int (-125)], vm := .none },
  { cls := 16, slots := #[.int (-124)], vm := .none },
  { cls := 16, slots := #[.int (-123)], vm := .none },
  { cls := 16, slots := #[.int (-122)], vm := .none },
  { cls := 16, slots := #[.int (-121)], vm := .none },
  { cls := 16, slots := #[.int (-120)], vm := .none },
  { cls := 16, slots := #[.int (-119)], vm := .none },
  { cls := 16, slots := #[.int (-118)], vm := .none },
  { cls := 16, slots := #[.int (-117)], vm := .none },
  { cls := 16, slots := #[.int (-116)], vm := .none },
  { cls := 16, slots := #[.int (-115)], vm := .none },
  { cls := 16, slots := #[.int (-114)], vm := .none },
  { cls := 16, slots := #[.int (-113)], vm := .none },
  { cls := 16, slots := #[.int (-112)], vm := .none },
  { cls := 16, slots := #[.int (-111)], vm := .none },
  { cls := 16, slots := #[.int (-110)], vm := .none },
  { cls := 16, slots := #[.int (-109)], vm := .none },
  { cls := 16, slots := #[.int (-108)], vm := .none },
  { cls := 16, slots := #[.int (-107)], vm := .none },
  { cls := 16, slots := #[.int (-106)], vm := .none },
  { cls := 16, slots := #[.int (-105)], vm := .none },
  { cls := 16, slots := #[.int (-104)], vm := .none },
  { cls := 16, slots := #[.int (-103)], vm := .none },
  { cls := 16, slots := #[.int (-102)], vm := .none },
  { cls := 16, slots := #[.int (-101)], vm := .none },
  { cls := 16, slots := #[.int (-100)], vm := .none },
  { cls := 16, slots := #[.int (-99)], vm := .none },
  { cls := 16, slots := #[.int (-98)], vm := .none },
  { cls := 16, slots := #[.int (-97)], vm := .none },
  { cls := 16, slots := #[.int (-96)], vm := .none },
  { cls := 16, slots := #[.int (-95)], vm := .none },
  { cls := 16, slots := #[.int (-94)], vm := .none },
  { cls := 16, slots := #[.int (-93)], vm := .none },
  { cls := 16, slots := #[.int (-92)], vm := .none },
  { cls := 16, slots := #[.int (-91)], vm := .none },
  { cls := 16, slots := #[.int (-90)], vm := .none },
  { cls := 16, slots := #[.int (-89)], vm := .none },
  { cls := 16, slots := #[.int (-88)], vm := .none },
  { cls := 16, slots := #[.int (-87)], vm := .none },
  { cls := 16, slots := #[.int (-86)], vm := .none },
  { cls := 16, slots := #[.int (-85)], vm := .none },
  { cls := 16, slots := #[.int (-84)], vm := .none },
  { cls := 16, slots := #[.int (-83)], vm := .none },
  { cls := 16, slots := #[.int (-82)], vm := .none },
  { cls := 16, slots := #[.int (-81)], vm := .none },
  { cls := 16, slots := #[.int (-80)], vm := .none },
  { cls := 16, slots := #[.int (-79)], vm := .none },
  { cls := 16, slots := #[.int (-78)], vm := .none },
  { cls := 16, slots := #[.int (-77)], vm := .none },
  { cls := 16, slots := #[.int (-76)], vm := .none },
  { cls := 16, slots := #[.int (-75)], vm := .none },
  { cls := 16, slots := #[.int (-74)], vm := .none },
  { cls := 16, slots := #[.int (-73)], vm := .none },
  { cls := 16, slots := #[.int (-72)], vm := .none },
  { cls := 16, slots := #[.int (-71)], vm := .none },
  { cls := 16, slots := #[.int (-70)], vm := .none },
  { cls := 16, slots := #[.int (-69)], vm := .none },
  { cls := 16, slots := #[.int (-68)], vm := .none },
  { cls := 16, slots := #[.int (-67)], vm := .none },
  { cls := 16, slots := #[.int (-66)], vm := .none },
  { cls := 16, slots := #[.int (-65)], vm := .none },
  { cls := 16, slots := #[.int (-64)], vm := .none },
  { cls := 16, slots := #[.int (-63)], vm := .none },
  { cls := 16, slots := #[.int (-62)], vm := .none },
  { cls := 16, slots := #[.int (-61)], vm := .none },
  { cls := 16, slots := #[.int (-60)], vm := .none },
  { cls := 16, slots := #[.int (-59)], vm := .none },
  { cls := 16, slots := #[.int (-58)], vm := .none },
  { cls := 16, slots := #[.int (-57)], vm := .none },
  { cls := 16, slots := #[.int (-56)], vm := .none },
  { cls := 16, slots := #[.int (-55)], vm := .none },
  { cls := 16, slots := #[.int (-54)], vm := .none },
  { cls := 16, slots := #[.int (-53)], vm := .none },
  { cls := 16, slots := #[.int (-52)], vm := .none },
  { cls := 16, slots := #[.int (-51)], vm := .none },
  { cls := 16, slots := #[.int (-50)], vm := .none },
  { cls := 16, slots := #[.int (-49)], vm := .none },
  { cls := 16, slots := #[.int (-48)], vm := .none },
  { cls := 16, slots := #[.int (-47)], vm := .none },
  { cls := 16, slots := #[.int (-46)], vm := .none },
  { cls := 16, slots := #[.int (-45)], vm := .none },
  { cls := 16, slots := #[.int (-44)], vm := .none },
  { cls := 16, slots := #[.int (-43)], vm := .none },
  { cls := 16, slots := #[.int (-42)], vm := .none },
  { cls := 16, slots := #[.int (-41)], vm := .none },
  { cls := 16, slots := #[.int (-40)], vm := .none },
  { cls := 16, slots := #[.int (-39)], vm := .none },
  { cls := 16, slots := #[.int (-38)], vm := .none },
  { cls := 16, slots := #[.int (-37)], vm := .none },
  { cls := 16, slots := #[.int (-36)], vm := .none },
  { cls := 16, slots := #[.int (-35)], vm := .none },
  { cls := 16, slots := #[.int (-34)], vm := .none },
  { cls := 16, slots := #[.int (-33)], vm := .none },
  { cls := 16, slots := #[.int (-32)], vm := .none },
  { cls := 16, slots := #[.int (-31)], vm := .none },
  { cls := 16, slots := #[.int (-30)], vm := .none },
  { cls := 16, slots := #[.int (-29)], vm := .none },
  { cls := 16, slots := #[.int (-28)], vm := .none },
  { cls := 16, slots := #[.int (-27)], vm := .none },
  { cls := 16, slots := #[.int (-26)], vm := .none },
  { cls := 16, slots := #[.int (-25)], vm := .none },
  { cls := 16, slots := #[.int (-24)], vm := .none },
  { cls := 16, slots := #[.int (-23)], vm := .none },
  { cls := 16, slots := #[.int (-22)], vm := .none },
  { cls := 16, slots := #[.int (-21)], vm := .none },
  { cls := 16, slots := #[.int (-20)], vm := .none },
  { cls := 16, slots := #[.int (-19)], vm := .none },
  { cls := 16, slots := #[.int (-18)], vm := .none },
  { cls := 16, slots := #[.int (-17)], vm := .none },
  { cls := 16, slots := #[.int (-16)], vm := .none },
  { cls := 16, slots := #[.int (-15)], vm := .none },
  { cls := 16, slots := #[.int (-14)], vm := .none },
  { cls := 16, slots := #[.int (-13)], vm := .none },
  { cls := 16, slots := #[.int (-12)], vm := .none },
  { cls := 16, slots := #[.int (-11)], vm := .none },
  { cls := 16, slots := #[.int (-10)], vm := .none },
  { cls := 16, slots := #[.int (-9)], vm := .none },
  { cls := 16, slots := #[.int (-8)], vm := .none },
  { cls := 16, slots := #[.int (-7)], vm := .none },
  { cls := 16, slots := #[.int (-6)], vm := .none },
  { cls := 16, slots := #[.int (-5)], vm := .none },
  { cls := 16, slots := #[.int (-4)], vm := .none },
  { cls := 16, slots := #[.int (-3)], vm := .none },
  { cls := 16, slots := #[.int (-2)], vm := .none },
  { cls := 16, slots := #[.int (-1)], vm := .none },
  { cls := 16, slots := #[.int (0)], vm := .none },
  { cls := 16, slots := #[.int (1)], vm := .none },
  { cls := 16, slots := #[.int (2)], vm := .none },
  { cls := 16, slots := #[.int (3)], vm := .none },
  { cls := 16, slots := #[.int (4)], vm := .none },
  { cls := 16, slots := #[.int (5)], vm := .none },
  { cls := 16, slots := #[.int (6)], vm := .none },
  { cls := 16, slots := #[.int (7)], vm := .none },
  { cls := 16, slots := #[.int (8)], vm := .none },
  { cls := 16, slots := #[.int (9)], vm := .none },
  { cls := 16, slots := #[.int (10)], vm := .none },
  { cls := 16, slots := #[.int (11)], vm := .none },
  { cls := 16, slots := #[.int (12)], vm := .none },
  { cls := 16, slots := #[.int (13)], vm := .none },
  { cls := 16, slots := #[.int (14)], vm := .none },
  { cls := 16, slots := #[.int (15)], vm := .none },
  { cls := 16, slots := #[.int (16)], vm := .none },
  { cls := 16, slots := #[.int (17)], vm := .none },
  { cls := 16, slots := #[.int (18)], vm := .none },
  { cls := 16, slots := #[.int (19)], vm := .none },
  { cls := 16, slots := #[.int (20)], vm := .none },
  { cls := 16, slots := #[.int (21)], vm := .none },
  { cls := 16, slots := #[.int (22)], vm := .none },
  { cls := 16, slots := #[.int (23)], vm := .none },
  { cls := 16, slots := #[.int (24)], vm := .none },
  { cls := 16, slots := #[.int (25)], vm := .none },
  { cls := 16, slots := #[.int (26)], vm := .none },
  { cls := 16, slots := #[.int (27)], vm := .none },
  { cls := 16, slots := #[.int (28)], vm := .none },
  { cls := 16, slots := #[.int (29)], vm := .none },
  { cls := 16, slots := #[.int (30)], vm := .none },
  { cls := 16, slots := #[.int (31)], vm := .none },
  { cls := 16, slots := #[.int (32)], vm := .none },
  { cls := 16, slots := #[.int (33)], vm := .none },
  { cls := 16, slots := #[.int (34)], vm := .none },
  { cls := 16, slots := #[.int (35)], vm := .none },
  { cls := 16, slots := #[.int (36)], vm := .none },
  { cls := 16, slots := #[.int (37)], vm := .none },
  { cls := 16, slots := #[.int (38)], vm := .none },
  { cls := 16, slots := #[.int (39)], vm := .none },
  { cls := 16, slots := #[.int (40)], vm := .none },
  { cls := 16, slots := #[.int (41)], vm := .none },
  { cls := 16, slots := #[.int (42)], vm := .none },
  { cls := 16, slots := #[.int (43)], vm := .none },
  { cls := 16, slots := #[.int (44)], vm := .none },
  { cls := 16, slots := #[.int (45)], vm := .none },
  { cls := 16, slots := #[.int (46)], vm := .none },
  { cls := 16, slots := #[.int (47)], vm := .none },
  { cls := 16, slots := #[.int (48)], vm := .none },
  { cls := 16, slots := #[.int (49)], vm := .none },
  { cls := 16, slots := #[.int (50)], vm := .none },
  { cls := 16, slots := #[.int (51)], vm := .none },
  { cls := 16, slots := #[.int (52)], vm := .none },
  { cls := 16, slots := #[.int (53)], vm := .none },
  { cls := 16, slots := #[.int (54)], vm := .none },
  { cls := 16, slots := #[.int (55)], vm := .none },
  { cls := 16, slots := #[.int (56)], vm := .none },
  { cls := 16, slots := #[.int (57)], vm := .none },
  { cls := 16, slots := #[.int (58)], vm := .none },
  { cls := 16, slots := #[.int (59)], vm := .none },
  { cls := 16, slots := #[.int (60)], vm := .none },
  { cls := 16, slots := #[.int (61)], vm := .none },
  { cls := 16, slots := #[.int (62)], vm := .none },
  { cls := 16, slots := #[.int (63)], vm := .none },
  { cls := 16, slots := #[.int (64)], vm := .none },
  { cls := 16, slots := #[.int (65)], vm := .none },
  { cls := 16, slots := #[.int (66)], vm := .none },
  { cls := 16, slots := #[.int (67)], vm := .none },
  { cls := 16, slots := #[.int (68)], vm := .none },
  { cls := 16, slots := #[.int (69)], vm := .none },
  { cls := 16, slots := #[.int (70)], vm := .none },
  { cls := 16, slots := #[.int (71)], vm := .none },
  { cls := 16, slots := #[.int (72)], vm := .none },
  { cls := 16, slots := #[.int (73)], vm := .none },
  { cls := 16, slots := #[.int (74)], vm := .none },
  { cls := 16, slots := #[.int (75)], vm := .none },
  { cls := 16, slots := #[.int (76)], vm := .none },
  { cls := 16, slots := #[.int (77)], vm := .none },
  { cls := 16, slots := #[.int (78)], vm := .none },
  { cls := 16, slots := #[.int (79)], vm := .none },
  { cls := 16, slots := #[.int (80)], vm := .none },
  { cls := 16, slots := #[.int (81)], vm := .none },
  { cls := 16, slots := #[.int (82)], vm := .none },
  { cls := 16, slots := #[.int (83)], vm := .none },
  { cls := 16, slots := #[.int (84)], vm := .none },
  { cls := 16, slots := #[.int (85)], vm := .none },
  { cls := 16, slots := #[.int (86)], vm := .none },
  { cls := 16, slots := #[.int (87)], vm := .none },
  { cls := 16, slots := #[.int (88)], vm := .none },
  { cls := 16, slots := #[.int (89)], vm := .none },
  { cls := 16, slots := #[.int (90)], vm := .none },
  { cls := 16, slots := #[.int (91)], vm := .none },
  { cls := 16, slots := #[.int (92)], vm := .none },
  { cls := 16, slots := #[.int (93)], vm := .none },
  { cls := 16, slots := #[.int (94)], vm := .none },
  { cls := 16, slots := #[.int (95)], vm := .none },
  { cls := 16, slots := #[.int (96)], vm := .none },
  { cls := 16, slots := #[.int (97)], vm := .none },
  { cls := 16, slots := #[.int (98)], vm := .none },
  { cls := 16, slots := #[.int (99)], vm := .none },
  { cls := 16, slots := #[.int (100)], vm := .none },
  { cls := 16, slots := #[.int (101)], vm := .none },
  { cls := 16, slots := #[.int (102)], vm := .none },
  { cls := 16, slots := #[.int (103)], vm := .none },
  { cls := 16, slots := #[.int (104)], vm := .none },
  { cls := 16, slots := #[.int (105)], vm := .none },
  { cls := 16, slots := #[.int (106)], vm := .none },
  { cls := 16, slots := #[.int (107)], vm := .none },
  { cls := 16, slots := #[.int (108)], vm := .none },
  { cls := 16, slots := #[.int (109)], vm := .none },
  { cls := 16, slots := #[.int (110)], vm := .none },
  { cls := 16, slots := #[.int (111)], vm := .none },
  { cls := 16, slots := #[.int (112)], vm := .none },
  { cls := 16, slots := #[.int (113)], vm := .none },
  { cls := 16, slots := #[.int (114)], vm := .none },
  { cls := 16, slots := #[.int (115)], vm := .none },
  { cls := 16, slots := #[.int (116)], vm := .none },
  { cls := 16, slots := #[.int (117)], vm := .none },
  { cls := 16, slots := #[.int (118)], vm := .none },
  { cls := 16, slots := #[.int (119)], vm := .none },
  { cls := 16, slots := #[.int (120)], vm := .none },
  { cls := 16, slots := #[.int (121)], vm := .none },
  { cls := 16, slots := #[.int (122)], vm := .none },
  { cls := 16, slots := #[.int (123)], vm := .none },
  { cls := 16, slots := #[.int (124)], vm := .none },
  { cls := 16, slots := #[.int (125)], vm := .none },
  { cls := 16, slots := #[.int (126)], vm := .none },
  { cls := 16, slots := #[.int (127)], vm := .none },
  { cls := 26, slots := #[], vm := .none },
  { cls := 26, slots := #[], vm := .none }]
def classes : Array Class := #[k0, k1, k2, k3, k4, k5, k6, k7, k8, k9, k10, k11, k12, k13, k14, k15, k16, k17, k18, k19, k20, k21, k22, k23, k24, k25, k26]
def interned : List (Array UInt16 × Addr) := []
def slotsUsed : Nat := 521
def theMethod : MethodId := ⟨1, 1⟩
def args0 : Array Value := #[.long 5, .int 2, .int 0]
def aboutOver (below : List Frame) : State where
  vm := { classes := classes, interned := interned.toArray }
  heap := heap
  slotsUsed := slotsUsed
  threads := #[{ frames := .invoking theMethod args0 :: below }]
def below0 : List Frame := [.native { method := ⟨0, 0⟩, args := #[] }]
def about1 : State := aboutOver below0
def p0 : Program := .bare "" "" ""
def e0 : Env := launch0.env 0 0 0
theorem w_frames : about1.frames = Frame.invoking theMethod args0 :: below0 := rfl
set_option maxRecDepth 65536 in
theorem w_args : argsFit about1.vm theMethod args0 = true := by decide +kernel
set_option maxRecDepth 65536 in
theorem w_heap : heapFits about1 = true := by decide +kernel
set_option maxRecDepth 65536 in
theorem w_runnable : about1.curStatus? = some .runnable := by decide +kernel
set_option maxRecDepth 65536 in
theorem w_alone : about1.alone = true := by decide +kernel
set_option maxRecDepth 65536 in
theorem w_named : about1.methodNamed? x = some theMethod := by decide +kernel
set_option maxRecDepth 65536 in
theorem w_hears : about1.hears theMethod below0 = true := by decide +kernel
set_option maxRecDepth 65536 in
theorem w_ripe : about1.ripe theMethod args0 below0 = true := by decide +kernel
theorem w_running : about1.status = .running := rfl
set_option maxRecDepth 65536 in
theorem w_room : about1.hasRoom e0.platform room_1 = true :=
  launch0.hasRoom_least _ room_1 (by decide +kernel) (by decide +kernel) (by decide +kernel) (by decide +kernel) (by decide +kernel) (by decide +kernel)
theorem allAtoms_all (ts : List Jvm.Cond) (a : Array Jvm.Value) (st : Jvm.State) : (allAtoms ts).before a st = ts.all (fun c => c.before a st) := by
  induction ts with
  | nil => rfl
  | cons c t ih =>
    show (Jvm.Cond.and c (allAtoms t)).before a st = _
    rw [Jvm.Cond.before_and, ih, List.all_cons]
def words1 : List Jvm.Cond := Jvm.Cond.code x code maxLocals ret :: tables_1
/-- a 'code' word, met by the world's own term for the bytes: nothing is compared byte by byte -/
theorem code_word {y : MethodName} {bytes : ByteArray} {mx : Nat} {rt : Option FieldType} {a : Array Value} {s : State} {m : MethodId} {meth : Method} {c : Code} (h1 : s.methodNamed? y = some m) (h2 : s.vm.method? m = some meth) (h3 : meth.code = some c) (h4 : c.code = bytes)
    (h5 : (c.maxLocals == mx && c.exceptionTable.isEmpty && decide (c.maxStack ≤ mostOperands) && decide (meth.sig.returnType = rt) && !meth.locks && decide (parseMethodDescriptor y.desc = some meth.sig)) = true) : (Jvm.Cond.code y bytes mx rt).before a s = true := by
  simp only [Bool.and_eq_true, beq_iff_eq, Bool.not_eq_true', decide_eq_true_eq] at h5
  obtain ⟨⟨⟨⟨⟨g1, g2⟩, g3⟩, g4⟩, g5⟩, g6⟩ := h5
  simp [Cond.before, Cond.holds, Cond.value, h1, h2, h3, h4, g1, g2, g3, g4, g5, g6]
def isCode : Jvm.Cond → Bool
  | .code _ _ _ _ => true
  | _ => false
theorem all_split {L : List Jvm.Cond} {P : Jvm.Cond → Bool} (h1 : L.all (fun c => isCode c || P c) = true) (h2 : ∀ c ∈ L.filter isCode, P c = true) : L.all P = true := by
  refine List.all_eq_true.mpr fun c hc => ?_
  have h := List.all_eq_true.mp h1 c hc
  rcases Bool.eq_false_or_eq_true (isCode c) with hi | hi
  · exact h2 c (List.mem_filter.mpr ⟨hc, hi⟩)
  · simpa [hi] using h
set_option maxRecDepth 65536 in
theorem w_c0 : (Jvm.Cond.code x code maxLocals ret).before args0 about1 = true := code_word (m := ⟨1, 1⟩) (meth := k1m1) (c := k1c1) (by decide +kernel) rfl rfl rfl (by decide +kernel)
set_option maxRecDepth 65536 in
theorem w_c1 : (Jvm.Cond.code ({ cls := "java/util/ArrayList", name := "<init>", desc := "()V" } : Jvm.MethodName) jdk_38_method_2_code (1 : Nat) (Option.none : Option Jvm.ClassFile.FieldType)).before args0 about1 = true := code_word (m := ⟨11, 0⟩) (meth := k11m0) (c := k11c0) (by decide +kernel) rfl rfl rfl (by decide +kernel)
set_option maxRecDepth 65536 in
theorem w_c2 : (Jvm.Cond.code ({ cls := "java/util/AbstractList", name := "<init>", desc := "()V" } : Jvm.MethodName) jdk_39_method_1_code (1 : Nat) (Option.none : Option Jvm.ClassFile.FieldType)).before args0 about1 = true := code_word (m := ⟨7, 0⟩) (meth := k7m0) (c := k7c0) (by decide +kernel) rfl rfl rfl (by decide +kernel)
set_option maxRecDepth 65536 in
theorem w_c3 : (Jvm.Cond.code ({ cls := "java/util/AbstractCollection", name := "<init>", desc := "()V" } : Jvm.MethodName) jdk_22_method_1_code (1 : Nat) (Option.none : Option Jvm.ClassFile.FieldType)).before args0 about1 = true := code_word (m := ⟨4, 0⟩) (meth := k4m0) (c := k4c0) (by decide +kernel) rfl rfl rfl (by decide +kernel)
set_option maxRecDepth 65536 in
theorem w_c4 : (Jvm.Cond.code ({ cls := "java/lang/Object", name := "<init>", desc := "()V" } : Jvm.MethodName) object_method_1_code (1 : Nat) (Option.none : Option Jvm.ClassFile.FieldType)).before args0 about1 = true := code_word (m := ⟨0, 0⟩) (meth := k0m0) (c := k0c0) (by decide +kernel) rfl rfl rfl (by decide +kernel)
set_option maxRecDepth 65536 in
theorem w_c5 : (Jvm.Cond.code ({ cls := "java/lang/Integer", name := "valueOf", desc := "(I)Ljava/lang/Integer;" } : Jvm.MethodName) jdk_33_method_22_code (1 : Nat) (Option.some (Jvm.ClassFile.FieldType.object "java/lang/Integer"))).before args0 about1 = true := code_word (m := ⟨16, 0⟩) (meth := k16m0) (c := k16c0) (by decide +kernel) rfl rfl rfl (by decide +kernel)
set_option maxRecDepth 65536 in
theorem w_c6 : (Jvm.Cond.code ({ cls := "java/util/ArrayList", name := "add", desc := "(Ljava/lang/Object;)Z" } : Jvm.MethodName) jdk_38_method_25_code (2 : Nat) (Option.some Jvm.ClassFile.FieldType.boolean)).before args0 about1 = true := code_word (m := ⟨11, 4⟩) (meth := k11m4) (c := k11c4) (by decide +kernel) rfl rfl rfl (by decide +kernel)
set_option maxRecDepth 65536 in
theorem w_c7 : (Jvm.Cond.code ({ cls := "java/util/ArrayList", name := "add", desc := "(Ljava/lang/Object;[Ljava/lang/Object;I)V" } : Jvm.MethodName) jdk_38_method_24_code (4 : Nat) (Option.none : Option Jvm.ClassFile.FieldType)).before args0 about1 = true := code_word (m := ⟨11, 3⟩) (meth := k11m3) (c := k11c3) (by decide +kernel) rfl rfl rfl (by decide +kernel)
set_option maxRecDepth 65536 in
theorem w_c8 : (Jvm.Cond.code ({ cls := "java/util/ArrayList", name := "grow", desc := "()[Ljava/lang/Object;" } : Jvm.MethodName) jdk_38_method_7_code (1 : Nat) (Option.some (Jvm.ClassFile.FieldType.array (Jvm.ClassFile.FieldType.object "java/lang/Object")))).before args0 about1 = true := code_word (m := ⟨11, 2⟩) (meth := k11m2) (c := k11c2) (by decide +kernel) rfl rfl rfl (by decide +kernel)
set_option maxRecDepth 65536 in
theorem w_c9 : (Jvm.Cond.code ({ cls := "java/util/ArrayList", name := "grow", desc := "(I)[Ljava/lang/Object;" } : Jvm.MethodName) jdk_38_method_6_code (4 : Nat) (Option.some (Jvm.ClassFile.FieldType.array (Jvm.ClassFile.FieldType.object "java/lang/Object")))).before args0 about1 = true := code_word (m := ⟨11, 1⟩) (meth := k11m1) (c := k11c1) (by decide +kernel) rfl rfl rfl (by decide +kernel)
set_option maxRecDepth 65536 in
theorem w_c10 : (Jvm.Cond.code ({ cls := "java/lang/Math", name := "max", desc := "(II)I" } : Jvm.MethodName) jdk_29_method_65_code (2 : Nat) (Option.some Jvm.ClassFile.FieldType.int)).before args0 about1 = true := code_word (m := ⟨18, 1⟩) (meth := k18m1) (c := k18c1) (by decide +kernel) rfl rfl rfl (by decide +kernel)
set_option maxRecDepth 65536 in
theorem w_c11 : (Jvm.Cond.code ({ cls := "com/example/gridsteward/gridsteward/Listing", name := "<init>", desc := "(Ljava/util/List;IJ)V" } : Jvm.MethodName) prog_15_method_1_code (5 : Nat) (Option.none : Option Jvm.ClassFile.FieldType)).before args0 about1 = true := code_word (m := ⟨20, 0⟩) (meth := k20m0) (c := k20c0) (by decide +kernel) rfl rfl rfl (by decide +kernel)
set_option maxRecDepth 65536 in
theorem w_c12 : (Jvm.Cond.code ({ cls := "java/lang/Record", name := "<init>", desc := "()V" } : Jvm.MethodName) jdk_30_method_1_code (1 : Nat) (Option.none : Option Jvm.ClassFile.FieldType)).before args0 about1 = true := code_word (m := ⟨19, 0⟩) (meth := k19m0) (c := k19c0) (by decide +kernel) rfl rfl rfl (by decide +kernel)
set_option maxRecDepth 65536 in
theorem w_c13 : (Jvm.Cond.code ({ cls := "com/example/gridsteward/gridsteward/Listing", name := "pages", desc := "()J" } : Jvm.MethodName) prog_15_method_4_code (1 : Nat) (Option.some Jvm.ClassFile.FieldType.long)).before args0 about1 = true := code_word (m := ⟨20, 1⟩) (meth := k20m1) (c := k20c1) (by decide +kernel) rfl rfl rfl (by decide +kernel)
set_option maxRecDepth 65536 in
theorem w_c14 : (Jvm.Cond.code ({ cls := "java/lang/Math", name := "max", desc := "(JJ)J" } : Jvm.MethodName) jdk_29_method_66_code (4 : Nat) (Option.some Jvm.ClassFile.FieldType.long)).before args0 about1 = true := code_word (m := ⟨18, 2⟩) (meth := k18m2) (c := k18c2) (by decide +kernel) rfl rfl rfl (by decide +kernel)
set_option maxRecDepth 65536 in
theorem w_c15 : (Jvm.Cond.code ({ cls := "java/lang/Integer", name := "<init>", desc := "(I)V" } : Jvm.MethodName) jdk_33_method_23_code (2 : Nat) (Option.none : Option Jvm.ClassFile.FieldType)).before args0 about1 = true := code_word (m := ⟨16, 1⟩) (meth := k16m1) (c := k16c1) (by decide +kernel) rfl rfl rfl (by decide +kernel)
set_option maxRecDepth 65536 in
theorem w_c16 : (Jvm.Cond.code ({ cls := "java/lang/Number", name := "<init>", desc := "()V" } : Jvm.MethodName) jdk_18_method_1_code (1 : Nat) (Option.none : Option Jvm.ClassFile.FieldType)).before args0 about1 = true := code_word (m := ⟨12, 0⟩) (meth := k12m0) (c := k12c0) (by decide +kernel) rfl rfl rfl (by decide +kernel)
def codes1 : List Jvm.Cond := [Jvm.Cond.code x code maxLocals ret, Jvm.Cond.code ({ cls := "java/util/ArrayList", name := "<init>", desc := "()V" } : Jvm.MethodName) jdk_38_method_2_code (1 : Nat) (Option.none : Option Jvm.ClassFile.FieldType), Jvm.Cond.code ({ cls := "java/util/AbstractList", name := "<init>", desc := "()V" } : Jvm.MethodName) jdk_39_method_1_code (1 : Nat) (Option.none : Option Jvm.ClassFile.FieldType), Jvm.Cond.code ({ cls := "java/util/AbstractCollection", name := "<init>", desc := "()V" } : Jvm.MethodName) jdk_22_method_1_code (1 : Nat) (Option.none : Option Jvm.ClassFile.FieldType), Jvm.Cond.code ({ cls := "java/lang/Object", name := "<init>", desc := "()V" } : Jvm.MethodName) object_method_1_code (1 : Nat) (Option.none : Option Jvm.ClassFile.FieldType), Jvm.Cond.code ({ cls := "java/lang/Integer", name := "valueOf", desc := "(I)Ljava/lang/Integer;" } : Jvm.MethodName) jdk_33_method_22_code (1 : Nat) (Option.some (Jvm.ClassFile.FieldType.object "java/lang/Integer")), Jvm.Cond.code ({ cls := "java/util/ArrayList", name := "add", desc := "(Ljava/lang/Object;)Z" } : Jvm.MethodName) jdk_38_method_25_code (2 : Nat) (Option.some Jvm.ClassFile.FieldType.boolean), Jvm.Cond.code ({ cls := "java/util/ArrayList", name := "add", desc := "(Ljava/lang/Object;[Ljava/lang/Object;I)V" } : Jvm.MethodName) jdk_38_method_24_code (4 : Nat) (Option.none : Option Jvm.ClassFile.FieldType), Jvm.Cond.code ({ cls := "java/util/ArrayList", name := "grow", desc := "()[Ljava/lang/Object;" } : Jvm.MethodName) jdk_38_method_7_code (1 : Nat) (Option.some (Jvm.ClassFile.FieldType.array (Jvm.ClassFile.FieldType.object "java/lang/Object"))), Jvm.Cond.code ({ cls := "java/util/ArrayList", name := "grow", desc := "(I)[Ljava/lang/Object;" } : Jvm.MethodName) jdk_38_method_6_code (4 : Nat) (Option.some (Jvm.ClassFile.FieldType.array (Jvm.ClassFile.FieldType.object "java/lang/Object"))), Jvm.Cond.code ({ cls := "java/lang/Math", name := "max", desc := "(II)I" } : Jvm.MethodName) jdk_29_method_65_code (2 : Nat) (Option.some Jvm.ClassFile.FieldType.int), Jvm.Cond.code ({ cls := "com/example/gridsteward/gridsteward/Listing", name := "<init>", desc := "(Ljava/util/List;IJ)V" } : Jvm.MethodName) prog_15_method_1_code (5 : Nat) (Option.none : Option Jvm.ClassFile.FieldType), Jvm.Cond.code ({ cls := "java/lang/Record", name := "<init>", desc := "()V" } : Jvm.MethodName) jdk_30_method_1_code (1 : Nat) (Option.none : Option Jvm.ClassFile.FieldType), Jvm.Cond.code ({ cls := "com/example/gridsteward/gridsteward/Listing", name := "pages", desc := "()J" } : Jvm.MethodName) prog_15_method_4_code (1 : Nat) (Option.some Jvm.ClassFile.FieldType.long), Jvm.Cond.code ({ cls := "java/lang/Math", name := "max", desc := "(JJ)J" } : Jvm.MethodName) jdk_29_method_66_code (4 : Nat) (Option.some Jvm.ClassFile.FieldType.long), Jvm.Cond.code ({ cls := "java/lang/Integer", name := "<init>", desc := "(I)V" } : Jvm.MethodName) jdk_33_method_23_code (2 : Nat) (Option.none : Option Jvm.ClassFile.FieldType), Jvm.Cond.code ({ cls := "java/lang/Number", name := "<init>", desc := "()V" } : Jvm.MethodName) jdk_18_method_1_code (1 : Nat) (Option.none : Option Jvm.ClassFile.FieldType)]
set_option maxRecDepth 65536 in
theorem codes_eq : words1.filter isCode = codes1 := rfl
theorem w_codes : ∀ c ∈ words1.filter isCode, c.before args0 about1 = true := by
  rw [codes_eq]
  intro c hc
  simp only [codes1, List.mem_cons, List.not_mem_nil, or_false] at hc
  rcases hc with rfl | rfl | rfl | rfl | rfl | rfl | rfl | rfl | rfl | rfl | rfl | rfl | rfl | rfl | rfl | rfl | rfl
  · exact w_c0
  · exact w_c1
  · exact w_c2
  · exact w_c3
  · exact w_c4
  · exact w_c5
  · exact w_c6
  · exact w_c7
  · exact w_c8
  · exact w_c9
  · exact w_c10
  · exact w_c11
  · exact w_c12
  · exact w_c13
  · exact w_c14
  · exact w_c15
  · exact w_c16
set_option maxRecDepth 65536 in
theorem w_t1 : (words1.take 24).all (fun c => isCode c || c.before args0 about1) = true := by decide +kernel
set_option maxRecDepth 65536 in
theorem w_t2 : ((words1.drop 24).take 24).all (fun c => isCode c || c.before args0 about1) = true := by decide +kernel
set_option maxRecDepth 65536 in
theorem w_t3 : (((words1.drop 24).drop 24).take 24).all (fun c => isCode c || c.before args0 about1) = true := by decide +kernel
set_option maxRecDepth 65536 in
theorem w_t4 : ((((words1.drop 24).drop 24).drop 24).take 24).all (fun c => isCode c || c.before args0 about1) = true := by decide +kernel
set_option maxRecDepth 65536 in
theorem w_t5 : ((((words1.drop 24).drop 24).drop 24).drop 24).all (fun c => isCode c || c.before args0 about1) = true := by decide +kernel
theorem w_tables : (allAtoms (Jvm.Cond.code x code maxLocals ret :: tables_1)).before args0 about1 = true := by
  rw [allAtoms_all]
  show words1.all (fun c => c.before args0 about1) = true
  refine all_split ?_ w_codes
  rw [← List.take_append_drop 24 words1, List.all_append, w_t1, ← List.take_append_drop 24 (words1.drop 24), List.all_append, w_t2, ← List.take_append_drop 24 ((words1.drop 24).drop 24), List.all_append, w_t3, ← List.take_append_drop 24 (((words1.drop 24).drop 24).drop 24), List.all_append, w_t4, w_t5]
  rfl
set_option maxRecDepth 65536 in
theorem w_rest : rest_1_c.before args0 about1 = true := by decide +kernel
set_option maxRecDepth 65536 in
theorem w_case : (Jvm.Cond.and given_1 narrow_1).before args0 about1 = true := by decide +kernel
theorem w_applies : (headSpec (Jvm.Cond.code x code maxLocals ret :: tables_1) room_1).applies x e0.platform about1 = true :=
  (Spec.applies_iff w_frames).mpr ⟨w_running, w_runnable, w_alone, w_named, w_hears, w_ripe, w_room, w_tables⟩
theorem atStart : AtStart classFile x code maxLocals ret World_1 tables_1 room_1 Calls_1 rest_1 Pre_1 launch0 p0 e0 about1 theMethod args0 below0 :=
  ⟨lists_1, trivial, launch0.admits_env _ _ _, launch0.least_env, fairChoices_fair.cas, fairChoices_fair.clock, w_frames, w_args, w_heap, w_applies, trivial, w_rest, w_case⟩
end start1
theorem witness_1 : WitnessClaimed_1 := ⟨start1.p0, start1.e0, start1.about1, start1.theMethod, start1.args0, start1.below0, start1.atStart⟩
end Jvm.Pilot.@@N@@
