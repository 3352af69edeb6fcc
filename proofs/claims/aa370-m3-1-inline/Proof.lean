import JvmDerived
import JvmDerived.Pilot.@@N@@Statement
import JvmDerived.Pilot.@@N@@Code
set_option linter.unusedVariables false
set_option linter.unusedSimpArgs false
namespace Jvm.Pilot.@@N@@
open Jvm Jvm.ClassFile Sem Op Lib Jvm.Free Jvm.Stand Jvm.LawKit Jvm.RoadKit Bundle Jvm.Pilot.@@N@@.Jvm.D
section Own
variable {p : Program} {l : Launch} {e : Env} {R : Room} {s : State} {m : MethodId} {args : Array Value} {below : List Frame} {meth : Method} {c : Code} {T : State} {locs : List Loc} {cells slots : Nat} {Z : State} {a0 : Array Value} {h : Heap}
theorem wd (hw : ∀ d ∈ tables_1, d.before a0 Z = true) (k : Nat) {d : Jvm.Cond} (q : tables_1[k]? = some d) : d.before a0 Z = true := hw d (List.mem_of_getElem? q)
theorem old_sz {n0 : Nat} (O : Old Z n0 h) : n0 ≤ h.size := O.1 ▸ O.2.1
/-- what is left to show from the state t on -/
def Run (p : Program) (e : Env) (below : List Frame) (A : Outcome → State → Prop) (t : State) : Prop := ∃ u o, Steps p.tables e below t u ∧ u.status = .running ∧ Ended u below o ∧ A o u
theorem go {A : Outcome → State → Prop} {t t' : State} (st : ∀ u, Steps p.tables e below t' u → Steps p.tables e below t u) (k : Run p e below A t') : Run p e below A t := by
  obtain ⟨u, o, k1, k2⟩ := k
  exact ⟨u, o, st u k1, k2⟩
theorem goT {A : Outcome → State → Prop} {t t' : State} (st : Steps p.tables e below t t') (k : Run p e below A t') : Run p e below A t := by
  obtain ⟨u, o, k1, k2⟩ := k
  exact ⟨u, o, st.trans k1, k2⟩
theorem goTsw {A : Outcome → State → Prop} (h : At T m c below) (hx : p.tables.exec = Jvm.exec) {pc pc' len : Nat} {Ls : Array Slot} {rest : List Value} {i : Int32} {dflt low high o : Int} {offs : Array Int} (hd : decode c.code pc = .ok (.tableswitch dflt low high offs, len)) (hin : ¬ (i.toInt < low ∨ i.toInt > high)) (hoff : offs[(i.toInt - low).toNat]? = some o) (ho : 0 ≤ (pc : Int) + o) (hp : ((pc : Int) + o).toNat = pc')
    (k : Run p e below A (T.setTop (mkF m pc' Ls rest))) : Run p e below A (T.setTop (mkF m pc Ls (.int i :: rest))) := go (fun _ => XS.tswIn (g := mkF m pc Ls (.int i :: rest)) h hx rfl (pc0 := pc) rfl hd rfl hin hoff ho hp) k
theorem goTswD {A : Outcome → State → Prop} (h : At T m c below) (hx : p.tables.exec = Jvm.exec) {pc pc' len : Nat} {Ls : Array Slot} {rest : List Value} {i : Int32} {dflt low high : Int} {offs : Array Int} (hd : decode c.code pc = .ok (.tableswitch dflt low high offs, len)) (hout : i.toInt < low ∨ i.toInt > high) (ho : 0 ≤ (pc : Int) + dflt) (hp : ((pc : Int) + dflt).toNat = pc')
    (k : Run p e below A (T.setTop (mkF m pc' Ls rest))) : Run p e below A (T.setTop (mkF m pc Ls (.int i :: rest))) := go (fun _ => XS.tswOut (g := mkF m pc Ls (.int i :: rest)) h hx rfl (pc0 := pc) rfl hd rfl hout ho hp) k
def Ends (s : State) (Q : Option Value → Heap → List Loc → Prop) (k n : Nat) (o : Outcome) (U : State) : Prop := ∃ v L, o = .returned v ∧ Q v U.heap L ∧ FrameEnd s o U L k n
def Meets (l : Launch) (y : MethodName) (bytes : ByteArray) (maxL : Nat) (ret : Option FieldType) (ws : List Jvm.Cond) (rm : Room) (Z : State) (as' : Array Value) (h0 : Heap) (Q : Option Value → Heap → List Loc → Prop) (k n : Nat) : Prop :=
  MetFree l y (head1 (Jvm.Cond.code y bytes maxL ret :: ws) rm) (fun a U => a = as' ∧ Z.Warmed39 U.vm ∧ U.heap = h0) (fun _ _ _ _ _ => True) (fun _ U o U' => ∃ v L, o = .returned v ∧ Q v U'.heap L ∧ FrameEnd U o U' L k n)
theorem enter {y : MethodName} {bytes : ByteArray} {maxL : Nat} {ret : Option FieldType} {ws : List Jvm.Cond} {rm : Room} {as' : Array Value} {h0 : Heap} {Q : Option Value → Heap → List Loc → Prop} {k n : Nat} {Ls : Array Slot} (pf : plainFor y = true) (ef : ∀ m, entryFrame m as' maxL = mkF m 0 Ls [])
    (body : ∀ (p : Program) (e : Env) (s : State) (m : MethodId) (below : List Frame) (meth : Method) (c : Code) (T : State), p.tables.exec = Jvm.exec → c.code = bytes → c.maxLocals = maxL → s.vm.findClass y.cls = some m.cls → meth.name = y.name → meth.sig.returnType = ret → meth.locks = false → Z.Warmed39 s.vm → Stand p l e rm s m as' below meth c T [] 0 0 → T.heap = h0 → Run p e below (Ends s Q k n) (T.setTop (mkF m 0 Ls []))) :
    Meets l y bytes maxL ret ws rm Z as' h0 Q k n := by
  refine MetFree.of_bodySF pf hisR ?_
  intro p e s m args below meth c s₁ Bd hml0 hP hK
  obtain ⟨rfl, hZ, hh⟩ := hP
  obtain ⟨u, o, k1, k2, k3, k4⟩ := body p e s m below meth c s₁ Bd.exec Bd.bytes hml0 (findClass_of_methodNamed Bd.named) (name_of_methodNamed Bd.named Bd.method).1 Bd.returns (BodyLoose.notSynchronized Bd) hZ (Stand.of_body Bd) (by rw [← hh, Bd.state]; rfl)
  exact ⟨u, o, castTop (ef m) k1, k2, k3, k4⟩
theorem smono (X : Stand p l e R s m args below meth c T locs cells slots) {k n : Nat} (hk : cells ≤ k) (hn : slots ≤ n) : Stand p l e R s m args below meth c T locs k n :=
  ⟨X.admits, X.cas, X.clock, X.frames, X.room, X.hears, X.method, X.code, X.here, X.tail, X.warmed, X.limits, X.bytes, X.same.mono hk hn⟩
theorem retI (X : Stand p l e R s m args below meth c T locs cells slots) (hx : p.tables.exec = Jvm.exec) {pc : Nat} {Ls : Array Slot} {z : Int32} {rest : List Value} (hret : meth.sig.returnType = some .int) (hd : decode c.code pc = .ok (.ireturn, 1)) {fs : List Frame}
    (hl : ∀ (f : JFrame) (acts : List Action), f.method = m → f.locked = none → f.entered = [] → (doReturn e (T.setTop f) acts (some (.int z))).1 = T.setFrames fs) : Steps p.tables e below (T.setTop (mkF m pc Ls (.int z :: rest))) (T.setFrames fs) :=
  retOut X hx hret rfl (Or.inl ⟨rfl, Or.inl rfl, _, rfl⟩) hd hl
theorem endI (X : Stand p l e R s m args below meth c T locs cells slots) (hx : p.tables.exec = Jvm.exec) (hlk : meth.locks = false) {Q : Option Value → Heap → List Loc → Prop} {k n pc : Nat} {Ls : Array Slot} {z : Int32} {rest : List Value} (hret : meth.sig.returnType = some .int) (hd : decode c.code pc = .ok (.ireturn, 1)) (hq : Q (some (.int z)) T.heap locs) (hk : cells ≤ k) (hn : slots ≤ n) :
    Run p e below (Ends s Q k n) (T.setTop (mkF m pc Ls (.int z :: rest))) := by
  obtain ⟨fs, hr, hrun, hended, hW, hsame⟩ := X.leave (v := some (.int z)) (fun h => by rw [hret] at h; cases h) hlk
  exact ⟨_, _, retI X hx hret hd hr, hrun, hended, _, _, rfl, hq, ⟨_, rfl⟩, hW, hsame.mono hk hn⟩
theorem endN (X : Stand p l e R s m args below meth c T locs cells slots) (hx : p.tables.exec = Jvm.exec) (hlk : meth.locks = false) {Q : Option Value → Heap → List Loc → Prop} {k n pc : Nat} {Ls : Array Slot} {z : Int32} {rest : List Value} {t : FieldType} (hret : meth.sig.returnType = some t) (ht : t = .boolean ∨ t = .byte ∨ t = .char ∨ t = .short) (hd : decode c.code pc = .ok (.ireturn, 1)) (hq : Q (some (.int (nar t z))) T.heap locs) (hk : cells ≤ k) (hn : slots ≤ n) :
    Run p e below (Ends s Q k n) (T.setTop (mkF m pc Ls (.int z :: rest))) := by
  obtain ⟨fs, hr, hrun, hended, hW, hsame⟩ := X.leave (v := some (.int (nar t z))) (fun h => by rw [hret] at h; cases h) hlk
  exact ⟨_, _, retN X hx hret ht hd hr, hrun, hended, _, _, rfl, hq, ⟨_, rfl⟩, hW, hsame.mono hk hn⟩
theorem endA (X : Stand p l e R s m args below meth c T locs cells slots) (hx : p.tables.exec = Jvm.exec) (hlk : meth.locks = false) {Q : Option Value → Heap → List Loc → Prop} {k n pc : Nat} {Ls : Array Slot} {w : Value} {rest : List Value} {t : FieldType} (hret : meth.sig.returnType = some t) (ht : t.isReference = true) (hv : w.isRef = true) (hd : decode c.code pc = .ok (.areturn, 1)) (hq : Q (some w) T.heap locs) (hk : cells ≤ k) (hn : slots ≤ n) :
    Run p e below (Ends s Q k n) (T.setTop (mkF m pc Ls (w :: rest))) := by
  obtain ⟨fs, hr, hrun, hended, hW, hsame⟩ := X.leave (v := some w) (fun h => by rw [hret] at h; cases h) hlk
  have hn' : narrow t w = w := by cases w <;> first | (cases hv; done) | (cases t <;> first | rfl | (cases ht; done))
  exact ⟨_, _, retOut X hx hret hn' (Or.inr (Or.inr (Or.inr (Or.inr ⟨rfl, ht, hv⟩)))) hd hr, hrun, hended, _, _, rfl, hq, ⟨_, rfl⟩, hW, hsame.mono hk hn⟩
theorem endJ (X : Stand p l e R s m args below meth c T locs cells slots) (hx : p.tables.exec = Jvm.exec) (hlk : meth.locks = false) {Q : Option Value → Heap → List Loc → Prop} {k n pc : Nat} {Ls : Array Slot} {z : Int64} {rest : List Value} (hret : meth.sig.returnType = some .long) (hd : decode c.code pc = .ok (.lreturn, 1)) (hq : Q (some (.long z)) T.heap locs) (hk : cells ≤ k) (hn : slots ≤ n) :
    Run p e below (Ends s Q k n) (T.setTop (mkF m pc Ls (.long z :: rest))) := by
  obtain ⟨fs, hr, hrun, hended, hW, hsame⟩ := X.leave (v := some (.long z)) (fun h => by rw [hret] at h; cases h) hlk
  exact ⟨_, _, retOut X hx hret rfl (Or.inr (Or.inl ⟨rfl, rfl, _, rfl⟩)) hd hr, hrun, hended, _, _, rfl, hq, ⟨_, rfl⟩, hW, hsame.mono hk hn⟩
theorem endD (X : Stand p l e R s m args below meth c T locs cells slots) (hx : p.tables.exec = Jvm.exec) (hlk : meth.locks = false) {Q : Option Value → Heap → List Loc → Prop} {k n pc : Nat} {Ls : Array Slot} {z : UInt64} {rest : List Value} (hret : meth.sig.returnType = some .double) (hd : decode c.code pc = .ok (.dreturn, 1)) (hq : Q (some (.double z)) T.heap locs) (hk : cells ≤ k) (hn : slots ≤ n) :
    Run p e below (Ends s Q k n) (T.setTop (mkF m pc Ls (.double z :: rest))) := by
  obtain ⟨fs, hr, hrun, hended, hW, hsame⟩ := X.leave (v := some (.double z)) (fun h => by rw [hret] at h; cases h) hlk
  exact ⟨_, _, retOut X hx hret rfl (Or.inr (Or.inr (Or.inl ⟨rfl, rfl, _, rfl⟩))) hd hr, hrun, hended, _, _, rfl, hq, ⟨_, rfl⟩, hW, hsame.mono hk hn⟩
theorem endV (X : Stand p l e R s m args below meth c T locs cells slots) (hx : p.tables.exec = Jvm.exec) (hlk : meth.locks = false) {Q : Option Value → Heap → List Loc → Prop} {k n pc : Nat} {Ls : Array Slot} (hret : meth.sig.returnType = none) (hd : decode c.code pc = .ok (.return_, 1)) (hq : Q none T.heap locs) (hk : cells ≤ k) (hn : slots ≤ n) :
    Run p e below (Ends s Q k n) (T.setTop (mkF m pc Ls [])) := by
  obtain ⟨fs, hr, hrun, hended, hW, hsame⟩ := X.leave (v := none) (fun _ => rfl) hlk
  exact ⟨_, _, X.returnOut hx hret hd hr, hrun, hended, _, _, rfl, hq, ⟨_, rfl⟩, hW, hsame.mono hk hn⟩
abbrev Pay (l : Launch) (R : Room) (p : Program) (e : Env) (below : List Frame) (s : State) (args : Array Value) (y : MethodName) (len W : Nat) (as' : Array Value) (h : Heap) (Q : Option Value → Heap → List Loc → Prop) (rc rs : Nat) : Prop :=
  Back l R p e below s args y len W (fun A a => a = as' ∧ A.U.heap = h ∧ A.cells + rc ≤ R.cells ∧ A.slots + rs ≤ R.slots) (fun A _ v B => ∃ L, Q v B.U.heap L ∧ B.locs = A.locs ++ L ∧ B.cells = A.cells + rc ∧ B.slots = A.slots + rs)
theorem Pay.more {y : MethodName} {len W rc rs rs' : Nat} {as' : Array Value} {Q : Option Value → Heap → List Loc → Prop} (hK : Pay l R p e below s args y len W as' h Q rc rs) (q : rs ≤ rs') : Pay l R p e below s args y len W as' h Q rc rs' := fun m meth c A g ig mk a X hg hsz hd hW hn hp => by
  obtain ⟨v, B, X', ⟨L, q1, q2, q3, q4⟩, st⟩ := hK m meth c A g ig mk a X hg hsz hd hW hn ⟨hp.1, hp.2.1, hp.2.2.1, Nat.le_trans (Nat.add_le_add_left q _) hp.2.2.2⟩
  exact ⟨v, (B.U, B.locs, B.cells, A.slots + rs'), smono X' (Nat.le_refl _) (by rw [q4]; exact Nat.add_le_add_left q _), ⟨L, q1, q2, q3, rfl⟩, st⟩
theorem narR {v : Value} {C : String} (h : v.isRef = true) : narrow (.object C) v = v := by cases v <;> first | rfl | (cases h; done)
theorem catR {v : Value} (h : v.isRef = true) : v.category = 1 := by cases v <;> first | rfl | (cases h; done)
theorem fitR {v : Value} {C : String} (h : v.isRef = true) : fits (.object C) v = true := by cases v <;> first | rfl | (cases h; done)
theorem callSt (X : Stand p l e R s m args below meth c T locs cells slots) (hx : p.tables.exec = Jvm.exec) (hZ : Z.Warmed39 s.vm) {own : String} {index : Nat} {y : MethodName} {bytes : ByteArray} {maxL : Nat} {ret : Option FieldType} {rm : Room} {Q : Option Value → Heap → List Loc → Prop} (hown : s.vm.findClass own = some m.cls)
    (w1 : (Jvm.Cond.methodLink own index y).before a0 Z = true) (w2 : (Jvm.Cond.static y).before a0 Z = true) (w3 : (Jvm.Cond.initialized y.cls).before a0 Z = true) (w4 : (Jvm.Cond.code y bytes maxL ret).before a0 Z = true) (hy : y.cls ≠ "java/lang/invoke/MethodHandle" ∧ y.cls ≠ "java/lang/invoke/VarHandle") (eT : T.heap = h) {argsL rest : List Value}
    (hM : Meets l y bytes maxL ret [] rm Z argsL.toArray h Q rm.cells rm.slots) {W : Nat} (hf : rm.frames + 1 ≤ R.frames) (hl : W + (maxL + 11) + rm.locals ≤ R.locals) (hc : cells + rm.cells ≤ R.cells) (hn : slots + rm.slots ≤ R.slots)
    {pc : Nat} {Ls : Array Slot} {st : List Value} (hsize : Ls.size = c.maxLocals) (hlen : ∀ sig, parseMethodDescriptor y.desc = some sig → argsL.length = sig.parameters.length) (hst : st = argsL.reverse ++ rest) (hW : (rest.map fun v => v.category).sum ≤ W) (hd : decode c.code pc = .ok (.invokestatic index, 3)) {A : Outcome → State → Prop}
    (kk : ∀ (v : Option Value) (T' : State) (L : List Loc) (h' : Heap), Stand p l e R s m args below meth c T' (locs ++ L) (cells + rm.cells) (slots + rm.slots) → T'.heap = h' → Q v h' L → Run p e below A (T'.setTop (mkF m (pc + 3) Ls (v.toList ++ rest)))) : Run p e below A (T.setTop (mkF m pc Ls st)) := by
  obtain ⟨v, _, ⟨T18, L18, k18, n18⟩, -, X18, ⟨Lc18, hQ18, l18, y18, z18⟩, st18⟩ := Jvm.LawKit.callS X hx hown (mvT hZ w1) (mvT hZ w2) (mvT hZ w3) (mvT hZ w4) hy (backOf (W := W) hM hZ w4 w3 hf hl) (g := mkF m pc Ls st) rfl hsize (argsL := argsL) (rest := rest) hlen hst (by show 2 * 0 + _ ≤ _; omega) hd (fun _ _ => ⟨rfl, eT, hc, hn⟩)
  dsimp only [Pt.U, Pt.locs, Pt.cells, Pt.slots] at X18 l18 y18 z18 st18 hQ18
  subst l18 y18 z18
  exact go st18 (kk v _ _ _ X18 rfl hQ18)
theorem callVi (X : Stand p l e R s m args below meth c T locs cells slots) (hx : p.tables.exec = Jvm.exec) (hZ : Z.Warmed39 s.vm) {own C : String} {index : Nat} {y z : MethodName} {bytes : ByteArray} {maxL : Nat} {ret : Option FieldType} {rm : Room} {Q : Option Value → Heap → List Loc → Prop} (hown : s.vm.findClass own = some m.cls)
    (w1 : (Jvm.Cond.methodLink own index y).before a0 Z = true) (w2 : (Jvm.Cond.declares y).before a0 Z = true) (nf : NotFace s y) (w5 : (Jvm.Cond.selects C y z).before a0 Z = true) (w6 : (Jvm.Cond.instanceMethod z).before a0 Z = true) (w4 : (Jvm.Cond.code z bytes maxL ret).before a0 Z = true) (w3 : (Jvm.Cond.initialized z.cls).before a0 Z = true) (hy : y.cls ≠ "java/lang/invoke/MethodHandle" ∧ y.cls ≠ "java/lang/invoke/VarHandle") (eT : T.heap = h) {a : Addr} (E : Exa Z h a C) {argsL rest : List Value}
    (hM : Meets l z bytes maxL ret [] rm Z (.ref a :: argsL).toArray h Q rm.cells rm.slots) {W : Nat} (hf : rm.frames + 1 ≤ R.frames) (hl : W + (maxL + 11) + rm.locals ≤ R.locals) (hc : cells + rm.cells ≤ R.cells) (hn : slots + rm.slots ≤ R.slots)
    {pc : Nat} {Ls : Array Slot} {st : List Value} (hsize : Ls.size = c.maxLocals) (hlen : ∀ sig, parseMethodDescriptor y.desc = some sig → argsL.length = sig.parameters.length) (hst : st = argsL.reverse ++ .ref a :: rest) (hW : (rest.map fun v => v.category).sum ≤ W) (hd : decode c.code pc = .ok (.invokevirtual index, 3)) {A : Outcome → State → Prop}
    (kk : ∀ (v : Option Value) (T' : State) (L : List Loc) (h' : Heap), Stand p l e R s m args below meth c T' (locs ++ L) (cells + rm.cells) (slots + rm.slots) → T'.heap = h' → Q v h' L → Run p e below A (T'.setTop (mkF m (pc + 3) Ls (v.toList ++ rest)))) : Run p e below A (T.setTop (mkF m pc Ls st)) := by
  obtain ⟨cq, kq, qa, qb, qc⟩ := isOf hZ eT E
  obtain ⟨v, _, ⟨T18, L18, k18, n18⟩, -, X18, ⟨Lc18, hQ18, l18, y18, z18⟩, st18⟩ := X.virtualBack hx (y := y) (z := z) hown (mvT hZ w1) (mvT hZ w2) nf (mvT hZ w5) (mvT hZ w6) hy (backOf (W := W) hM hZ w4 w3 hf hl) qa qc (g := mkF m pc Ls st) rfl hsize (Steps.refl _) (argsL := argsL) (rest := rest) hlen hst (by show 2 * 0 + _ ≤ _; omega) hd (fun _ _ => ⟨rfl, eT, hc, hn⟩)
  dsimp only [Pt.U, Pt.locs, Pt.cells, Pt.slots] at X18 l18 y18 z18 st18 hQ18
  subst l18 y18 z18
  exact goT st18 (kk v _ _ _ X18 rfl hQ18)
theorem callSp (X : Stand p l e R s m args below meth c T locs cells slots) (hx : p.tables.exec = Jvm.exec) (hZ : Z.Warmed39 s.vm) {own : String} {index : Nat} {y : MethodName} (hy1 : y.name = "<init>") {bytes : ByteArray} {maxL : Nat} {rm : Room} {Q : Option Value → Heap → List Loc → Prop} (hown : s.vm.findClass own = some m.cls)
    (w1 : (Jvm.Cond.methodLink own index y).before a0 Z = true) (w6 : (Jvm.Cond.instanceMethod y).before a0 Z = true) (w4 : (Jvm.Cond.code y bytes maxL none).before a0 Z = true) (w3 : (Jvm.Cond.initialized y.cls).before a0 Z = true) (hy : y.cls ≠ "java/lang/invoke/MethodHandle" ∧ y.cls ≠ "java/lang/invoke/VarHandle") (eT : T.heap = h) {a : Addr} {argsL rest : List Value}
    (hM : Meets l y bytes maxL none [] rm Z (.ref a :: argsL).toArray h Q rm.cells rm.slots) {W : Nat} (hf : rm.frames + 1 ≤ R.frames) (hl : W + (maxL + 11) + rm.locals ≤ R.locals) (hc : cells + rm.cells ≤ R.cells) (hn : slots + rm.slots ≤ R.slots)
    {pc : Nat} {Ls : Array Slot} {st : List Value} (hsize : Ls.size = c.maxLocals) (hlen : ∀ sig, parseMethodDescriptor y.desc = some sig → argsL.length = sig.parameters.length) (hst : st = argsL.reverse ++ .ref a :: rest) (hW : (rest.map fun v => v.category).sum ≤ W) (hd : decode c.code pc = .ok (.invokespecial index, 3)) {A : Outcome → State → Prop}
    (kk : ∀ (v : Option Value) (T' : State) (L : List Loc) (h' : Heap), Stand p l e R s m args below meth c T' (locs ++ L) (cells + rm.cells) (slots + rm.slots) → T'.heap = h' → Q v h' L → Run p e below A (T'.setTop (mkF m (pc + 3) Ls (v.toList ++ rest)))) : Run p e below A (T.setTop (mkF m pc Ls st)) := by
  obtain ⟨v, _, ⟨T18, L18, k18, n18⟩, -, X18, ⟨Lc18, hQ18, l18, y18, z18⟩, st18⟩ := X.specialBack hx (y := y) hy1 hown (mvT hZ w1) (mvT hZ w6) (mvT hZ w4) hy (backOf (W := W) hM hZ w4 w3 hf hl) (g := mkF m pc Ls st) rfl hsize (Steps.refl _) (a := a) (argsL := argsL) (rest := rest) hlen hst (by show 2 * 0 + _ ≤ _; omega) hd (fun _ _ => ⟨rfl, eT, hc, hn⟩)
  dsimp only [Pt.U, Pt.locs, Pt.cells, Pt.slots] at X18 l18 y18 z18 st18 hQ18
  subst l18 y18 z18
  exact goT st18 (kk v _ _ _ X18 rfl hQ18)
theorem callSpN (X : Stand p l e R s m args below meth c T locs cells slots) (hx : p.tables.exec = Jvm.exec) (hZ : Z.Warmed39 s.vm) {own host : String} {index : Nat} {y : MethodName} (hy1 : y.name = "<init>") {bytes : ByteArray} {maxL : Nat} {rm : Room} {Q : Option Value → Heap → List Loc → Prop} (hown : s.vm.findClass own = some m.cls)
    (w1 : (Jvm.Cond.methodLinkNest own index y host).before a0 Z = true) (w6 : (Jvm.Cond.instanceMethod y).before a0 Z = true) (w4 : (Jvm.Cond.code y bytes maxL none).before a0 Z = true) (w3 : (Jvm.Cond.initialized y.cls).before a0 Z = true) (hy : y.cls ≠ "java/lang/invoke/MethodHandle" ∧ y.cls ≠ "java/lang/invoke/VarHandle") (eT : T.heap = h) {a : Addr} {argsL rest : List Value}
    (hM : Meets l y bytes maxL none [] rm Z (.ref a :: argsL).toArray h Q rm.cells rm.slots) {W : Nat} (hf : rm.frames + 1 ≤ R.frames) (hl : W + (maxL + 11) + rm.locals ≤ R.locals) (hc : cells + rm.cells ≤ R.cells) (hn : slots + rm.slots ≤ R.slots)
    {pc : Nat} {Ls : Array Slot} {st : List Value} (hsize : Ls.size = c.maxLocals) (hlen : ∀ sig, parseMethodDescriptor y.desc = some sig → argsL.length = sig.parameters.length) (hst : st = argsL.reverse ++ .ref a :: rest) (hW : (rest.map fun v => v.category).sum ≤ W) (hd : decode c.code pc = .ok (.invokespecial index, 3)) {A : Outcome → State → Prop}
    (kk : ∀ (v : Option Value) (T' : State) (L : List Loc) (h' : Heap), Stand p l e R s m args below meth c T' (locs ++ L) (cells + rm.cells) (slots + rm.slots) → T'.heap = h' → Q v h' L → Run p e below A (T'.setTop (mkF m (pc + 3) Ls (v.toList ++ rest)))) : Run p e below A (T.setTop (mkF m pc Ls st)) := by
  obtain ⟨v, _, ⟨T18, L18, k18, n18⟩, -, X18, ⟨Lc18, hQ18, l18, y18, z18⟩, st18⟩ := X.specialBackNest hx (y := y) hy1 hown (Cond.methodLinkNest_wide hZ w1 :) (mvT hZ w6) (mvT hZ w4) hy (backOf (W := W) hM hZ w4 w3 hf hl) (g := mkF m pc Ls st) rfl hsize (Steps.refl _) (a := a) (argsL := argsL) (rest := rest) hlen hst (by show 2 * 0 + _ ≤ _; omega) hd (fun _ _ => ⟨rfl, eT, hc, hn⟩)
  dsimp only [Pt.U, Pt.locs, Pt.cells, Pt.slots] at X18 l18 y18 z18 st18 hQ18
  subst l18 y18 z18
  exact goT st18 (kk v _ _ _ X18 rfl hQ18)
theorem callPr (X : Stand p l e R s m args below meth c T locs cells slots) (hx : p.tables.exec = Jvm.exec) (hZ : Z.Warmed39 s.vm) {own C : String} {index : Nat} {y : MethodName} {bytes : ByteArray} {maxL : Nat} {ret : Option FieldType} {rm : Room} {Q : Option Value → Heap → List Loc → Prop} (hown : s.vm.findClass own = some m.cls)
    (w1 : (Jvm.Cond.methodLink own index y).before a0 Z = true) (w2 : (Jvm.Cond.privateMethod y).before a0 Z = true) (w5 : (Jvm.Cond.selects y.cls y y).before a0 Z = true) (w6 : (Jvm.Cond.instanceMethod y).before a0 Z = true) (w4 : (Jvm.Cond.code y bytes maxL ret).before a0 Z = true) (w3 : (Jvm.Cond.initialized y.cls).before a0 Z = true) (hy : y.cls ≠ "java/lang/invoke/MethodHandle" ∧ y.cls ≠ "java/lang/invoke/VarHandle") (eT : T.heap = h) {a : Addr} (E : Exa Z h a C) {argsL rest : List Value}
    (hM : Meets l y bytes maxL ret [] rm Z (.ref a :: argsL).toArray h Q rm.cells rm.slots) {W : Nat} (hf : rm.frames + 1 ≤ R.frames) (hl : W + (maxL + 11) + rm.locals ≤ R.locals) (hc : cells + rm.cells ≤ R.cells) (hn : slots + rm.slots ≤ R.slots)
    {pc : Nat} {Ls : Array Slot} {st : List Value} (hsize : Ls.size = c.maxLocals) (hlen : ∀ sig, parseMethodDescriptor y.desc = some sig → argsL.length = sig.parameters.length) (hst : st = argsL.reverse ++ .ref a :: rest) (hW : (rest.map fun v => v.category).sum ≤ W) (hd : decode c.code pc = .ok (.invokevirtual index, 3)) {A : Outcome → State → Prop}
    (kk : ∀ (v : Option Value) (T' : State) (L : List Loc) (h' : Heap), Stand p l e R s m args below meth c T' (locs ++ L) (cells + rm.cells) (slots + rm.slots) → T'.heap = h' → Q v h' L → Run p e below A (T'.setTop (mkF m (pc + 3) Ls (v.toList ++ rest)))) : Run p e below A (T.setTop (mkF m pc Ls st)) := by
  obtain ⟨cl, hcl, hob⟩ := Exa.cell E
  obtain ⟨v, _, ⟨T18, L18, k18, n18⟩, -, X18, ⟨Lc18, hQ18, l18, y18, z18⟩, st18⟩ := X.privateBack hx (y := y) hown (mvT hZ w1) (mvT hZ w6) (mvT hZ w5) (Cond.privateMethod_at (mvP hZ w2 (args := #[]))) (mvT hZ w4) hy (backOf (W := W) hM hZ w4 w3 hf hl) (g := mkF m pc Ls st) rfl hsize (Steps.refl _) (a := a) (by rw [eT]; exact hcl) hob (argsL := argsL) (rest := rest) hlen hst (by show 2 * 0 + _ ≤ _; omega) hd (fun _ _ => ⟨rfl, eT, hc, hn⟩)
  dsimp only [Pt.U, Pt.locs, Pt.cells, Pt.slots] at X18 l18 y18 z18 st18 hQ18
  subst l18 y18 z18
  exact goT st18 (kk v _ _ _ X18 rfl hQ18)
theorem callIf (X : Stand p l e R s m args below meth c T locs cells slots) (hx : p.tables.exec = Jvm.exec) (hZ : Z.Warmed39 s.vm) {own C : String} {index count : Nat} {y z : MethodName} {bytes : ByteArray} {maxL : Nat} {ret : Option FieldType} {rm : Room} {Q : Option Value → Heap → List Loc → Prop} (hown : s.vm.findClass own = some m.cls)
    (w1 : (Jvm.Cond.methodLink own index y).before a0 Z = true) (w2 : (Jvm.Cond.declares y).before a0 Z = true) (w7 : (Jvm.Cond.interfaceMethod y.cls y.cls y.name y.desc).before a0 Z = true) (k7 : ((Jvm.Cond.interfaceMethod y.cls y.cls y.name y.desc).onTables && (Jvm.Cond.interfaceMethod y.cls y.cls y.name y.desc).keepsFace) = true) (w5 : (Jvm.Cond.selects C y z).before a0 Z = true) (w6 : (Jvm.Cond.instanceMethod z).before a0 Z = true) (w8 : (Jvm.Cond.publicMethod z).before a0 Z = true) (w9 : (Jvm.Cond.unhidden C y.name y.desc).before a0 Z = true) (w10 : (Jvm.Cond.castable C y.cls).before a0 Z = true)
    (w4 : (Jvm.Cond.code z bytes maxL ret).before a0 Z = true) (w3 : (Jvm.Cond.initialized z.cls).before a0 Z = true) (hy : y.cls ≠ "java/lang/invoke/MethodHandle" ∧ y.cls ≠ "java/lang/invoke/VarHandle") (eT : T.heap = h) {a : Addr} (E : Exa Z h a C) {argsL rest : List Value}
    (hM : Meets l z bytes maxL ret [] rm Z (.ref a :: argsL).toArray h Q rm.cells rm.slots) {W : Nat} (hf : rm.frames + 1 ≤ R.frames) (hl : W + (maxL + 11) + rm.locals ≤ R.locals) (hc : cells + rm.cells ≤ R.cells) (hn : slots + rm.slots ≤ R.slots)
    {pc : Nat} {Ls : Array Slot} {st : List Value} (hsize : Ls.size = c.maxLocals) (hlen : ∀ sig, parseMethodDescriptor y.desc = some sig → argsL.length = sig.parameters.length) (hst : st = argsL.reverse ++ .ref a :: rest) (hW : (rest.map fun v => v.category).sum ≤ W) (hd : decode c.code pc = .ok (.invokeinterface index count, 5)) {A : Outcome → State → Prop}
    (kk : ∀ (v : Option Value) (T' : State) (L : List Loc) (h' : Heap), Stand p l e R s m args below meth c T' (locs ++ L) (cells + rm.cells) (slots + rm.slots) → T'.heap = h' → Q v h' L → Run p e below A (T'.setTop (mkF m (pc + 5) Ls (v.toList ++ rest)))) : Run p e below A (T.setTop (mkF m pc Ls st)) := by
  obtain ⟨cq, kq, qa, qb, qc⟩ := isOf hZ eT E
  obtain ⟨v, _, ⟨T18, L18, k18, n18⟩, -, X18, ⟨Lc18, hQ18, l18, y18, z18⟩, st18⟩ := X.interfaceBack hx (xi := y) (y := z) hown (mvT hZ w1) (mvT hZ w2) (mvT hZ w7 k7) (mvT hZ w5) (mvT hZ w6) (mvT hZ w8) (mvT hZ w9) (mvT hZ w10) hy (backOf (W := W) hM hZ w4 w3 hf hl) qa qb qc (g := mkF m pc Ls st) rfl hsize (Steps.refl _) (argsL := argsL) (rest := rest) hlen hst (by show 2 * 0 + _ ≤ _; omega) hd (fun _ _ => ⟨rfl, eT, hc, hn⟩)
  dsimp only [Pt.U, Pt.locs, Pt.cells, Pt.slots] at X18 l18 y18 z18 st18 hQ18
  subst l18 y18 z18
  exact goT st18 (kk v _ _ _ X18 rfl hQ18)
theorem callViK (X : Stand p l e R s m args below meth c T locs cells slots) (hx : p.tables.exec = Jvm.exec) (hZ : Z.Warmed39 s.vm) {own C : String} {index : Nat} {y z : MethodName} {Q : Option Value → Heap → List Loc → Prop} (hown : s.vm.findClass own = some m.cls)
    (w1 : (Jvm.Cond.methodLink own index y).before a0 Z = true) (w2 : (Jvm.Cond.declares y).before a0 Z = true) (nf : NotFace s y) (w5 : (Jvm.Cond.selects C y z).before a0 Z = true) (w6 : (Jvm.Cond.instanceMethod z).before a0 Z = true) (hy : y.cls ≠ "java/lang/invoke/MethodHandle" ∧ y.cls ≠ "java/lang/invoke/VarHandle") (eT : T.heap = h) {a : Addr} (E : Exa Z h a C) {argsL rest : List Value}
    {rc rs W : Nat} (hK : Pay l R p e below s args z 3 W (.ref a :: argsL).toArray h Q rc rs) (hc : cells + rc ≤ R.cells) (hn : slots + rs ≤ R.slots)
    {pc : Nat} {Ls : Array Slot} {st : List Value} (hsize : Ls.size = c.maxLocals) (hlen : ∀ sig, parseMethodDescriptor y.desc = some sig → argsL.length = sig.parameters.length) (hst : st = argsL.reverse ++ .ref a :: rest) (hW : (rest.map fun v => v.category).sum ≤ W) (hd : decode c.code pc = .ok (.invokevirtual index, 3)) {A : Outcome → State → Prop}
    (kk : ∀ (v : Option Value) (T' : State) (L : List Loc) (h' : Heap), Stand p l e R s m args below meth c T' (locs ++ L) (cells + rc) (slots + rs) → T'.heap = h' → Q v h' L → Run p e below A (T'.setTop (mkF m (pc + 3) Ls (v.toList ++ rest)))) : Run p e below A (T.setTop (mkF m pc Ls st)) := by
  obtain ⟨cq, kq, qa, qb, qc⟩ := isOf hZ eT E
  obtain ⟨v, _, ⟨T18, L18, k18, n18⟩, -, X18, ⟨Lc18, hQ18, l18, y18, z18⟩, st18⟩ := X.virtualBack hx (y := y) (z := z) hown (mvT hZ w1) (mvT hZ w2) nf (mvT hZ w5) (mvT hZ w6) hy hK qa qc (g := mkF m pc Ls st) rfl hsize (Steps.refl _) (argsL := argsL) (rest := rest) hlen hst (by show 2 * 0 + _ ≤ _; omega) hd (fun _ _ => ⟨rfl, eT, hc, hn⟩)
  dsimp only [Pt.U, Pt.locs, Pt.cells, Pt.slots] at X18 l18 y18 z18 st18 hQ18
  subst l18 y18 z18
  exact goT st18 (kk v _ _ _ X18 rfl hQ18)
theorem callSpK (X : Stand p l e R s m args below meth c T locs cells slots) (hx : p.tables.exec = Jvm.exec) (hZ : Z.Warmed39 s.vm) {own : String} {index : Nat} {y : MethodName} (hy1 : y.name = "<init>") {bytes : ByteArray} {maxL : Nat} {Q : Option Value → Heap → List Loc → Prop} (hown : s.vm.findClass own = some m.cls)
    (w1 : (Jvm.Cond.methodLink own index y).before a0 Z = true) (w6 : (Jvm.Cond.instanceMethod y).before a0 Z = true) (w4 : (Jvm.Cond.code y bytes maxL none).before a0 Z = true) (hy : y.cls ≠ "java/lang/invoke/MethodHandle" ∧ y.cls ≠ "java/lang/invoke/VarHandle") (eT : T.heap = h) {a : Addr} {argsL rest : List Value}
    {rc rs W : Nat} (hK : Pay l R p e below s args y 3 W (.ref a :: argsL).toArray h Q rc rs) (hc : cells + rc ≤ R.cells) (hn : slots + rs ≤ R.slots)
    {pc : Nat} {Ls : Array Slot} {st : List Value} (hsize : Ls.size = c.maxLocals) (hlen : ∀ sig, parseMethodDescriptor y.desc = some sig → argsL.length = sig.parameters.length) (hst : st = argsL.reverse ++ .ref a :: rest) (hW : (rest.map fun v => v.category).sum ≤ W) (hd : decode c.code pc = .ok (.invokespecial index, 3)) {A : Outcome → State → Prop}
    (kk : ∀ (v : Option Value) (T' : State) (L : List Loc) (h' : Heap), Stand p l e R s m args below meth c T' (locs ++ L) (cells + rc) (slots + rs) → T'.heap = h' → Q v h' L → Run p e below A (T'.setTop (mkF m (pc + 3) Ls (v.toList ++ rest)))) : Run p e below A (T.setTop (mkF m pc Ls st)) := by
  obtain ⟨v, _, ⟨T18, L18, k18, n18⟩, -, X18, ⟨Lc18, hQ18, l18, y18, z18⟩, st18⟩ := X.specialBack hx (y := y) hy1 hown (mvT hZ w1) (mvT hZ w6) (mvT hZ w4) hy hK (g := mkF m pc Ls st) rfl hsize (Steps.refl _) (a := a) (argsL := argsL) (rest := rest) hlen hst (by show 2 * 0 + _ ≤ _; omega) hd (fun _ _ => ⟨rfl, eT, hc, hn⟩)
  dsimp only [Pt.U, Pt.locs, Pt.cells, Pt.slots] at X18 l18 y18 z18 st18 hQ18
  subst l18 y18 z18
  exact goT st18 (kk v _ _ _ X18 rfl hQ18)
/-- no subclass, by the words of the one's superclasses and of the other's 'instantiable' -/
theorem ns_root {O K : String} {n : Nat} (w : (Jvm.Cond.noSuperclass O).before a0 Z = true) (wk : (Jvm.Cond.instantiable K n).before a0 Z = true) (hn : O ≠ K) : NS Z O K := by
  obtain ⟨c, k, h1, h2, h3, -, -⟩ := Cond.noSuperclass_spec w
  obtain ⟨t, kt, g1, -⟩ := Cond.instantiable_spec wk
  have ne := ids_ne h1 g1 hn
  refine ⟨c, t, h1, g1, fun fuel => ?_⟩
  cases fuel with
  | zero => rfl
  | succ f => simp [Vm.isSubclassAux, ne, h2, h3]
theorem ns_no {C S K : String} {n : Nat} (w : (Jvm.Cond.superclass C S).before a0 Z = true) (wk : (Jvm.Cond.instantiable K n).before a0 Z = true) (q : NS Z C K) (hn : C ≠ K) : ∃ c t, Z.vm.findClass C = some c ∧ Z.vm.findClass K = some t ∧ Z.vm.assignable c t = false := by
  obtain ⟨c, t, h0, g0, n3⟩ := q
  obtain ⟨p, k, kp, h1, h2, h3, h4, h5, -, h7⟩ := Cond.superclass_spec h0 w
  obtain ⟨t', kt, g1, g2, g3, g4, -⟩ := Cond.instantiable_spec wk
  cases g0.symm.trans g1
  have ne := ids_ne h0 g0 hn
  have g5 : kt.isInterface = false := by
    cases hi : kt.isInterface with
    | false => rfl
    | true => simp [hi] at g4
  refine ⟨c, t, h0, g0, ?_⟩
  show Z.vm.assignableAux (255 + 1) c t = false
  simp [Vm.assignableAux, ne, h2, g2, h5, g3, g5, Vm.isSubclass, n3]
/-- a private method selects itself -/
theorem sel_priv {y : MethodName} {n : Nat} (wi : (Jvm.Cond.instantiable y.cls n).before a0 Z = true) (w2 : (Jvm.Cond.privateMethod y).before a0 Z = true) (w6 : (Jvm.Cond.instanceMethod y).before a0 Z = true) (hy : y.cls ≠ "java/lang/invoke/MethodHandle" ∧ y.cls ≠ "java/lang/invoke/VarHandle") : (Jvm.Cond.selects y.cls y y).before a0 Z = true := by
  obtain ⟨c, k, g1, g2, g3, g4, -⟩ := Cond.instantiable_spec wi
  exact Jvm.Stand.selects_self_of_private g1 g2 (by cases hi : k.isInterface with
    | false => rfl
    | true => simp [hi] at g4) (Cond.privateMethod_at w2) w6 hy
/-- a static that holds an object of one class, out of the case's words -/
theorem sta_exa {C n d K : String} (w1 : (Jvm.Cond.initialized C).before a0 Z = true) (w2 : (Jvm.Cond.laysStatic C n d).before a0 Z = true) (hx : (Jvm.Cond.exactly (Jvm.Term.static C n d) K).value a0 Z none Z [] = some true) :
    ∃ a, (Jvm.Term.static C n d).eval a0 Z none [] Z = some (.ref a) ∧ Sta Z Z.heap C n d (.ref a) ∧ Exa Z Z.heap a K := by
  obtain ⟨a, ev⟩ := exa_v hx
  exact ⟨a, ev, Sta.start ev (Or.inr ⟨w1, w2⟩), Exa.start ev hx⟩
theorem fld_int {t : Jvm.Term} {a : Addr} {C n d : String} {k : Int32} (ev : t.eval a0 Z none [] Z = some (.ref a)) (hq : (Jvm.Cond.eq (Jvm.Term.field t C n d) (Jvm.Term.int k)).value a0 Z none Z [] = some true) : Fld Z Z.heap a C n d (.int k) := by
  refine Fld.start ?_
  have e1 : (Jvm.Term.field t C n d).eval a0 Z none [] Z = Z.fieldOf? a C n d := fld_at ev
  have e2 : (Jvm.Term.int k).eval a0 Z none [] Z = some (.int k) := Term.int_eval k
  simp only [Cond.value, e1, e2] at hq
  cases hf : Z.fieldOf? a C n d with
  | none => simp [hf] at hq
  | some x => cases x <;> simp [hf] at hq ⊢; exact hq
end Own
section OwnStr
variable {p : Program} {l : Launch} {e : Env} {R : Room} {s : State} {args : Array Value} {below : List Frame} {Z : State} {a0 : Array Value} {h h' : Heap} {x t y t' a b : Addr} {kb kb' kC : ClassId} {cs ds : List Int32}
/-- a String of Latin-1 signs, its byte[] at t -/
def Str (Z : State) (h : Heap) (x t : Addr) (kb : ClassId) (cs : List Int32) : Prop := Exa Z h x "java/lang/String" ∧ Fld Z h x "java/lang/String" "value" "[B" (.ref t) ∧ Fld Z h x "java/lang/String" "coder" "B" (.int 0) ∧ Arv Z h t kb .byte (Int32.ofNat cs.length) ((cs.map fun c => c.toInt8.toInt32).map Value.int) (.int 0)
theorem Str.ext (F : Str Z h x t kb cs) (E : Ext h h') : Str Z h' x t kb cs := ⟨F.1.ext E, F.2.1.ext E, F.2.2.1.ext E, F.2.2.2.ext E⟩
theorem Str.keep {ws : List Addr} (F : Str Z h x t kb cs) (K : Keep h h' ws) (q1 : x ∉ ws) (q2 : t ∉ ws) : Str Z h' x t kb cs := ⟨F.1.keep K, F.2.1.keep K q1, F.2.2.1.keep K q1, F.2.2.2.keep K q2⟩
theorem Str.other {sl : Nat} {v : Value} (F : Str Z h x t kb cs) (W : Wr h h' a sl v) (q1 : x ≠ a) (q2 : t ≠ a) : Str Z h' x t kb cs := ⟨F.1.wr W, F.2.1.other W (Or.inl q1), F.2.2.1.other W (Or.inl q1), F.2.2.2.other W q2⟩
def In8 (cs : List Int32) : Prop := ∀ c ∈ cs, ¬ c < 0 ∧ ¬ (255 : Int32) < c
theorem In8.w (H : In8 cs) : ∀ c ∈ cs, ¬ c < 0 ∧ ¬ (65535 : Int32) < c := fun c hc => ⟨(H c hc).1, fun q => (H c hc).2 (by
  rw [Int32.lt_iff_toInt_lt] at *
  have k1 : (65535 : Int32).toInt = 65535 := by decide
  have k2 : (255 : Int32).toInt = 255 := by decide
  omega)⟩
theorem In8.nil : In8 [] := fun _ q => nomatch q
theorem In8.cons {c : Int32} (hc : ¬ c < 0 ∧ ¬ (255 : Int32) < c) (H : In8 cs) : In8 (c :: cs) := fun d hd => (List.mem_cons.mp hd).elim (fun q => q ▸ hc) (H d)
def QPure (r : Value) (h : Heap) (n0 : Nat) (v : Option Value) (h' : Heap) (L : List Loc) : Prop := v = some r ∧ Fr n0 L ∧ h' = h
end OwnStr
section OwnS
variable {p : Program} {l : Launch} {e : Env} {R : Room} {s : State} {m : MethodId} {args : Array Value} {below : List Frame} {meth : Method} {c : Code} {T : State} {locs : List Loc} {cells slots : Nat} {Z : State} {a0 : Array Value} {h h0 : Heap} {EL : List (String × Nat)} {vm0 : Vm} {k0 : Nat} {SFL : List Addr}
/-- the end of a body that may load constants: over the true start s -/
def EndsS (Z : State) (EL : List (String × Nat)) (s : State) (Q : Option Value → Heap → List Loc → Prop) (k n : Nat) (o : Outcome) (U : State) : Prop := ∃ v L, o = .returned v ∧ Q v U.heap L ∧ CHr Z EL s.vm s.heap U.vm U.heap ∧ ReturnedEndW s o U L k n
def MeetsS (l : Launch) (y : MethodName) (bytes : ByteArray) (maxL : Nat) (ret : Option FieldType) (ws : List Jvm.Cond) (rm : Room) (Z : State) (EL : List (String × Nat)) (SFL : List Addr) (as' : Array Value) (h0 : Heap) (Q : Option Value → Heap → List Loc → Prop) (k n : Nat) : Prop :=
  MetFree l y (head1 (Jvm.Cond.code y bytes maxL ret :: ws) rm) (fun a U => a = as' ∧ Z.Warmed39 U.vm ∧ U.heap = h0 ∧ CHv Z EL U.vm h0 ∧ ∀ x ∈ SFL, Safe Z EL U.vm h0 x) (fun _ _ _ _ _ => True) (fun _ U o U' => ∃ v L, o = .returned v ∧ Q v U'.heap L ∧ CHr Z EL U.vm U.heap U'.vm U'.heap ∧ ReturnedEndW U o U' L k n)
theorem enterS {y : MethodName} {bytes : ByteArray} {maxL : Nat} {ret : Option FieldType} {ws : List Jvm.Cond} {rm : Room} {as' : Array Value} {Q : Option Value → Heap → List Loc → Prop} {k n : Nat} {Ls : Array Slot} (pf : plainFor y = true) (ef : ∀ m, entryFrame m as' maxL = mkF m 0 Ls [])
    (body : ∀ (p : Program) (e : Env) (s : State) (m : MethodId) (below : List Frame) (meth : Method) (c : Code) (T : State), p.tables.exec = Jvm.exec → c.code = bytes → c.maxLocals = maxL → s.vm.findClass y.cls = some m.cls → meth.name = y.name → meth.sig.returnType = ret → meth.locks = false → Z.Warmed39 s.vm → Stand p l e rm (s.setVm s.vm) m as' below meth c T [] 0 0 → T.heap = h0 → s.heap = h0 → CHr Z EL s.vm h0 s.vm h0 → s.Since s.vm h0.size → (∀ x ∈ SFL, Safe Z EL s.vm h0 x) → Run p e below (EndsS Z EL s Q k n) (T.setTop (mkF m 0 Ls []))) :
    MeetsS l y bytes maxL ret ws rm Z EL SFL as' h0 Q k n := by
  refine MetFree.of_bodySF pf hisR ?_
  intro p e s m args below meth c s₁ Bd hml0 hP hK
  obtain ⟨rfl, hZ, hh, H, HS⟩ := hP
  obtain ⟨u, o, k1, k2, k3, k4⟩ := body p e s m below meth c s₁ Bd.exec Bd.bytes hml0 (findClass_of_methodNamed Bd.named) (name_of_methodNamed Bd.named Bd.method).1 Bd.returns (BodyLoose.notSynchronized Bd) hZ (Stand.of_body Bd) (by rw [← hh, Bd.state]; rfl) hh (CHr.refl H) ((State.WarmedH.refl s).since _) HS
  exact ⟨u, o, castTop (ef m) k1, k2, k3, k4⟩
theorem backOfSL {y : MethodName} {bytes : ByteArray} {maxL : Nat} {ret : Option FieldType} {rm : Room} {len W : Nat} {as' : Array Value} {Q : Option Value → Heap → List Loc → Prop}
    (hM : MeetsS l y bytes maxL ret [] rm Z EL SFL as' h Q rm.cells rm.slots)
    (hZ : Z.Warmed39 vm0) (wc : (Cond.code y bytes maxL ret).before a0 Z = true) (wz : (Cond.initialized y.cls).before a0 Z = true) (hf : rm.frames + 1 ≤ R.frames) (hl : W + (maxL + 11) + rm.locals ≤ R.locals) (hEL : EW Z a0 EL) (H : CHv Z EL vm0 h) (HS : ∀ x ∈ SFL, x < h.size ∧ Safe Z EL vm0 h x) :
    BackS l R p e below (s.setVm vm0) args y len W (fun A a => a = as' ∧ A.U.heap = h ∧ A.cells + rm.cells ≤ R.cells ∧ A.slots + rm.slots ≤ R.slots)
      (fun A _ v B => ∃ L, Q v B.U.heap L ∧ B.locs = A.locs ++ L ∧ B.cells = A.cells + rm.cells ∧ B.slots = A.slots + rm.slots ∧ CHr Z EL vm0 h B.U.vm B.U.heap) :=
  BackS.of_freeW (bytes := bytes) (maxL := maxL) (ret := ret) (E := fun _ first o t L k n => k = rm.cells ∧ n = rm.slots ∧ (∃ v, o = .returned v ∧ Q v t.heap L) ∧ CHr Z EL first.vm first.heap t.vm t.heap) hM hf hl
    (fun m meth c A a Y hp => have hU : Z.Warmed39 A.U.vm := wtrans (s := s.setVm vm0) hZ Y.warmed
      ⟨by show (Cond.and _ .tt).before a A.U = true; rw [Cond.before_and, mv hU wc]; rfl, mv hU wc, mv hU wz, hp.2.2.1, hp.2.2.2⟩)
    (fun m meth c A a g mk Y hp => ⟨hp.1, wtrans (s := s.setVm vm0) hZ Y.warmed, hp.2.1, (CHv.at Y hZ hEL H).1, fun x hx => (CHv.at Y hZ hEL H).safe (HS x hx).1 (HS x hx).2⟩) (fun _ _ _ _ _ _ _ _ _ => trivial)
    (fun _ _ _ _ ⟨v, L, h1, h2, h3, h4⟩ => ⟨L, _, _, h4, rfl, rfl, ⟨v, h1, h2⟩, h3⟩)
    (fun m meth c A a g mk v t L k n Y hp _ _ ⟨e1, e2, ⟨v', e3, e4⟩, e5⟩ => by
      cases e3; subst e1 e2
      refine ⟨L, e4, rfl, rfl, rfl, (CHv.at Y hZ hEL H).trans ?_⟩
      rw [← hp.2.1]; exact e5)
/-- what the walk knows of the constants at its end -/
theorem chEnd (X : Stand p l e R (s.setVm vm0) m args below meth c T locs cells slots) (hZ : Z.Warmed39 vm0) (hEL : EW Z a0 EL) (eT : T.heap = h) (eS : s.heap = h0) (H : CHr Z EL s.vm h0 vm0 h) : CHr Z EL s.vm s.heap T.vm T.heap := by
  rw [eS, eT]; exact H.trans (CHv.at X hZ hEL H.1)
theorem endNS (X : Stand p l e R (s.setVm vm0) m args below meth c T locs cells slots) (hx : p.tables.exec = Jvm.exec) (hlk : meth.locks = false) (hZ : Z.Warmed39 vm0) (hEL : EW Z a0 EL) (eT : T.heap = h) (eS : s.heap = h0) (H : CHr Z EL s.vm h0 vm0 h) (hS : s.Since vm0 k0) (hk0 : k0 ≤ h.size) {Q : Option Value → Heap → List Loc → Prop} {k n pc : Nat} {Ls : Array Slot} {z : Int32} {rest : List Value} {t : FieldType} (hret : meth.sig.returnType = some t) (ht : t = .boolean ∨ t = .byte ∨ t = .char ∨ t = .short) (hd : decode c.code pc = .ok (.ireturn, 1)) (hq : Q (some (.int (nar t z))) T.heap locs) (hk : cells ≤ k) (hn : slots ≤ n) :
    Run p e below (EndsS Z EL s Q k n) (T.setTop (mkF m pc Ls (.int z :: rest))) := by
  obtain ⟨fs, hr, hrun, hended, hW⟩ := (smono X hk hn).leaveW hS (eT ▸ hk0) (v := some (.int (nar t z))) (fun h => by rw [hret] at h; cases h) hlk
  exact ⟨_, _, retN X hx hret ht hd hr, hrun, hended, _, _, rfl, hq, (chEnd X hZ hEL eT eS H : CHr Z EL s.vm s.heap T.vm T.heap), hW⟩
theorem endVS (X : Stand p l e R (s.setVm vm0) m args below meth c T locs cells slots) (hx : p.tables.exec = Jvm.exec) (hlk : meth.locks = false) (hZ : Z.Warmed39 vm0) (hEL : EW Z a0 EL) (eT : T.heap = h) (eS : s.heap = h0) (H : CHr Z EL s.vm h0 vm0 h) (hS : s.Since vm0 k0) (hk0 : k0 ≤ h.size) {Q : Option Value → Heap → List Loc → Prop} {k n pc : Nat} {Ls : Array Slot} (hret : meth.sig.returnType = none) (hd : decode c.code pc = .ok (.return_, 1)) (hq : Q none T.heap locs) (hk : cells ≤ k) (hn : slots ≤ n) :
    Run p e below (EndsS Z EL s Q k n) (T.setTop (mkF m pc Ls [])) := by
  obtain ⟨fs, hr, hrun, hended, hW⟩ := (smono X hk hn).leaveW hS (eT ▸ hk0) (v := none) (fun _ => rfl) hlk
  exact ⟨_, _, X.returnOut hx hret hd hr, hrun, hended, _, _, rfl, hq, (chEnd X hZ hEL eT eS H : CHr Z EL s.vm s.heap T.vm T.heap), hW⟩
theorem endAS (X : Stand p l e R (s.setVm vm0) m args below meth c T locs cells slots) (hx : p.tables.exec = Jvm.exec) (hlk : meth.locks = false) (hZ : Z.Warmed39 vm0) (hEL : EW Z a0 EL) (eT : T.heap = h) (eS : s.heap = h0) (H : CHr Z EL s.vm h0 vm0 h) (hS : s.Since vm0 k0) (hk0 : k0 ≤ h.size) {Q : Option Value → Heap → List Loc → Prop} {k n pc : Nat} {Ls : Array Slot} {w : Value} {rest : List Value} {t : FieldType} (hret : meth.sig.returnType = some t) (ht : t.isReference = true) (hv : w.isRef = true) (hd : decode c.code pc = .ok (.areturn, 1)) (hq : Q (some w) T.heap locs) (hk : cells ≤ k) (hn : slots ≤ n) :
    Run p e below (EndsS Z EL s Q k n) (T.setTop (mkF m pc Ls (w :: rest))) := by
  obtain ⟨fs, hr, hrun, hended, hW⟩ := (smono X hk hn).leaveW hS (eT ▸ hk0) (v := some w) (fun h => by rw [hret] at h; cases h) hlk
  have hn' : narrow t w = w := by cases w <;> first | (cases hv; done) | (cases t <;> first | rfl | (cases ht; done))
  exact ⟨_, _, retOut X hx hret hn' (Or.inr (Or.inr (Or.inr (Or.inr ⟨rfl, ht, hv⟩)))) hd hr, hrun, hended, _, _, rfl, hq, (chEnd X hZ hEL eT eS H : CHr Z EL s.vm s.heap T.vm T.heap), hW⟩
/-- ldc of a constant that is held: what it holds is read -/
theorem goLdc {own text : String} {index : Nat} {ds : List Int32} {A : Outcome → State → Prop} (X : Stand p l e R (s.setVm vm0) m args below meth c T locs cells slots) (hx : p.tables.exec = Jvm.exec) (hZ : Z.Warmed39 vm0) (hown : vm0.findClass own = some m.cls) (w : (Cond.stringLink own index text).before a0 Z = true) (wS : ∀ a ∈ Bundle.stringAtoms, a.before a0 Z = true)
    (eT : T.heap = h) (hS : s.Since vm0 k0) (hk : k0 ≤ h.size) (hEL : EW Z a0 EL) (hmem : (own, index) ∈ EL) (H : CHr Z EL s.vm h0 vm0 h) (ht : (∀ c ∈ text.toList, c.toNat < 256) ∧ text.toList.map (fun c => Value.int (Jvm.Lit.byteI c.toNat.toUInt16)) = (ds.map fun c => c.toInt8.toInt32).map Value.int) (hz : ¬ (Int32.ofNat ds.length) < 0) (hl : (Int32.ofNat ds.length).toNatClampNeg = ds.length)
    {pc : Nat} {Ls : Array Slot} {st : List Value} (hd : decode c.code pc = .ok (.ldc index, 2)) {n : Nat} (hn : 4 * text.toList.length ≤ n) (hbig : n ≤ 536870912) (hc : cells + 2 ≤ R.cells) (hl' : slots + (n + 4) ≤ R.slots)
    (kk : ∀ (a b : Addr) (kb : ClassId) (T' : State) (h' : Heap) (k1 : Nat), Stand p l e R (s.setVm T'.vm) m args below meth c T' locs (cells + 2) (slots + (n + 4)) → T'.heap = h' → Ext h h' → s.Since T'.vm k1 → k1 ≤ h'.size → Z.Warmed39 T'.vm → T'.vm.findClass own = some m.cls → Exa Z h' a "java/lang/String" → Fld Z h' a "java/lang/String" "coder" "B" (.int 0) → Fld Z h' a "java/lang/String" "value" "[B" (.ref b) → Arv Z h' b kb .byte (Int32.ofNat ds.length) ((ds.map fun c => c.toInt8.toInt32).map Value.int) (.int 0) → CHr Z EL s.vm h0 T'.vm h' → CHr Z EL vm0 h T'.vm h' → (∀ x, Safe Z EL T'.vm h' x → x ≠ a ∧ x ≠ b) → Run p e below A (T'.setTop (mkF m (pc + 2) Ls (.ref a :: st)))) : Run p e below A (T.setTop (mkF m pc Ls st)) := by
  obtain ⟨a, T', h', k1, b, kb, X', e', E, hS', hk', hZ', hown', q1, q2, q3, q4, -, -, C, -, q5, st'⟩ := ldcCH X hx hZ hown w wS eT hS hk hEL hmem H.1 ht hz (by rw [hl]; simp) (g := mkF m pc Ls st) rfl hd hn hbig hc hl'
  exact go st' (kk a b kb T' h' k1 X' e' E hS' hk' hZ' hown' q1 q2 q3 q4 (H.trans C) C q5)
theorem callStS {own : String} {index : Nat} {y : MethodName} {bytes : ByteArray} {maxL : Nat} {ret : Option FieldType} {rm : Room} {Q : Option Value → Heap → List Loc → Prop} (X : Stand p l e R (s.setVm vm0) m args below meth c T locs cells slots) (hx : p.tables.exec = Jvm.exec) (hZ : Z.Warmed39 vm0) (hown : vm0.findClass own = some m.cls)
    (w1 : (Jvm.Cond.methodLink own index y).before a0 Z = true) (w2 : (Jvm.Cond.static y).before a0 Z = true) (w3 : (Jvm.Cond.initialized y.cls).before a0 Z = true) (w4 : (Jvm.Cond.code y bytes maxL ret).before a0 Z = true) (hy : y.cls ≠ "java/lang/invoke/MethodHandle" ∧ y.cls ≠ "java/lang/invoke/VarHandle") (eT : T.heap = h) (hS : s.Since vm0 k0) (hk : k0 ≤ h.size) (hEL : EW Z a0 EL) (H : CHr Z EL s.vm h0 vm0 h) {argsL rest : List Value}
    (HS : ∀ x ∈ SFL, x < h.size ∧ Safe Z EL vm0 h x) (hM : MeetsS l y bytes maxL ret [] rm Z EL SFL argsL.toArray h Q rm.cells rm.slots) {W : Nat} (hf : rm.frames + 1 ≤ R.frames) (hl : W + (maxL + 11) + rm.locals ≤ R.locals) (hc : cells + rm.cells ≤ R.cells) (hn : slots + rm.slots ≤ R.slots)
    {pc : Nat} {Ls : Array Slot} {st : List Value} (hsize : Ls.size = c.maxLocals) (hlen : ∀ sig, parseMethodDescriptor y.desc = some sig → argsL.length = sig.parameters.length) (hst : st = argsL.reverse ++ rest) (hW : (rest.map fun v => v.category).sum ≤ W) (hd : decode c.code pc = .ok (.invokestatic index, 3)) {A : Outcome → State → Prop}
    (kk : ∀ (v : Option Value) (T' : State) (L : List Loc) (h' : Heap) (k1 : Nat), Stand p l e R (s.setVm T'.vm) m args below meth c T' (locs ++ L) (cells + rm.cells) (slots + rm.slots) → T'.heap = h' → s.Since T'.vm k1 → k1 ≤ h'.size → Z.Warmed39 T'.vm → T'.vm.findClass own = some m.cls → CHr Z EL s.vm h0 T'.vm h' → CHr Z EL vm0 h T'.vm h' → Q v h' L → Run p e below A (T'.setTop (mkF m (pc + 3) Ls (v.toList ++ rest)))) : Run p e below A (T.setTop (mkF m pc Ls st)) := by
  obtain ⟨v, _, ⟨T18, L18, k18, n18⟩, -, X18, S18, g18, ⟨Lc18, hQ18, l18, y18, z18, C18⟩, st18⟩ := callSS X hx hown (mvT (s := s.setVm vm0) hZ w1) (mvT (s := s.setVm vm0) hZ w2) (mvT (s := s.setVm vm0) hZ w3) (mvT (s := s.setVm vm0) hZ w4) hy (backOfSL (W := W) hM hZ w4 w3 hf hl hEL H.1 HS) (g := mkF m pc Ls st) rfl hsize (argsL := argsL) (rest := rest) hlen hst (by show 2 * 0 + _ ≤ _; omega) hd (fun _ _ => ⟨rfl, eT, hc, hn⟩)
  dsimp only [Pt.U, Pt.locs, Pt.cells, Pt.slots] at X18 l18 y18 z18 st18 hQ18 S18 g18 C18
  subst l18 y18 z18
  exact goT st18 (kk v _ _ _ _ X18 rfl (foldS (T := T) hS (eT ▸ hk) S18 g18) (Nat.le_refl _) (State.Warmed39.trans (t := s.setVm vm0) hZ S18.1) (by rw [S18.1.alike.findClass]; exact hown) (H.trans C18) C18 hQ18)
theorem callSpS {own : String} {index : Nat} {y : MethodName} (hy1 : y.name = "<init>") {bytes : ByteArray} {maxL : Nat} {rm : Room} {Q : Option Value → Heap → List Loc → Prop} (X : Stand p l e R (s.setVm vm0) m args below meth c T locs cells slots) (hx : p.tables.exec = Jvm.exec) (hZ : Z.Warmed39 vm0) (hown : vm0.findClass own = some m.cls)
    (w1 : (Jvm.Cond.methodLink own index y).before a0 Z = true) (w6 : (Jvm.Cond.instanceMethod y).before a0 Z = true) (w4 : (Jvm.Cond.code y bytes maxL none).before a0 Z = true) (w3 : (Jvm.Cond.initialized y.cls).before a0 Z = true) (hy : y.cls ≠ "java/lang/invoke/MethodHandle" ∧ y.cls ≠ "java/lang/invoke/VarHandle") (eT : T.heap = h) (hS : s.Since vm0 k0) (hk : k0 ≤ h.size) (hEL : EW Z a0 EL) (H : CHr Z EL s.vm h0 vm0 h) {a : Addr} {argsL rest : List Value}
    (HS : ∀ x ∈ SFL, x < h.size ∧ Safe Z EL vm0 h x) (hM : MeetsS l y bytes maxL none [] rm Z EL SFL (.ref a :: argsL).toArray h Q rm.cells rm.slots) {W : Nat} (hf : rm.frames + 1 ≤ R.frames) (hl : W + (maxL + 11) + rm.locals ≤ R.locals) (hc : cells + rm.cells ≤ R.cells) (hn : slots + rm.slots ≤ R.slots)
    {pc : Nat} {Ls : Array Slot} {st : List Value} (hsize : Ls.size = c.maxLocals) (hlen : ∀ sig, parseMethodDescriptor y.desc = some sig → argsL.length = sig.parameters.length) (hst : st = argsL.reverse ++ .ref a :: rest) (hW : (rest.map fun v => v.category).sum ≤ W) (hd : decode c.code pc = .ok (.invokespecial index, 3)) {A : Outcome → State → Prop}
    (kk : ∀ (v : Option Value) (T' : State) (L : List Loc) (h' : Heap) (k1 : Nat), Stand p l e R (s.setVm T'.vm) m args below meth c T' (locs ++ L) (cells + rm.cells) (slots + rm.slots) → T'.heap = h' → s.Since T'.vm k1 → k1 ≤ h'.size → Z.Warmed39 T'.vm → T'.vm.findClass own = some m.cls → CHr Z EL s.vm h0 T'.vm h' → CHr Z EL vm0 h T'.vm h' → Q v h' L → Run p e below A (T'.setTop (mkF m (pc + 3) Ls (v.toList ++ rest)))) : Run p e below A (T.setTop (mkF m pc Ls st)) := by
  obtain ⟨v, _, ⟨T18, L18, k18, n18⟩, -, X18, S18, g18, ⟨Lc18, hQ18, l18, y18, z18, C18⟩, st18⟩ := X.specialBackS hx hy1 hown (mvT (s := s.setVm vm0) hZ w1) (mvT (s := s.setVm vm0) hZ w6) (mvT (s := s.setVm vm0) hZ w4) hy (backOfSL (W := W) hM hZ w4 w3 hf hl hEL H.1 HS) (g := mkF m pc Ls st) rfl hsize (Steps.refl _) (a := a) (argsL := argsL) (rest := rest) hlen hst (by show 2 * 0 + _ ≤ _; omega) hd (fun _ _ => ⟨rfl, eT, hc, hn⟩)
  dsimp only [Pt.U, Pt.locs, Pt.cells, Pt.slots] at X18 l18 y18 z18 st18 hQ18 S18 g18 C18
  subst l18 y18 z18
  exact goT st18 (kk v _ _ _ _ X18 rfl (foldS (T := T) hS (eT ▸ hk) S18 g18) (Nat.le_refl _) (State.Warmed39.trans (t := s.setVm vm0) hZ S18.1) (by rw [S18.1.alike.findClass]; exact hown) (H.trans C18) C18 hQ18)
theorem callViS {own C : String} {index : Nat} {y z : MethodName} {bytes : ByteArray} {maxL : Nat} {ret : Option FieldType} {rm : Room} {Q : Option Value → Heap → List Loc → Prop} (X : Stand p l e R (s.setVm vm0) m args below meth c T locs cells slots) (hx : p.tables.exec = Jvm.exec) (hZ : Z.Warmed39 vm0) (hown : vm0.findClass own = some m.cls)
    (w1 : (Jvm.Cond.methodLink own index y).before a0 Z = true) (w2 : (Jvm.Cond.declares y).before a0 Z = true) (nf : NotFace (s.setVm vm0) y) (w5 : (Jvm.Cond.selects C y z).before a0 Z = true) (w6 : (Jvm.Cond.instanceMethod z).before a0 Z = true) (w4 : (Jvm.Cond.code z bytes maxL ret).before a0 Z = true) (w3 : (Jvm.Cond.initialized z.cls).before a0 Z = true) (hy : y.cls ≠ "java/lang/invoke/MethodHandle" ∧ y.cls ≠ "java/lang/invoke/VarHandle") (eT : T.heap = h) (hS : s.Since vm0 k0) (hk : k0 ≤ h.size) (hEL : EW Z a0 EL) (H : CHr Z EL s.vm h0 vm0 h) {a : Addr} (E : Exa Z h a C) {argsL rest : List Value}
    (HS : ∀ x ∈ SFL, x < h.size ∧ Safe Z EL vm0 h x) (hM : MeetsS l z bytes maxL ret [] rm Z EL SFL (.ref a :: argsL).toArray h Q rm.cells rm.slots) {W : Nat} (hf : rm.frames + 1 ≤ R.frames) (hl : W + (maxL + 11) + rm.locals ≤ R.locals) (hc : cells + rm.cells ≤ R.cells) (hn : slots + rm.slots ≤ R.slots)
    {pc : Nat} {Ls : Array Slot} {st : List Value} (hsize : Ls.size = c.maxLocals) (hlen : ∀ sig, parseMethodDescriptor y.desc = some sig → argsL.length = sig.parameters.length) (hst : st = argsL.reverse ++ .ref a :: rest) (hW : (rest.map fun v => v.category).sum ≤ W) (hd : decode c.code pc = .ok (.invokevirtual index, 3)) {A : Outcome → State → Prop}
    (kk : ∀ (v : Option Value) (T' : State) (L : List Loc) (h' : Heap) (k1 : Nat), Stand p l e R (s.setVm T'.vm) m args below meth c T' (locs ++ L) (cells + rm.cells) (slots + rm.slots) → T'.heap = h' → s.Since T'.vm k1 → k1 ≤ h'.size → Z.Warmed39 T'.vm → T'.vm.findClass own = some m.cls → CHr Z EL s.vm h0 T'.vm h' → CHr Z EL vm0 h T'.vm h' → Q v h' L → Run p e below A (T'.setTop (mkF m (pc + 3) Ls (v.toList ++ rest)))) : Run p e below A (T.setTop (mkF m pc Ls st)) := by
  obtain ⟨cq, kq, qa, qb, qc⟩ := isOf (s := s.setVm vm0) hZ eT E
  obtain ⟨v, _, ⟨T18, L18, k18, n18⟩, -, X18, S18, g18, ⟨Lc18, hQ18, l18, y18, z18, C18⟩, st18⟩ := X.virtualBackS hx (y := y) (z := z) hown (mvT (s := s.setVm vm0) hZ w1) (mvT (s := s.setVm vm0) hZ w2) nf (mvT (s := s.setVm vm0) hZ w5) (mvT (s := s.setVm vm0) hZ w6) hy (backOfSL (W := W) hM hZ w4 w3 hf hl hEL H.1 HS) qa qc (g := mkF m pc Ls st) rfl hsize (Steps.refl _) (argsL := argsL) (rest := rest) hlen hst (by show 2 * 0 + _ ≤ _; omega) hd (fun _ _ => ⟨rfl, eT, hc, hn⟩)
  dsimp only [Pt.U, Pt.locs, Pt.cells, Pt.slots] at X18 l18 y18 z18 st18 hQ18 S18 g18 C18
  subst l18 y18 z18
  exact goT st18 (kk v _ _ _ _ X18 rfl (foldS (T := T) hS (eT ▸ hk) S18 g18) (Nat.le_refl _) (State.Warmed39.trans (t := s.setVm vm0) hZ S18.1) (by rw [S18.1.alike.findClass]; exact hown) (H.trans C18) C18 hQ18)
theorem wr_sz {h h' : Heap} {a : Addr} {sl : Nat} {v : Value} (W : Wr h h' a sl v) : h.size ≤ h'.size := by obtain ⟨c0, -, -, -, rfl⟩ := W; simp
theorem subStr : ∀ d ∈ Bundle.stringAtoms, d ∈ tables_1 := by decide +kernel
end OwnS
section OwnSB
variable {p : Program} {l : Launch} {e : Env} {R : Room} {s : State} {m : MethodId} {args : Array Value} {below : List Frame} {meth : Method} {c : Code} {T : State} {locs : List Loc} {cells slots : Nat} {Z : State} {a0 : Array Value} {h h' : Heap}
theorem own_nf {C : String} {y y' : MethodName} (hsel : (Jvm.Cond.selects C y' y').before args s = true) (hc : y'.cls = y.cls) : NotFace s y := fun r0 h0 => by
  obtain ⟨c2, r2, m2, q1, q2, q3, q4, kP, hkP, hkPi⟩ := Cond.selects_spec hsel
  have f0 := findClass_of_methodNamed h0
  have f2 := findClass_of_methodNamed q3
  rw [hc] at f2
  have e : r0.cls = m2.cls := Option.some.inj (f0.symm.trans f2)
  exact ⟨kP, by rw [e]; exact hkP, hkPi⟩
theorem own_decl {y : MethodName} {bytes : ByteArray} {maxL : Nat} {ret : Option FieldType} (w6 : (Jvm.Cond.instanceMethod y).before a0 Z = true) (w4 : (Jvm.Cond.code y bytes maxL ret).before a0 Z = true) : (Jvm.Cond.declares y).before a0 Z = true := by
  obtain ⟨mk, methM, hnamed, hmethM, hstM, habM⟩ := Cond.instanceMethod_spec w6
  obtain ⟨m2, cM, q1, -, -, -, -, -, -, hsig⟩ := Cond.code_spec hnamed w4
  cases hmethM.symm.trans q1
  simp [Cond.before, Cond.holds, Cond.value, hnamed, hmethM, hstM, hsig]
theorem own_same {C n d : String} {bytes : ByteArray} {maxL : Nat} {ret : Option FieldType} (wc : (Jvm.Cond.code ⟨C, n, d⟩ bytes maxL ret).before a0 Z = true) (nf : NotFace Z ⟨C, n, d⟩) (hy : C ≠ "java/lang/invoke/MethodHandle" ∧ C ≠ "java/lang/invoke/VarHandle") : (Jvm.Cond.sameMethod C C n d).before a0 Z = true := by
  obtain ⟨mk, hn⟩ := Cond.code_named wc
  obtain ⟨kr, hk, hi⟩ := nf _ hn
  have hc := findClass_of_methodNamed hn
  have hf := State.methodFound?_of_named hn hy
  simp only at hc hf
  simp [Cond.before, Cond.holds, Cond.value, hc, hf, hn, hk, hi]
theorem callUp (X : Stand p l e R s m args below meth c T locs cells slots) (hx : p.tables.exec = Jvm.exec) (hZ : Z.Warmed39 s.vm) {own K : String} {index : Nat} {y : MethodName} {bytes : ByteArray} {maxL : Nat} {ret : Option FieldType} {rm : Room} {Q : Option Value → Heap → List Loc → Prop} (hown : s.vm.findClass own = some m.cls)
    (w1 : (Jvm.Cond.methodLink own index y).before a0 Z = true) (w6 : (Jvm.Cond.instanceMethod y).before a0 Z = true) (w5 : (Jvm.Cond.superclass own y.cls).before a0 Z = true) (w4 : (Jvm.Cond.code y bytes maxL ret).before a0 Z = true) (w3 : (Jvm.Cond.initialized y.cls).before a0 Z = true) (nf : NotFace Z y) (hy : y.cls ≠ "java/lang/invoke/MethodHandle" ∧ y.cls ≠ "java/lang/invoke/VarHandle") (hni : y.name ≠ "<init>") (eT : T.heap = h) {a : Addr} (F : Ins Z h a K true) {argsL rest : List Value}
    (hM : Meets l y bytes maxL ret [] rm Z (.ref a :: argsL).toArray h Q rm.cells rm.slots) {W : Nat} (hf : rm.frames + 1 ≤ R.frames) (hl : W + (maxL + 11) + rm.locals ≤ R.locals) (hc : cells + rm.cells ≤ R.cells) (hn : slots + rm.slots ≤ R.slots)
    {pc : Nat} {Ls : Array Slot} {st : List Value} (hsize : Ls.size = c.maxLocals) (hlen : ∀ sig, parseMethodDescriptor y.desc = some sig → argsL.length = sig.parameters.length) (hst : st = argsL.reverse ++ .ref a :: rest) (hW : (rest.map fun v => v.category).sum ≤ W) (hd : decode c.code pc = .ok (.invokespecial index, 3)) {A : Outcome → State → Prop}
    (kk : ∀ (v : Option Value) (T' : State) (L : List Loc) (h' : Heap), Stand p l e R s m args below meth c T' (locs ++ L) (cells + rm.cells) (slots + rm.slots) → T'.heap = h' → Q v h' L → Run p e below A (T'.setTop (mkF m (pc + 3) Ls (v.toList ++ rest)))) : Run p e below A (T.setTop (mkF m pc Ls st)) := by
  obtain ⟨v, _, ⟨T18, L18, k18, n18⟩, -, X18, ⟨Lc18, hQ18, l18, y18, z18⟩, st18⟩ := superBack X hx hZ hown w1 (own_same (C := y.cls) (n := y.name) (d := y.desc) w4 nf hy) w6 w5 hni (backOf (W := W) hM hZ w4 w3 hf hl) eT F (g := mkF m pc Ls st) rfl hsize w4 (argsL := argsL) (rest := rest) hlen hst (by show 2 * 0 + _ ≤ _; omega) hd (fun _ _ => ⟨rfl, eT, hc, hn⟩)
  dsimp only [Pt.U, Pt.locs, Pt.cells, Pt.slots] at X18 l18 y18 z18 st18 hQ18
  subst l18 y18 z18
  exact goT st18 (kk v _ _ _ X18 rfl hQ18)
theorem callStK (X : Stand p l e R s m args below meth c T locs cells slots) (hx : p.tables.exec = Jvm.exec) (hZ : Z.Warmed39 s.vm) {own : String} {index : Nat} {y : MethodName} {bytes : ByteArray} {maxL : Nat} {ret : Option FieldType} {Q : Option Value → Heap → List Loc → Prop} (hown : s.vm.findClass own = some m.cls)
    (w1 : (Jvm.Cond.methodLink own index y).before a0 Z = true) (w2 : (Jvm.Cond.static y).before a0 Z = true) (w3 : (Jvm.Cond.initialized y.cls).before a0 Z = true) (w4 : (Jvm.Cond.code y bytes maxL ret).before a0 Z = true) (hy : y.cls ≠ "java/lang/invoke/MethodHandle" ∧ y.cls ≠ "java/lang/invoke/VarHandle") (eT : T.heap = h) {argsL rest : List Value}
    {rc rs W : Nat} (hK : Pay l R p e below s args y 3 W argsL.toArray h Q rc rs) (hc : cells + rc ≤ R.cells) (hn : slots + rs ≤ R.slots)
    {pc : Nat} {Ls : Array Slot} {st : List Value} (hsize : Ls.size = c.maxLocals) (hlen : ∀ sig, parseMethodDescriptor y.desc = some sig → argsL.length = sig.parameters.length) (hst : st = argsL.reverse ++ rest) (hW : (rest.map fun v => v.category).sum ≤ W) (hd : decode c.code pc = .ok (.invokestatic index, 3)) {A : Outcome → State → Prop}
    (kk : ∀ (v : Option Value) (T' : State) (L : List Loc) (h' : Heap), Stand p l e R s m args below meth c T' (locs ++ L) (cells + rc) (slots + rs) → T'.heap = h' → Q v h' L → Run p e below A (T'.setTop (mkF m (pc + 3) Ls (v.toList ++ rest)))) : Run p e below A (T.setTop (mkF m pc Ls st)) := by
  obtain ⟨v, _, ⟨T18, L18, k18, n18⟩, -, X18, ⟨Lc18, hQ18, l18, y18, z18⟩, st18⟩ := Jvm.LawKit.callS X hx hown (mvT hZ w1) (mvT hZ w2) (mvT hZ w3) (mvT hZ w4) hy hK (g := mkF m pc Ls st) rfl hsize (argsL := argsL) (rest := rest) hlen hst (by show 2 * 0 + _ ≤ _; omega) hd (fun _ _ => ⟨rfl, eT, hc, hn⟩)
  dsimp only [Pt.U, Pt.locs, Pt.cells, Pt.slots] at X18 l18 y18 z18 st18 hQ18
  subst l18 y18 z18
  exact go st18 (kk v _ _ _ X18 rfl hQ18)
/-- the bytes of Latin-1 signs -/
abbrev BY (cs : List Int32) : List Value := (cs.map fun c => c.toInt8.toInt32).map Value.int
theorem BY_app (cs ds : List Int32) : BY (cs ++ ds) = BY cs ++ BY ds := by simp [BY]
theorem BY_len (cs : List Int32) : (BY cs).length = cs.length := by simp [BY]
theorem own_glue (vs ws : List Value) (d : Value) (n k : Nat) (hn : ws.length ≤ n) (i : Nat) :
    (vs ++ ws).getD i d = ((vs ++ List.replicate k d).take vs.length ++ (List.range n).map (fun i => ws.getD ((0 : Int32).toNatClampNeg + i) d) ++ (vs ++ List.replicate k d).drop (vs.length + n)).getD i d := by
  have z0 : (0 : Int32).toNatClampNeg = 0 := rfl
  simp only [List.getD_eq_getElem?_getD, z0, Nat.zero_add]
  rw [show (vs ++ List.replicate k d).take vs.length = vs by simp]
  by_cases h1 : i < vs.length
  · rw [List.getElem?_append_left h1, List.append_assoc, List.getElem?_append_left h1]
  · rw [List.getElem?_append_right (by omega), List.append_assoc, List.getElem?_append_right (by omega)]
    generalize i - vs.length = j
    by_cases h2 : j < n
    · rw [List.getElem?_append_left (by simpa using h2), List.getElem?_map, List.getElem?_range h2]
      simp
    · rw [List.getElem?_append_right (by simp; omega), List.getElem?_eq_none (by omega), List.getElem?_drop, List.getElem?_append_right (by simp; omega), List.getElem?_replicate]
      split <;> rfl
theorem cpB (X : Stand p l e R s m args below meth c T locs cells slots) (hx : p.tables.exec = Jvm.exec) (hZ : Z.Warmed39 s.vm) {own : String} {index : Nat} (hown : s.vm.findClass own = some m.cls)
    (w1 : (Jvm.Cond.methodLink own index Jvm.Stand.acN).before a0 Z = true) (w2 : (Jvm.Cond.native Jvm.Stand.acN).before a0 Z = true) (w3 : (Jvm.Cond.static Jvm.Stand.acN).before a0 Z = true) (w4 : (Jvm.Cond.initialized "java/lang/System").before a0 Z = true) (eT : T.heap = h)
    {a b : Addr} {k k' : ClassId} {z z' dp nn : Int32} {us cs : List Int32} (A : Arv Z h a k .byte z (BY us) (.int 0)) (B : Arv Z h b k' .byte z' (BY cs) (.int 0)) (hdp : dp.toNatClampNeg = cs.length)
    (h2 : ¬ dp < 0) (h3 : ¬ nn < 0) (hl : us.length ≤ nn.toNatClampNeg) (h4 : nn.toNatClampNeg ≤ z.toNatClampNeg) (h5 : cs.length + nn.toNatClampNeg ≤ z'.toNatClampNeg) {n0 : Nat} (N : Fr n0 locs) (ge : n0 ≤ b)
    {g : JFrame} (hg : g.method = m) (hsize : g.locals.size = c.maxLocals) {rest : List Value} (hs : g.stack = .int nn :: .int dp :: .ref b :: .int 0 :: .ref a :: rest) (hd : decode c.code g.pc = .ok (.invokestatic index, 3))
    (hf : 1 ≤ R.frames) {W : Nat} (hW : 2 * g.monitorRoom + (rest.map fun v => v.category).sum ≤ W) (hlo : W + (nativeFrameWords "java/lang/System" "arraycopy" 5 + 11) ≤ R.locals) :
    ∃ T' h' L, Stand p l e R s m args below meth c T' L cells slots ∧ T'.heap = h' ∧ Fr n0 L ∧ Keep h h' [b] ∧ Arv Z h' b k' .byte z' (BY (cs ++ us)) (.int 0) ∧
      ∀ target, Steps p.tables e below (T'.setTop { g with pc := g.pc + 3, stack := rest }) target → Steps p.tables e below (T.setTop g) target := by
  have B' := B.pad (pad_rep (BY cs) (.int 0) z'.toNatClampNeg)
  have z0 : (0 : Int32).toNatClampNeg = 0 := rfl
  obtain ⟨T', h', L, X', e', N', K, V, st⟩ := cpA X hx hZ hown w1 w2 w3 w4 eT A B' (Or.inl ⟨rfl, rfl⟩) (sp := 0) (dp := dp) (nn := nn) (by decide) h2 h3 (by rw [z0]; omega) (by rw [hdp]; exact h5) rfl (by rw [hdp, List.length_append, BY_len, List.length_replicate]; omega) N ge hg hsize hs hd hf hW hlo
  refine ⟨T', h', L, X', e', N', K, V.pad (fun i => ?_), st⟩
  rw [hdp, BY_app]
  have q := own_glue (BY cs) (BY us) (.int 0) nn.toNatClampNeg z'.toNatClampNeg (by rw [BY_len]; exact hl) i
  rw [BY_len] at q
  exact q
theorem own_shl0 (x : Int32) : x <<< ((0 : Int32) &&& 31) = x := by
  have e : ((0 : Int32) &&& 31) = 0 := by decide
  rw [e]; exact Int32.shiftLeft_zero
theorem own_shr0 (x : Int32) : x >>> ((0 : Int32) &&& 31) = x := by
  have e : ((0 : Int32) &&& 31) = 0 := by decide
  rw [e]; exact Int32.shiftRight_zero
theorem own_sub0 (x : Int32) : x - (0 : Int32) = x := Int32.sub_zero x
theorem own_add (a b : Nat) : Int32.ofNat a + Int32.ofNat b = Int32.ofNat (a + b) := (Int32.ofNat_add a b).symm
theorem own_on {k : Nat} (h : k < 2147483648) : (Int32.ofNat k).toInt = k := Int32.toInt_ofNat_of_lt (by omega)
theorem own_nn {k : Nat} (h : k < 2147483648) : ¬ (Int32.ofNat k) < 0 := by
  rw [Int32.lt_iff_toInt_lt, own_on h]; have : (0 : Int32).toInt = 0 := rfl; omega
theorem own_cl {k : Nat} (h : k < 2147483648) : (Int32.ofNat k).toNatClampNeg = k := by
  have e := own_on h; simp only [Int32.toNatClampNeg]; omega
theorem own_sb {k : Nat} {z : Int32} (h : k < 1000) (h0 : 0 ≤ z.toInt) (h1 : z.toInt < 1000) : (Int32.ofNat k - z).toInt = k - z.toInt := by
  rw [Int32.toInt_sub, own_on (by omega)]; exact Int.bmod_eq_of_le (by omega) (by omega)
theorem own_n0 {k : Nat} {z : Int32} (h : k < 1000) (h0 : 0 ≤ z.toInt) (h1 : z.toInt < 1000) (q : (k : Int) ≤ z.toInt) : ¬ 0 < Int32.ofNat k - z := by
  rw [Int32.lt_iff_toInt_lt, own_sb h h0 h1]; have : (0 : Int32).toInt = 0 := rfl; omega
theorem own_p0 {k : Nat} {z : Int32} (h : k < 1000) (h0 : 0 ≤ z.toInt) (h1 : z.toInt < 1000) (q : z.toInt < (k : Int)) : 0 < Int32.ofNat k - z := by
  rw [Int32.lt_iff_toInt_lt, own_sb h h0 h1]; have : (0 : Int32).toInt = 0 := rfl; omega
theorem own_mx {k : Nat} {z w : Int32} (h : k < 1000) (h0 : 0 ≤ z.toInt) (h1 : z.toInt < 1000) (q : (k : Int) < z.toInt + w.toInt) : Int32.ofNat k - z < w := by
  rw [Int32.lt_iff_toInt_lt, own_sb h h0 h1]; omega
end OwnSB
section OwnInt
variable {p : Program} {l : Launch} {e : Env} {R : Room} {s : State} {args : Array Value} {below : List Frame} {Z : State} {a0 : Array Value} {h h' : Heap}
/-- the digits of n, the first one first -/
def decN (n : Nat) : List Int32 := (List.range (SBG.digits n)).map fun i => Int32.ofNat (48 + n / 10 ^ (SBG.digits n - 1 - i) % 10)
def decI (x : Int32) (n : Nat) : List Int32 := (if x < 0 then [45] else []) ++ decN n
theorem decN_len (n : Nat) : (decN n).length = SBG.digits n := by simp [decN]
theorem decI_len (x : Int32) (n : Nat) : (decI x n).length = SBG.digits n + SBG.GetChars.sgn x := by
  unfold decI SBG.GetChars.sgn; rw [List.length_append, decN_len]; split
  · simp [Nat.add_comm]
  · simp
theorem decN_at {n i : Nat} (hi : i < SBG.digits n) : (decN n)[i]? = some (Int32.ofNat (48 + n / 10 ^ (SBG.digits n - 1 - i) % 10)) := by
  unfold decN; rw [List.getElem?_map, List.getElem?_range hi]; rfl
theorem sgn_le (x : Int32) : SBG.GetChars.sgn x ≤ 1 := by unfold SBG.GetChars.sgn; split <;> omega
/-- Integer's two tables of digits, as they lie at the start -/
def Dg (Z : State) (st d1 : Addr) (D1 : Cell) (d2 : Addr) (D2 : Cell) : Prop := SBG.Tbl Z "DigitOnes" st d1 D1 ∧ SBG.Tbl Z "DigitTens" st d2 D2 ∧ SBG.Ones D1 ∧ SBG.Tens D2 ∧ Z.heap[d1]? = some D1 ∧ Z.heap[d2]? = some D2 ∧ st < Z.heap.size
def QGC (Z : State) (da : Addr) (kd : ClassId) (z : Int32) (cs : List Int32) (h : Heap) (n0 : Nat) (v : Option Value) (h' : Heap) (L : List Loc) : Prop := (∃ r : Int32, v = some (.int r)) ∧ Fr n0 L ∧ Keep h h' [da] ∧ Arv Z h' da kd .byte z (BY cs) (.int 0)
theorem byD (l : List Int32) (k : Nat) : (BY l).getD k (.int 0) = .int ((l.getD k 0).toInt8.toInt32) := by
  simp only [BY, List.getD_eq_getElem?_getD, List.getElem?_map]
  cases l[k]? <;> rfl
theorem gc_at {x : Int32} {n : Nat} {cs : List Int32} {k : Nat} (h1 : cs.length ≤ k) (h2 : k < cs.length + (SBG.digits n + SBG.GetChars.sgn x)) (h3 : cs.length + SBG.GetChars.sgn x ≤ k) :
    (cs ++ decI x n).getD k 0 = Int32.ofNat (48 + n / 10 ^ (cs.length + (SBG.digits n + SBG.GetChars.sgn x) - 1 - k) % 10) := by
  rw [List.getD_eq_getElem?_getD, List.getElem?_append_right h1]
  have e : ((if x < 0 then [45] else [] : List Int32)).length = SBG.GetChars.sgn x := by unfold SBG.GetChars.sgn; split <;> rfl
  unfold decI
  rw [List.getElem?_append_right (by rw [e]; omega), e, decN_at (by omega)]
  show Int32.ofNat _ = _
  congr 5; omega
theorem gc_sg {x : Int32} {n : Nat} {cs : List Int32} (hx : x < 0) : (cs ++ decI x n).getD cs.length 0 = 45 := by
  rw [List.getD_eq_getElem?_getD, List.getElem?_append_right (Nat.le_refl _)]; unfold decI; rw [if_pos hx]; simp
theorem gc_has {x : Int32} {n : Nat} {cs : List Int32} {A D1 D2 : Cell} {st d1 d2 da : Addr} (h1 : SBG.Ones D1) (h2 : SBG.Tens D2) (hn : n ≤ 2 ^ 31) (hA : Has A (BY cs) (.int 0)) (hroom : cs.length + (SBG.digits n + SBG.GetChars.sgn x) ≤ A.slots.size) (hsz : (SBG.GetChars.outCell ⟨x, n, cs.length + (SBG.digits n + SBG.GetChars.sgn x), da, A, st, d1, D1, d2, D2⟩).slots.size = A.slots.size) :
    Has (SBG.GetChars.outCell ⟨x, n, cs.length + (SBG.digits n + SBG.GetChars.sgn x), da, A, st, d1, D1, d2, D2⟩) (BY (cs ++ decI x n)) (.int 0) := fun k hk => by
  obtain ⟨o1, o2, o3⟩ := SBG.outCell_at (⟨x, n, cs.length + (SBG.digits n + SBG.GetChars.sgn x), da, A, st, d1, D1, d2, D2⟩ : SBG.GetChars.G) h1 h2 hn (by show SBG.digits n + SBG.GetChars.sgn x ≤ cs.length + (SBG.digits n + SBG.GetChars.sgn x); omega) hroom
  dsimp only at o1 o2 o3
  rw [hsz] at hk
  rw [byD]
  by_cases c1 : k < cs.length
  · rw [o3 k (Or.inl (by omega)), hA k hk, byD]
    rw [List.getD_eq_getElem?_getD, List.getD_eq_getElem?_getD, List.getElem?_append_left c1]
  by_cases c2 : cs.length + (SBG.digits n + SBG.GetChars.sgn x) ≤ k
  · rw [o3 k (Or.inr c2), hA k hk, byD]
    rw [List.getD_eq_getElem?_getD, List.getD_eq_getElem?_getD, List.getElem?_eq_none (by omega), List.getElem?_eq_none (by rw [List.length_append, decI_len]; omega)]
  by_cases c3 : cs.length + SBG.GetChars.sgn x ≤ k
  · rw [gc_at (by omega) (by omega) c3, SBG.dgNarrow _ (by omega)]
    have q := o1 (cs.length + (SBG.digits n + SBG.GetChars.sgn x) - 1 - k) (by omega)
    rw [show cs.length + (SBG.digits n + SBG.GetChars.sgn x) - 1 - (cs.length + (SBG.digits n + SBG.GetChars.sgn x) - 1 - k) = k by omega] at q
    exact q
  · have hx : x < 0 := by
      by_cases q : x < 0
      · exact q
      · have : SBG.GetChars.sgn x = 0 := by simp [SBG.GetChars.sgn, q]
        omega
    have es : SBG.GetChars.sgn x = 1 := by simp [SBG.GetChars.sgn, hx]
    obtain rfl : k = cs.length := by omega
    have q := o2 hx
    rw [es] at q ⊢
    rw [show cs.length + (SBG.digits n + 1) - SBG.digits n - 1 = cs.length by omega] at q
    rw [gc_sg hx]; exact q
theorem payGC (hZ : Z.Warmed39 s.vm) (wc : (Jvm.Cond.code SBG.GetChars.gcN SBG.GetChars.gcB 7 (some .int)).before a0 Z = true) (wf1 : (Jvm.Cond.fieldLink "java/lang/Integer" 83 "java/lang/Integer" "DigitOnes" "[B").before a0 Z = true) (wf2 : (Jvm.Cond.fieldLink "java/lang/Integer" 87 "java/lang/Integer" "DigitTens" "[B").before a0 Z = true) (wi : (Jvm.Cond.initialized "java/lang/Integer").before a0 Z = true)
    {W n0 n : Nat} {x z : Int32} {da st d1 d2 : Addr} {D1 D2 : Cell} {kd : ClassId} {cs : List Int32} (O : Old Z n0 h) (ge : n0 ≤ da) (V : Arv Z h da kd .byte z (BY cs) (.int 0)) (hroom : cs.length + (SBG.digits n + SBG.GetChars.sgn x) ≤ z.toNatClampNeg) (hn : n ≤ 2 ^ 31) (hx : (if x < 0 then x else -x) = SBG.negI n) (D : Dg Z st d1 D1 d2 D2) (hfr : 2 ≤ R.frames) (hlo : W + 78 ≤ R.locals) :
    Pay l R p e below s args (⟨"java/lang/Integer", "getChars", "(II[B)I"⟩ : MethodName) 3 W #[.int x, .int (Int32.ofNat (cs.length + (SBG.digits n + SBG.GetChars.sgn x))), .ref da] h (QGC Z da kd z (cs ++ decI x n) h n0) 0 0 := by
  intro m meth c A g ig mk a X hg hsz hd hW hnm hp
  obtain ⟨rfl, hh, hc, hs⟩ := hp
  have al : Z.vm.Alike A.U.vm := hZ.alike.trans X.warmed.alike
  obtain ⟨C, hA, q1, q2, q3, q4, q5⟩ := V
  obtain ⟨t1, t2, on, te, hd1, hd2, hst⟩ := D
  have lt1 : d1 < Z.heap.size := (Array.getElem?_eq_some_iff.mp hd1).1
  have lt2 : d2 < Z.heap.size := (Array.getElem?_eq_some_iff.mp hd2).1
  have gz : Z.heap.size ≤ da := by rw [O.1]; exact ge
  have zb : z.toNatClampNeg < 2 ^ 31 := by have := z.toInt_lt; simp only [Int32.toNatClampNeg]; omega
  have gv : ∀ i, i < C.slots.size → C.slots.getD i .null = (BY cs).getD i (.int 0) := fun i hi => by rw [Array.getD_eq_getD_getElem?, q4 i hi]; rfl
  obtain ⟨f1, f2, f3, f4, -⟩ := SBG.GetChars.outCell_facts (⟨x, n, cs.length + (SBG.digits n + SBG.GetChars.sgn x), da, C, st, d1, D1, d2, D2⟩ : SBG.GetChars.G) hn (by show SBG.digits n + SBG.GetChars.sgn x ≤ cs.length + (SBG.digits n + SBG.GetChars.sgn x); omega) (fun i hi => by rw [gv i hi]; exact q5 i hi)
  dsimp only at f1 f2 f3
  have H := gc_has (st := st) (d1 := d1) (d2 := d2) (da := da) on te hn q4 (by rw [q2]; exact hroom) f3
  obtain ⟨v, B, X', ⟨r1, r2, r3, r4, r5, r6, L, r7, r8⟩, hst'⟩ := SBG.GetChars.pays (l := l) (R := R) (p := p) (e := e) (below := below) (s := s) (sargs := args) (⟨x, n, cs.length + (SBG.digits n + SBG.GetChars.sgn x), da, C, st, d1, D1, d2, D2⟩ : SBG.GetChars.G) W (by simp only [SBG.GetChars.tab, Cond.before_and, Bool.and_eq_true]; exact ⟨mvT hZ wc, mvT hZ wf1, mvT hZ wf2⟩) (mvT hZ wi) hfr hlo m meth c A g ig mk _ X hg hsz hd hW hnm
    ⟨rfl, by omega, by omega, rfl, by rw [hh]; exact hA.1, State.isArrayOf_alike al hA.2.1, hA.2.2, by show C.slots.size < _; omega, (by show cs.length + (SBG.digits n + SBG.GetChars.sgn x) ≤ C.slots.size; omega), (by show SBG.digits n + SBG.GetChars.sgn x ≤ cs.length + (SBG.digits n + SBG.GetChars.sgn x); omega), hn, hx, t1.move al (fun c q => by rw [hh]; exact O.2.2 _ _ q) (by rw [hh]; exact O.2.2 _ _ hd1), t2.move al (fun c q => by rw [hh]; exact O.2.2 _ _ q) (by rw [hh]; exact O.2.2 _ _ hd2), Nat.ne_of_gt (Nat.lt_of_lt_of_le hst gz), Nat.ne_of_gt (Nat.lt_of_lt_of_le lt1 gz), Nat.ne_of_gt (Nat.lt_of_lt_of_le lt2 gz)⟩
  dsimp only at r1 r2 r6 r8
  refine ⟨v, B, X', ⟨L, ⟨⟨_, r1⟩, fun y hy => by rw [r8 y hy]; exact ge, ⟨by rw [r5, hh]; exact Nat.le_refl _, fun y cy hy hn' => r6 y cy (fun q => hn' (by simp [q])) (by rw [hh]; exact hy), fun y cy hy => ?_⟩, _, ⟨r2, ?_, ?_⟩, by rw [f1]; exact q1, by rw [f3]; exact q2, q3, H, fun i hi => ?_⟩, r7, by rw [r3]; rfl, by rw [r4]; rfl⟩, hst'⟩
  · by_cases q : y = da
    · subst q
      cases hy.symm.trans hA.1
      exact ⟨_, r2, f1, f2, f3⟩
    · exact ⟨cy, r6 y cy q (by rw [hh]; exact hy), rfl, rfl, rfl⟩
  · obtain ⟨u1, u2⟩ := hA.2.1
    exact ⟨fun k => by rw [f2]; exact u1 k, by rw [f1]; exact u2⟩
  · rw [f2]; exact hA.2.2
  · have q := f4 i hi
    rw [Array.getD_eq_getD_getElem?, H i hi] at q
    exact q
theorem paySS (hZ : Z.Warmed39 s.vm) (wc : (Jvm.Cond.code SBG.StrSize.ssN SBG.StrSize.ssB 4 (some .int)).before a0 Z = true) (wi : (Jvm.Cond.initialized "java/lang/Integer").before a0 Z = true) {W n0 n : Nat} {x : Int32} (hn : n ≤ 2 ^ 31) (hx : (if x < 0 then x else -x) = SBG.negI n) (hfr : 2 ≤ R.frames) (hlo : W + 55 ≤ R.locals) :
    Pay l R p e below s args (⟨"java/lang/Integer", "stringSize", "(I)I"⟩ : MethodName) 3 W #[.int x] h (QPure (.int (Int32.ofNat (SBG.digits n + SBG.GetChars.sgn x))) h n0) 0 0 := by
  refine Back.mono (SBG.StrSize.pays (W := W) hfr hlo (mvT hZ wc) (mvT hZ wi)) (fun P a q => ?_) (fun P a v B q hq => ?_)
  · obtain ⟨rfl, q1, q2, q3⟩ := q
    exact ⟨by omega, by omega, x, rfl⟩
  · obtain ⟨rfl, q1, q2, q3⟩ := q
    obtain ⟨⟨u1, u2, u3, u4⟩, u5⟩ := hq
    exact ⟨[], ⟨by rw [← SBG.strSizeOf_eq hn hx]; exact u5 x rfl, Fr.nil n0, u1.trans q1⟩, by rw [u2, List.append_nil], by rw [u3]; rfl, by rw [u4]; rfl⟩
end OwnInt
section OwnArith
theorem own_addl20 (b : Nat) : (20 : Int32) + Int32.ofNat b = Int32.ofNat (20 + b) := own_add 20 b
theorem own_addl24 (b : Nat) : (24 : Int32) + Int32.ofNat b = Int32.ofNat (24 + b) := own_add 24 b
theorem own_addr1 (b : Nat) : Int32.ofNat b + (1 : Int32) = Int32.ofNat (b + 1) := own_add b 1
theorem own_addr3 (b : Nat) : Int32.ofNat b + (3 : Int32) = Int32.ofNat (b + 3) := own_add b 3
theorem own_addr4 (b : Nat) : Int32.ofNat b + (4 : Int32) = Int32.ofNat (b + 4) := own_add b 4
theorem own_dg (x : Int32) (n : Nat) {k z : Nat} (h : k + 11 ≤ z) : k + (SBG.digits n + SBG.GetChars.sgn x) ≤ z := by
  have := (SBG.digits_pos n).2; have := sgn_le x; omega
theorem own_on64 {k : Nat} (h : k < 9223372036854775808) : (Int64.ofNat k).toInt = k := Int64.toInt_ofNat_of_lt (by omega)
theorem own_ab {x : Int32} {n : Nat} (hn : n ≤ 2 ^ 31) (hx : (if x < 0 then x else -x) = SBG.negI n) : x.toInt = if x < 0 then -(n : Int) else n := by
  have e := SBG.negI_toInt hn
  have k0 : (0 : Int32).toInt = 0 := rfl
  by_cases q : x < 0
  · rw [if_pos q] at hx ⊢; rw [hx]; exact e
  · rw [if_neg q] at hx ⊢
    rw [← hx, Int32.toInt_neg] at e
    rw [Int32.lt_iff_toInt_lt, k0] at q
    have r := x.toInt_lt
    rw [Int.bmod_eq_of_le (by omega) (by omega)] at e
    omega
theorem own_abs {x : Int32} {n : Nat} (hn : n ≤ 2 ^ 31) (hx : (if x < 0 then x else -x) = SBG.negI n) : (if lcmpW x.toInt64 (0 : Int64) < 0 then -x.toInt64 else x.toInt64) = Int64.ofNat n := by
  have e := own_ab hn hx
  have t : x.toInt64.toInt = x.toInt := by simp
  have k0 : (0 : Int64).toInt = 0 := rfl
  have k1 : (0 : Int32).toInt = 0 := rfl
  rw [← Int64.toInt_inj, own_on64 (by omega)]
  by_cases q : x < 0
  · rw [if_pos q] at e
    rw [Int32.lt_iff_toInt_lt, k1] at q
    rw [if_pos ((lw_lt _ _).mpr (by rw [Int64.lt_iff_toInt_lt, t, k0]; exact q)), Int64.toInt_neg, t, e, Int.bmod_eq_of_le (by omega) (by omega)]; omega
  · rw [if_neg q] at e
    rw [Int32.lt_iff_toInt_lt, k1] at q
    rw [if_neg (mt (lw_lt _ _).mp (by rw [Int64.lt_iff_toInt_lt, t, k0]; exact q)), t, e]
theorem own_lw {n k : Nat} {y : Int64} (hn : n ≤ 2 ^ 31) (hy : y.toInt = (k : Int)) : lcmpW (Int64.ofNat n) y < 0 ↔ n < k := by
  rw [lw_lt, Int64.lt_iff_toInt_lt, own_on64 (by omega), hy]; omega
theorem own_w1 {x : Int32} (d : Nat) (h : x < 0) : (1 : Int32) + Int32.ofNat d = Int32.ofNat (d + SBG.GetChars.sgn x) := by
  unfold SBG.GetChars.sgn; rw [if_pos h, Nat.add_comm]; exact own_add 1 d
theorem own_w0 {x : Int32} (d : Nat) (h : ¬ x < 0) : (0 : Int32) + Int32.ofNat d = Int32.ofNat (d + SBG.GetChars.sgn x) := by
  unfold SBG.GetChars.sgn; rw [if_neg h]; rw [Int32.zero_add]; rfl
theorem own_s2 {d i : Nat} (h : i < d) (hd : d ≤ 10) : Int32.ofNat d - (1 : Int32) - Int32.ofNat i = Int32.ofNat (d - 1 - i) := by
  have e1 : Int32.ofNat d - (1 : Int32) = Int32.ofNat (d - 1) := (Int32.ofNat_sub d 1 (by omega)).symm
  rw [e1, ← Int32.ofNat_sub (d - 1) i (by omega)]
theorem own_lti {i d : Nat} (hi : i < 1000) (hd : d < 1000) : Int32.ofNat i < Int32.ofNat d ↔ i < d := by
  rw [Int32.lt_iff_toInt_lt, own_on (by omega), own_on (by omega)]; omega
theorem own_pb {k : Nat} (h : k < 10) : 0 < 10 ^ k ∧ 10 ^ k ≤ 1000000000 := by
  have : k = 0 ∨ k = 1 ∨ k = 2 ∨ k = 3 ∨ k = 4 ∨ k = 5 ∨ k = 6 ∨ k = 7 ∨ k = 8 ∨ k = 9 := by omega
  rcases this with rfl | rfl | rfl | rfl | rfl | rfl | rfl | rfl | rfl | rfl <;> decide
theorem own_pnz {k : Nat} (h : k < 10) : Int64.ofNat (10 ^ k) ≠ 0 := fun q => by
  have e := own_on64 (k := 10 ^ k) (by have := own_pb h; omega)
  rw [q] at e; have k0 : (0 : Int64).toInt = 0 := rfl; have := own_pb h; omega
theorem own_dv {a b : Nat} (ha : a < 4294967296) (hb : b ≤ 1000000000) : Int64.ofNat a / Int64.ofNat b = Int64.ofNat (a / b) := by
  have hq : a / b ≤ a := Nat.div_le_self a b
  rw [← Int64.toInt_inj, Int64.toInt_div, own_on64 (by omega), own_on64 (by omega), own_on64 (by omega)]
  rw [Int.tdiv_eq_ediv_of_nonneg (by omega), ← Int.natCast_ediv]
  generalize a / b = q at hq ⊢
  exact Int.bmod_eq_of_le (by omega) (by omega)
theorem own_dig {n k : Nat} (hn : n ≤ 2 ^ 31) (hk : k < 10) :
    Int32.ofNat (48 + n / 10 ^ k % 10) = (((48 : Int64) + (Int64.ofNat n / Int64.ofNat (10 ^ k) - (Int64.ofNat n / Int64.ofNat (10 ^ k) / (10 : Int64)) * (10 : Int64))).toInt32.toUInt32.toUInt16.toUInt32.toInt32) := by
  have hp := own_pb hk
  have hle : n / 10 ^ k ≤ n := Nat.div_le_self _ _
  have e10 : (10 : Int64) = Int64.ofNat 10 := rfl
  rw [own_dv (by omega) hp.2, e10, own_dv (b := 10) (by omega) (by omega)]
  generalize n / 10 ^ k = q at hle
  have e1 : Int64.ofNat (q / 10) * Int64.ofNat 10 = Int64.ofNat (q / 10 * 10) := (Int64.ofNat_mul _ _).symm
  have e2 : Int64.ofNat q - Int64.ofNat (q / 10 * 10) = Int64.ofNat (q % 10) := by
    rw [← Int64.ofNat_sub _ _ (by omega)]; congr 1; omega
  have e48 : (48 : Int64) + Int64.ofNat (q % 10) = Int64.ofNat (48 + q % 10) := (Int64.ofNat_add 48 (q % 10)).symm
  rw [e1, e2, e48]
  have hr : q % 10 < 10 := Nat.mod_lt _ (by decide)
  generalize q % 10 = r at hr
  have : r = 0 ∨ r = 1 ∨ r = 2 ∨ r = 3 ∨ r = 4 ∨ r = 5 ∨ r = 6 ∨ r = 7 ∨ r = 8 ∨ r = 9 := by omega
  rcases this with rfl | rfl | rfl | rfl | rfl | rfl | rfl | rfl | rfl | rfl <;> decide
/-- what range() says -/
def rcs (x y : Int32) (n k : Nat) : List Int32 := ([97, 32, 119, 104, 111, 108, 101, 32, 110, 117, 109, 98, 101, 114, 32, 102, 114, 111, 109, 32] : List Int32) ++ decI x n ++ (if y = (2147483647 : Int32) then [32, 117, 112] else ([32, 116, 111, 32] : List Int32) ++ decI y k)
theorem getD_l (a b : List Int32) {j : Nat} (h : j < a.length) : (a ++ b).getD j 0 = a.getD j 0 := by
  rw [List.getD_eq_getElem?_getD, List.getD_eq_getElem?_getD, List.getElem?_append_left h]
theorem getD_r (a b : List Int32) (j : Nat) : (a ++ b).getD (a.length + j) 0 = b.getD j 0 := by
  rw [List.getD_eq_getElem?_getD, List.getD_eq_getElem?_getD, List.getElem?_append_right (by omega)]; congr 2; omega
theorem in8_app {a b : List Int32} (h : In8 a) (g : In8 b) : In8 (a ++ b) := fun c hc => (List.mem_append.mp hc).elim (h c) (g c)
theorem in8_dec (x : Int32) (n : Nat) : In8 (decI x n) := by
  unfold decI
  refine in8_app ?_ ?_
  · split
    · exact In8.cons (by decide) In8.nil
    · exact In8.nil
  · intro c hc
    unfold decN at hc
    obtain ⟨i, -, rfl⟩ := List.mem_map.mp hc
    have hr : n / 10 ^ (SBG.digits n - 1 - i) % 10 < 10 := Nat.mod_lt _ (by decide)
    generalize n / 10 ^ (SBG.digits n - 1 - i) % 10 = r at hr
    have : r = 0 ∨ r = 1 ∨ r = 2 ∨ r = 3 ∨ r = 4 ∨ r = 5 ∨ r = 6 ∨ r = 7 ∨ r = 8 ∨ r = 9 := by omega
    rcases this with rfl | rfl | rfl | rfl | rfl | rfl | rfl | rfl | rfl | rfl <;> decide
theorem in8_20 : In8 ([97, 32, 119, 104, 111, 108, 101, 32, 110, 117, 109, 98, 101, 114, 32, 102, 114, 111, 109, 32] : List Int32) := by unfold In8; decide
theorem rcs_up {x y : Int32} {n k : Nat} (h : y = (2147483647 : Int32)) : rcs x y n k = ([97, 32, 119, 104, 111, 108, 101, 32, 110, 117, 109, 98, 101, 114, 32, 102, 114, 111, 109, 32] : List Int32) ++ decI x n ++ [32, 117, 112] := by unfold rcs; rw [if_pos h]
theorem rcs_to {x y : Int32} {n k : Nat} (h : ¬ y = (2147483647 : Int32)) : rcs x y n k = ([97, 32, 119, 104, 111, 108, 101, 32, 110, 117, 109, 98, 101, 114, 32, 102, 114, 111, 109, 32] : List Int32) ++ decI x n ++ (([32, 116, 111, 32] : List Int32) ++ decI y k) := by unfold rcs; rw [if_neg h]
theorem rcs_in8 (x y : Int32) (n k : Nat) : In8 (rcs x y n k) := by
  by_cases h : y = (2147483647 : Int32)
  · rw [rcs_up h]; exact in8_app (in8_app in8_20 (in8_dec x n)) (by unfold In8; decide)
  · rw [rcs_to h]; exact in8_app (in8_app in8_20 (in8_dec x n)) (in8_app (by unfold In8; decide) (in8_dec y k))
theorem rcs_lu {x y : Int32} {n k : Nat} (h : y = (2147483647 : Int32)) : (rcs x y n k).length = 20 + (SBG.digits n + SBG.GetChars.sgn x) + 3 := by
  rw [rcs_up h]; simp only [List.length_append, decI_len, List.length_cons, List.length_nil]
theorem rcs_lt {x y : Int32} {n k : Nat} (h : ¬ y = (2147483647 : Int32)) : (rcs x y n k).length = 20 + (SBG.digits n + SBG.GetChars.sgn x) + 4 + (SBG.digits k + SBG.GetChars.sgn y) := by
  rw [rcs_to h]; simp only [List.length_append, decI_len, List.length_cons, List.length_nil]; omega
theorem rcs_le (x y : Int32) (n k : Nat) : (rcs x y n k).length ≤ 4000 := by
  have a := (SBG.digits_pos n).2; have b := (SBG.digits_pos k).2; have c := sgn_le x; have d := sgn_le y
  by_cases h : y = (2147483647 : Int32)
  · rw [rcs_lu h]; omega
  · rw [rcs_lt h]; omega
theorem rcs_ge (x y : Int32) (n k : Nat) : 20 + (SBG.digits n + SBG.GetChars.sgn x) + 3 ≤ (rcs x y n k).length := by
  by_cases h : y = (2147483647 : Int32)
  · rw [rcs_lu h]; omega
  · rw [rcs_lt h]; omega
theorem rcs_a (x y : Int32) (n k j : Nat) (hj : j < 20) : (rcs x y n k).getD (0 + j) 0 = ([97, 32, 119, 104, 111, 108, 101, 32, 110, 117, 109, 98, 101, 114, 32, 102, 114, 111, 109, 32] : List Int32).getD j 0 := by
  rw [Nat.zero_add]; unfold rcs; rw [List.append_assoc, getD_l _ _ (by simpa using hj)]
theorem rcs_b (x y : Int32) (n k j : Nat) (hj : j < (decI x n).length) : (rcs x y n k).getD (20 + j) 0 = (decI x n).getD j 0 := by
  unfold rcs; rw [List.append_assoc]
  have := getD_r ([97, 32, 119, 104, 111, 108, 101, 32, 110, 117, 109, 98, 101, 114, 32, 102, 114, 111, 109, 32] : List Int32) (decI x n ++ (if y = (2147483647 : Int32) then [32, 117, 112] else ([32, 116, 111, 32] : List Int32) ++ decI y k)) j
  exact this.trans (getD_l _ _ hj)
theorem rcs_c {x y : Int32} {n k : Nat} (h : y = (2147483647 : Int32)) (j : Nat) : (rcs x y n k).getD (20 + (SBG.digits n + SBG.GetChars.sgn x) + j) 0 = ([32, 117, 112] : List Int32).getD j 0 := by
  rw [rcs_up h, ← decI_len]
  have := getD_r (([97, 32, 119, 104, 111, 108, 101, 32, 110, 117, 109, 98, 101, 114, 32, 102, 114, 111, 109, 32] : List Int32) ++ decI x n) [32, 117, 112] j
  rw [List.length_append] at this
  exact this
theorem rcs_d {x y : Int32} {n k : Nat} (h : ¬ y = (2147483647 : Int32)) (j : Nat) (hj : j < 4) : (rcs x y n k).getD (20 + (SBG.digits n + SBG.GetChars.sgn x) + j) 0 = ([32, 116, 111, 32] : List Int32).getD j 0 := by
  rw [rcs_to h, ← decI_len]
  have := getD_r (([97, 32, 119, 104, 111, 108, 101, 32, 110, 117, 109, 98, 101, 114, 32, 102, 114, 111, 109, 32] : List Int32) ++ decI x n) (([32, 116, 111, 32] : List Int32) ++ decI y k) j
  rw [List.length_append] at this
  exact this.trans (getD_l _ _ (by simpa using hj))
theorem rcs_e {x y : Int32} {n k : Nat} (h : ¬ y = (2147483647 : Int32)) (j : Nat) : (rcs x y n k).getD (24 + (SBG.digits n + SBG.GetChars.sgn x) + j) 0 = (decI y k).getD j 0 := by
  rw [rcs_to h, ← decI_len, ← List.append_assoc]
  have := getD_r ((([97, 32, 119, 104, 111, 108, 101, 32, 110, 117, 109, 98, 101, 114, 32, 102, 114, 111, 109, 32] : List Int32) ++ decI x n) ++ ([32, 116, 111, 32] : List Int32)) (decI y k) j
  rw [List.length_append, List.length_append] at this
  rw [← this]; congr 1; simp only [List.length_cons, List.length_nil]; omega
theorem dec_d {x : Int32} {n j : Nat} (hj : j < SBG.digits n) : (decI x n).getD (SBG.GetChars.sgn x + j) 0 = Int32.ofNat (48 + n / 10 ^ (SBG.digits n - 1 - j) % 10) := by
  unfold decI
  have e : ((if x < 0 then [45] else [] : List Int32)).length = SBG.GetChars.sgn x := by unfold SBG.GetChars.sgn; split <;> rfl
  rw [← e, getD_r, List.getD_eq_getElem?_getD, decN_at hj]; rfl
theorem dec_s {x : Int32} {n : Nat} (h : x < 0) : (decI x n).getD 0 0 = 45 := by unfold decI; rw [if_pos h]; rfl
end OwnArith
section OwnDg
variable {Z : State} {a0 : Array Value}
/-- Integer's tables out of the set's words -/
theorem own_bytesC (hf : Fit Z) {n : String} (wx : (Jvm.Cond.exactly (SBG.Tof n) "[B").before a0 Z = true) (wl : (Jvm.Cond.eq (.length (SBG.Tof n)) (.int 100)).before a0 Z = true) (wa : (Jvm.Cond.arrayClass .byte).before a0 Z = true) : (SBG.bytesC (SBG.Tof n)).before a0 Z = true := by
  obtain ⟨d, cB, D, kB, hev, hfcB, hcellD, hkB, hstatD, hclsD, -⟩ := Cond.exactly_spec wx
  have hevAll : ∀ idx, (SBG.Tof n).eval a0 Z none idx Z = some (.ref d) := fun idx => by
    have : (SBG.Tof n).eval a0 Z none idx Z = (SBG.Tof n).eval a0 Z none [] Z := by simp only [SBG.Tof, Term.eval]
    rw [this]; exact hev
  have hl := Cond.eq_int wl rfl
  obtain ⟨d', D', hev', harrAt, hlen⟩ := Term.length_spec hl
  cases hev.symm.trans hev'
  obtain ⟨hcellD', hknD, -, -⟩ := State.arrayAt?_spec harrAt
  cases hcellD.symm.trans hcellD'
  have h31 := SBG.length_lt hev harrAt hl
  obtain ⟨cB', kB', comp, hnameB, hkB', hkindB⟩ := Cond.arrayClass_spec wa
  have eBA : ("[" ++ FieldType.toString .byte) = "[B" := by decide
  rw [eBA] at hnameB
  cases hfcB.symm.trans hnameB
  cases hkB.symm.trans hkB'
  have hby : Z.isArrayOf D .byte := ⟨(fun q h => by rw [h] at hstatD; cases hstatD), kB, (by rw [hclsD]; exact hkB), comp, hkindB⟩
  exact SBG.bytesC_of_fits hevAll harrAt h31 (fun i hi => SBG.fits_byte_of_slot hby hi (hf hcellD hi))
theorem own_Dg (hf : Fit Z) (wi : (Jvm.Cond.initialized SBG.INT).before a0 Z = true) (wa : (Jvm.Cond.arrayClass .byte).before a0 Z = true)
    (l1 : (Jvm.Cond.laysStatic SBG.INT "DigitOnes" "[B").before a0 Z = true) (x1 : (Jvm.Cond.exactly (SBG.Tof "DigitOnes") "[B").before a0 Z = true) (n1 : (Jvm.Cond.eq (.length (SBG.Tof "DigitOnes")) (.int 100)).before a0 Z = true) (o1 : SBG.onesW.before a0 Z = true)
    (l2 : (Jvm.Cond.laysStatic SBG.INT "DigitTens" "[B").before a0 Z = true) (x2 : (Jvm.Cond.exactly (SBG.Tof "DigitTens") "[B").before a0 Z = true) (n2 : (Jvm.Cond.eq (.length (SBG.Tof "DigitTens")) (.int 100)).before a0 Z = true) (o2 : SBG.tensW.before a0 Z = true) :
    ∃ (st d1 : Addr) (D1 : Cell) (d2 : Addr) (D2 : Cell), Dg Z st d1 D1 d2 D2 := by
  obtain ⟨c, k, st, d1, D1, q1, q2, q3, T1, O1⟩ := SBG.ones_of_words (fun w hw => by
    simp only [SBG.tblW, List.mem_cons, List.not_mem_nil, or_false] at hw
    rcases hw with rfl | rfl | rfl | rfl
    · exact l1
    · exact x1
    · exact n1
    · exact own_bytesC hf x1 n1 wa) o1 wi wa
  obtain ⟨c', k', st', d2, D2, r1, r2, r3, T2, O2⟩ := SBG.tens_of_words (fun w hw => by
    simp only [SBG.tblW, List.mem_cons, List.not_mem_nil, or_false] at hw
    rcases hw with rfl | rfl | rfl | rfl
    · exact l2
    · exact x2
    · exact n2
    · exact own_bytesC hf x2 n2 wa) o2 wi wa
  cases q1.symm.trans r1
  cases q2.symm.trans r2
  cases q3.symm.trans r3
  have h1 := T1.choose_spec.choose_spec.choose_spec.choose_spec.choose_spec.2.2.2.2.2.2.2.1
  have h2 := T2.choose_spec.choose_spec.choose_spec.choose_spec.choose_spec.2.2.2.2.2.2.2.1
  have hs := T1.choose_spec.choose_spec.choose_spec.choose_spec.choose_spec.2.2.2.2.1
  exact ⟨st, d1, D1, d2, D2, T1, T2, O1, O2, h1, h2, (Array.getElem?_eq_some_iff.mp hs).1⟩
end OwnDg
theorem d_j30_m1_0 : decode jdk_30_method_1_code 0 = .ok (.aload_n 0, 1) := by decide +kernel
theorem d_j30_m1_1 : decode jdk_30_method_1_code 1 = .ok (.invokespecial 1, 3) := by decide +kernel
theorem d_j30_m1_4 : decode jdk_30_method_1_code 4 = .ok (.return_, 1) := by decide +kernel
theorem pn_0 : plainName "java/lang/Record" = true := by first | (simp [plainName, overriddenIn]; done) | decide +kernel
def Q_rm_rec (a : Addr) (h0 : Heap) (n0 : Nat) (v : Option Value) (h : Heap) (L : List Loc) : Prop := v = none ∧ Fr n0 L ∧ h = h0
set_option maxRecDepth 65536 in
set_option maxHeartbeats 40000000 in
theorem rm_rec (l : Launch) (Z : State) (a0 : Array Value) (hw : ∀ d ∈ tables_1, d.before a0 Z = true) (ws : List Jvm.Cond) (a : Addr) (h0 : Heap) (n0 : Nat) (O0 : Old Z n0 h0)  :
    Meets l (⟨"java/lang/Record", "<init>", "()V"⟩ : MethodName) jdk_30_method_1_code 1 none ws ({ frames := 1, cells := 0, slots := 0, locals := 12 } : Room) Z #[(.ref a)] h0 (Q_rm_rec a h0 n0) 0 0 := by
  refine enter (Ls := #[.val (.ref a)]) (plainFor_of_name pn_0) (fun m => by first | (simp [entryFrame, mkF, argsToLocals, Value.category]; done) | rfl) ?_
  intro p e s m below meth c T0 hx hby hml hown hnm hret hlk hZ X0 e0
  have N0 := Fr.nil n0
  replace hown : s.vm.findClass "java/lang/Record" = some m.cls := hown
  show Run p e below _ (T0.setTop (mkF m 0 #[.val (.ref a)] []))
  refine go (fun _ => XS.aloadN X0.here hx rfl (hb hby d_j30_m1_0) rfl rfl) ?_
  show Run p e below _ (T0.setTop (mkF m 1 #[.val (.ref a)] [(.ref a)]))
  obtain ⟨T1, X1, e1, st1⟩ := initO X0 hx hZ hown (wd hw 11 rfl) (wd hw 12 rfl) (wd hw 13 rfl) e0 (g := (mkF m 1 #[.val (.ref a)] [(.ref a)])) rfl (by rw [hml]; rfl) rfl (hb hby d_j30_m1_1) (by decide) (W := 0) (by show 2 * 0 + _ ≤ _; exact Nat.le_of_eq rfl) (by decide)
  refine go st1 ?_
  show Run p e below _ (T1.setTop (mkF m 4 #[.val (.ref a)] []))
  exact endV X1 hx hlk hret (hb hby d_j30_m1_4) (⟨rfl, N0, e1⟩) (by decide) (by decide)
theorem d_p7_m1_0 : decode prog_7_method_1_code 0 = .ok (.aload_n 0, 1) := by decide +kernel
theorem d_p7_m1_1 : decode prog_7_method_1_code 1 = .ok (.invokespecial 3, 3) := by decide +kernel
theorem pd_0 : parseMethodDescriptor "()V" = some ⟨[], none⟩ := by decide +kernel
theorem d_p7_m1_4 : decode prog_7_method_1_code 4 = .ok (.aload_n 0, 1) := by decide +kernel
theorem d_p7_m1_5 : decode prog_7_method_1_code 5 = .ok (.iload_n 1, 1) := by decide +kernel
theorem d_p7_m1_6 : decode prog_7_method_1_code 6 = .ok (.putfield 9, 3) := by decide +kernel
theorem d_p7_m1_9 : decode prog_7_method_1_code 9 = .ok (.aload_n 0, 1) := by decide +kernel
theorem d_p7_m1_10 : decode prog_7_method_1_code 10 = .ok (.iload_n 2, 1) := by decide +kernel
theorem d_p7_m1_11 : decode prog_7_method_1_code 11 = .ok (.putfield 15, 3) := by decide +kernel
theorem d_p7_m1_14 : decode prog_7_method_1_code 14 = .ok (.return_, 1) := by decide +kernel
theorem pn_1 : plainName "com/example/visit_by_value/visitbyvalue/cli/OptionValue$WholeNumber" = true := by first | (simp [plainName, overriddenIn]; done) | decide +kernel
def Q_rm_wn (Z : State) (a : Addr) (p1 p2 : Int32) (h0 : Heap) (n0 : Nat) (v : Option Value) (h : Heap) (L : List Loc) : Prop := v = none ∧ Fr n0 L ∧ Keep h0 h [a] ∧ Fld Z h a "com/example/visit_by_value/visitbyvalue/cli/OptionValue$WholeNumber" "low" "I" (.int p1) ∧ Fld Z h a "com/example/visit_by_value/visitbyvalue/cli/OptionValue$WholeNumber" "high" "I" (.int p2)
set_option maxRecDepth 65536 in
set_option maxHeartbeats 40000000 in
theorem rm_wn (l : Launch) (Z : State) (a0 : Array Value) (hw : ∀ d ∈ tables_1, d.before a0 Z = true) (ws : List Jvm.Cond) (a : Addr) (p1 p2 : Int32) (h0 : Heap) (n0 : Nat) (O0 : Old Z n0 h0) (E_a : Exa Z h0 a "com/example/visit_by_value/visitbyvalue/cli/OptionValue$WholeNumber") (F_low_a : Fld Z h0 a "com/example/visit_by_value/visitbyvalue/cli/OptionValue$WholeNumber" "low" "I" (.int (0 : Int32))) (F_high_a : Fld Z h0 a "com/example/visit_by_value/visitbyvalue/cli/OptionValue$WholeNumber" "high" "I" (.int (0 : Int32))) (g_a : n0 ≤ a) :
    Meets l (⟨"com/example/visit_by_value/visitbyvalue/cli/OptionValue$WholeNumber", "<init>", "(II)V"⟩ : MethodName) prog_7_method_1_code 3 none ws ({ frames := 2, cells := 0, slots := 0, locals := 24 } : Room) Z #[(.ref a), (.int p1), (.int p2)] h0 (Q_rm_wn Z a p1 p2 h0 n0) 0 0 := by
  refine enter (Ls := #[.val (.ref a), .val (.int p1), .val (.int p2)]) (plainFor_of_name pn_1) (fun m => by first | (simp [entryFrame, mkF, argsToLocals, Value.category]; done) | rfl) ?_
  intro p e s m below meth c T0 hx hby hml hown hnm hret hlk hZ X0 e0
  have N0 := Fr.nil n0
  replace hown : s.vm.findClass "com/example/visit_by_value/visitbyvalue/cli/OptionValue$WholeNumber" = some m.cls := hown
  show Run p e below _ (T0.setTop (mkF m 0 #[.val (.ref a), .val (.int p1), .val (.int p2)] []))
  have K0 := Keep.refl h0 [a]
  refine go (fun _ => XS.aloadN X0.here hx rfl (hb hby d_p7_m1_0) rfl rfl) ?_
  show Run p e below _ (T0.setTop (mkF m 1 #[.val (.ref a), .val (.int p1), .val (.int p2)] [(.ref a)]))
  refine callSp X0 hx hZ rfl hown (wd hw 6 rfl) (wd hw 7 rfl) (wd hw 10 rfl) (wd hw 9 rfl) (by decide) e0 (a := a) (argsL := []) (rest := []) (rm_rec l Z a0 hw [] a h0 n0 O0) (W := 0) (by decide) (by decide) (by decide) (by decide) (by rw [hml]; rfl) (lenOf pd_0 rfl) rfl (Nat.le_of_eq rfl) (hb hby d_p7_m1_1) ?_
  intro v2 T2 L2 h2 X2 e2 q2
  obtain ⟨rfl, n2, k2⟩ := q2
  have e2 := e2.trans k2
  have N2 := Fr.app N0 n2
  show Run p e below _ (T2.setTop (mkF m 4 #[.val (.ref a), .val (.int p1), .val (.int p2)] []))
  refine go (fun _ => XS.aloadN X2.here hx rfl (hb hby d_p7_m1_4) rfl rfl) ?_
  show Run p e below _ (T2.setTop (mkF m 5 #[.val (.ref a), .val (.int p1), .val (.int p2)] [(.ref a)]))
  refine go (fun _ => XS.iloadN X2.here hx rfl (hb hby d_p7_m1_5) rfl) ?_
  show Run p e below _ (T2.setTop (mkF m 6 #[.val (.ref a), .val (.int p1), .val (.int p2)] [(.int p1), (.ref a)]))
  obtain ⟨T3, h3, X3, e3, W3, st3⟩ := putF X2 hx hZ hown (host := "") (Or.inl (wd hw 14 rfl)) Via.refl e2 F_low_a E_a (Or.inr ⟨(wd hw 15 rfl), rfl, hnm⟩) (wd hw 1 rfl) (ty := .int) (by decide) rfl rfl (g := (mkF m 6 #[.val (.ref a), .val (.int p1), .val (.int p2)] [(.int p1), (.ref a)])) rfl rfl (hb hby d_p7_m1_6)
  have O0 := O0.wr W3 g_a
  have E_a := E_a.wr W3
  have F_low_a := F_low_a.same W3
  have F_high_a := F_high_a.other W3 (Or.inr (slot_ne (Or.inr (wd hw 17 rfl)) (Or.inr (wd hw 15 rfl)) (by decide) (t := .int) (t' := .int) (by decide) (by decide)))
  have K0 := K0.wr W3 (Or.inl (by simp))
  have N3 := Fr.snoc X3 N2 g_a
  refine go st3 ?_
  show Run p e below _ (T3.setTop (mkF m 9 #[.val (.ref a), .val (.int p1), .val (.int p2)] []))
  refine go (fun _ => XS.aloadN X3.here hx rfl (hb hby d_p7_m1_9) rfl rfl) ?_
  show Run p e below _ (T3.setTop (mkF m 10 #[.val (.ref a), .val (.int p1), .val (.int p2)] [(.ref a)]))
  refine go (fun _ => XS.iloadN X3.here hx rfl (hb hby d_p7_m1_10) rfl) ?_
  show Run p e below _ (T3.setTop (mkF m 11 #[.val (.ref a), .val (.int p1), .val (.int p2)] [(.int p2), (.ref a)]))
  obtain ⟨T4, h4, X4, e4, W4, st4⟩ := putF X3 hx hZ hown (host := "") (Or.inl (wd hw 16 rfl)) Via.refl e3 F_high_a E_a (Or.inr ⟨(wd hw 17 rfl), rfl, hnm⟩) (wd hw 1 rfl) (ty := .int) (by decide) rfl rfl (g := (mkF m 11 #[.val (.ref a), .val (.int p1), .val (.int p2)] [(.int p2), (.ref a)])) rfl rfl (hb hby d_p7_m1_11)
  have O0 := O0.wr W4 g_a
  have E_a := E_a.wr W4
  have F_low_a := F_low_a.other W4 (Or.inr (slot_ne (Or.inr (wd hw 15 rfl)) (Or.inr (wd hw 17 rfl)) (by decide) (t := .int) (t' := .int) (by decide) (by decide)))
  have F_high_a := F_high_a.same W4
  have K0 := K0.wr W4 (Or.inl (by simp))
  have N4 := Fr.snoc X4 N3 g_a
  refine go st4 ?_
  show Run p e below _ (T4.setTop (mkF m 14 #[.val (.ref a), .val (.int p1), .val (.int p2)] []))
  exact endV X4 hx hlk hret (hb hby d_p7_m1_14) (by rw [e4]; exact ⟨rfl, N4, K0, F_low_a, F_high_a⟩) (by decide) (by decide)
theorem d_j68_m2_0 : decode jdk_68_method_2_code 0 = .ok (.aload_n 0, 1) := by decide +kernel
theorem d_j68_m2_1 : decode jdk_68_method_2_code 1 = .ok (.invokespecial 3, 3) := by decide +kernel
theorem d_j68_m2_4 : decode jdk_68_method_2_code 4 = .ok (.getstatic 18, 3) := by decide +kernel
theorem d_j68_m2_7 : decode jdk_68_method_2_code 7 = .ok (.ifCond .eq 18, 3) := by decide +kernel
theorem d_j68_m2_10 : decode jdk_68_method_2_code 10 = .ok (.aload_n 0, 1) := by decide +kernel
theorem d_j68_m2_11 : decode jdk_68_method_2_code 11 = .ok (.iload_n 1, 1) := by decide +kernel
theorem d_j68_m2_12 : decode jdk_68_method_2_code 12 = .ok (.newarray .byte, 2) := by decide +kernel
theorem d_j68_m2_14 : decode jdk_68_method_2_code 14 = .ok (.putfield 15, 3) := by decide +kernel
theorem d_j68_m2_17 : decode jdk_68_method_2_code 17 = .ok (.aload_n 0, 1) := by decide +kernel
theorem d_j68_m2_18 : decode jdk_68_method_2_code 18 = .ok (.iconst 0, 1) := by decide +kernel
theorem d_j68_m2_19 : decode jdk_68_method_2_code 19 = .ok (.putfield 22, 3) := by decide +kernel
theorem d_j68_m2_22 : decode jdk_68_method_2_code 22 = .ok (.goto 16, 3) := by decide +kernel
theorem d_j68_m2_38 : decode jdk_68_method_2_code 38 = .ok (.return_, 1) := by decide +kernel
theorem pn_2 : plainName "java/lang/AbstractStringBuilder" = true := by first | (simp [plainName, overriddenIn]; done) | decide +kernel
def Q_rm_asbi (Z : State) (b : Addr) (zc : Int32) (h0 : Heap) (n0 : Nat) (v : Option Value) (h : Heap) (L : List Loc) : Prop := ∃ (d2 : Addr) (k2 : ClassId), v = none ∧ Fr n0 L ∧ Keep h0 h [b] ∧ h0.size ≤ d2 ∧ n0 ≤ d2 ∧ Exa Z h d2 "[B" ∧ Fld Z h b "java/lang/AbstractStringBuilder" "value" "[B" (.ref d2) ∧ Fld Z h b "java/lang/AbstractStringBuilder" "coder" "B" (.int (0 : Int32)) ∧ Fld Z h b "java/lang/AbstractStringBuilder" "count" "I" (.int (Int32.ofNat (([] : List Int32)).length)) ∧ Arv Z h d2 k2 .byte (16 : Int32) (BY ([] : List Int32)) (.int 0)
set_option maxRecDepth 65536 in
set_option maxHeartbeats 40000000 in
theorem rm_asbi (l : Launch) (Z : State) (a0 : Array Value) (hw : ∀ d ∈ tables_1, d.before a0 Z = true) (ws : List Jvm.Cond) (b : Addr) (zc : Int32) (h0 : Heap) (n0 : Nat) (O0 : Old Z n0 h0) (S_COMPACT_STRINGS : Sta Z Z.heap "java/lang/String" "COMPACT_STRINGS" "Z" (.int zc)) (hzc : ¬ zc = 0) (E_b : Exa Z h0 b "java/lang/StringBuilder") (F_value_b : Fld Z h0 b "java/lang/AbstractStringBuilder" "value" "[B" .null) (F_coder_b : Fld Z h0 b "java/lang/AbstractStringBuilder" "coder" "B" (.int (0 : Int32))) (F_count_b : Fld Z h0 b "java/lang/AbstractStringBuilder" "count" "I" (.int (0 : Int32))) (g_b : n0 ≤ b) :
    Meets l (⟨"java/lang/AbstractStringBuilder", "<init>", "(I)V"⟩ : MethodName) jdk_68_method_2_code 2 none ws ({ frames := 1, cells := 1, slots := 16, locals := 12 } : Room) Z #[(.ref b), (.int (16 : Int32))] h0 (Q_rm_asbi Z b zc h0 n0) 1 16 := by
  refine enter (Ls := #[.val (.ref b), .val (.int (16 : Int32))]) (plainFor_of_name pn_2) (fun m => by first | (simp [entryFrame, mkF, argsToLocals, Value.category]; done) | rfl) ?_
  intro p e s m below meth c T0 hx hby hml hown hnm hret hlk hZ X0 e0
  have N0 := Fr.nil n0
  replace hown : s.vm.findClass "java/lang/AbstractStringBuilder" = some m.cls := hown
  show Run p e below _ (T0.setTop (mkF m 0 #[.val (.ref b), .val (.int (16 : Int32))] []))
  have K0 := Keep.refl h0 [b]
  refine go (fun _ => XS.aloadN X0.here hx rfl (hb hby d_j68_m2_0) rfl rfl) ?_
  show Run p e below _ (T0.setTop (mkF m 1 #[.val (.ref b), .val (.int (16 : Int32))] [(.ref b)]))
  obtain ⟨T5, X5, e5, st5⟩ := initO X0 hx hZ hown (wd hw 35 rfl) (wd hw 12 rfl) (wd hw 13 rfl) e0 (g := (mkF m 1 #[.val (.ref b), .val (.int (16 : Int32))] [(.ref b)])) rfl (by rw [hml]; rfl) rfl (hb hby d_j68_m2_1) (by decide) (W := 0) (by show 2 * 0 + _ ≤ _; exact Nat.le_of_eq rfl) (by decide)
  refine go st5 ?_
  show Run p e below _ (T5.setTop (mkF m 4 #[.val (.ref b), .val (.int (16 : Int32))] []))
  obtain ⟨T6, X6, e6, st6⟩ := getS2 X5 hx hZ hown (host := "") (Or.inl (wd hw 36 rfl)) Via.refl e5 (S_COMPACT_STRINGS.ext O0.2) (g := (mkF m 4 #[.val (.ref b), .val (.int (16 : Int32))] [])) rfl (hb hby d_j68_m2_4)
  refine go st6 ?_
  show Run p e below _ (T6.setTop (mkF m 7 #[.val (.ref b), .val (.int (16 : Int32))] [(.int zc)]))
  refine go (fun _ => XS.ifNo X6.here hx rfl (hb hby d_j68_m2_7) rfl ((if0 _ _).trans (feq hzc).1)) ?_
  show Run p e below _ (T6.setTop (mkF m 10 #[.val (.ref b), .val (.int (16 : Int32))] []))
  refine go (fun _ => XS.aloadN X6.here hx rfl (hb hby d_j68_m2_10) rfl rfl) ?_
  show Run p e below _ (T6.setTop (mkF m 11 #[.val (.ref b), .val (.int (16 : Int32))] [(.ref b)]))
  refine go (fun _ => XS.iloadN X6.here hx rfl (hb hby d_j68_m2_11) rfl) ?_
  show Run p e below _ (T6.setTop (mkF m 12 #[.val (.ref b), .val (.int (16 : Int32))] [(.int (16 : Int32)), (.ref b)]))
  obtain ⟨T7, h7, k7, X7, e7, E7, A7, B7, st7⟩ := newPE X6 hx hZ (wd hw 38 rfl) e6 (g := (mkF m 12 #[.val (.ref b), .val (.int (16 : Int32))] [(.int (16 : Int32)), (.ref b)])) rfl (hb hby d_j68_m2_12) rfl (by decide) (cap := 16) (by decide) (by decide) (by decide) (by decide) (ad := "[B") (by decide)
  obtain ⟨b7, y7⟩ : ∃ z, z = h0.size := ⟨_, rfl⟩
  rw [← y7] at A7 B7 st7
  have g_b7 : n0 ≤ b7 := y7.symm ▸ old_sz O0
  have sz_b7 : h0.size ≤ b7 := y7.symm ▸ K0.1
  have ne_b_b7 : b ≠ b7 := Nat.ne_of_lt (y7.symm ▸ E_b.lt)
  have O0 := O0.ext E7
  have E_b := E_b.ext E7
  have F_value_b := F_value_b.ext E7
  have F_coder_b := F_coder_b.ext E7
  have F_count_b := F_count_b.ext E7
  have K0 := K0.ext E7
  have E_b7 := B7
  have V_b7 : Arv Z h7 b7 k7 .byte (16 : Int32) (BY []) (.int 0) := Arv.new A7 (by decide)
  refine go st7 ?_
  show Run p e below _ (T7.setTop (mkF m 14 #[.val (.ref b), .val (.int (16 : Int32))] [(.ref b7), (.ref b)]))
  obtain ⟨T8, h8, X8, e8, W8, st8⟩ := putF X7 hx hZ hown (host := "") (Or.inl (wd hw 39 rfl)) Via.refl e7 F_value_b E_b (Or.inl (wd hw 40 rfl)) (wd hw 24 rfl) (ty := (.array .byte)) (by decide) rfl rfl (g := (mkF m 14 #[.val (.ref b), .val (.int (16 : Int32))] [(.ref b7), (.ref b)])) rfl rfl (hb hby d_j68_m2_14)
  have O0 := O0.wr W8 g_b
  have E_b := E_b.wr W8
  have F_value_b := F_value_b.same W8
  have F_coder_b := F_coder_b.other W8 (Or.inr (slot_ne (Or.inl (wd hw 42 rfl)) (Or.inl (wd hw 40 rfl)) (by decide) (t := .byte) (t' := (.array .byte)) (by decide) (by decide)))
  have F_count_b := F_count_b.other W8 (Or.inr (slot_ne (Or.inl (wd hw 73 rfl)) (Or.inl (wd hw 40 rfl)) (by decide) (t := .int) (t' := (.array .byte)) (by decide) (by decide)))
  have K0 := K0.wr W8 (Or.inl (by simp))
  have E_b7 := E_b7.wr W8
  have V_b7 := V_b7.other W8 (Ne.symm ne_b_b7)
  have N8 := Fr.snoc X8 N0 g_b
  refine go st8 ?_
  show Run p e below _ (T8.setTop (mkF m 17 #[.val (.ref b), .val (.int (16 : Int32))] []))
  refine go (fun _ => XS.aloadN X8.here hx rfl (hb hby d_j68_m2_17) rfl rfl) ?_
  show Run p e below _ (T8.setTop (mkF m 18 #[.val (.ref b), .val (.int (16 : Int32))] [(.ref b)]))
  refine go (fun _ => XS.iconst X8.here hx rfl (hb hby d_j68_m2_18)) ?_
  show Run p e below _ (T8.setTop (mkF m 19 #[.val (.ref b), .val (.int (16 : Int32))] [(.int (0 : Int32)), (.ref b)]))
  obtain ⟨T9, h9, X9, e9, W9, st9⟩ := putFN X8 hx hZ hown (wd hw 41 rfl) Via.refl e8 F_coder_b E_b (Or.inl (wd hw 42 rfl)) (wd hw 24 rfl) (ty := .byte) (v' := (.int (nar .byte (0 : Int32)))) (by decide) rfl (fits_nar_byte _) (g := (mkF m 19 #[.val (.ref b), .val (.int (16 : Int32))] [(.int (0 : Int32)), (.ref b)])) rfl rfl (hb hby d_j68_m2_19)
  have O0 := O0.wr W9 g_b
  have E_b := E_b.wr W9
  have F_value_b := F_value_b.other W9 (Or.inr (slot_ne (Or.inl (wd hw 40 rfl)) (Or.inl (wd hw 42 rfl)) (by decide) (t := (.array .byte)) (t' := .byte) (by decide) (by decide)))
  have F_coder_b := F_coder_b.same W9
  have F_count_b := F_count_b.other W9 (Or.inr (slot_ne (Or.inl (wd hw 73 rfl)) (Or.inl (wd hw 42 rfl)) (by decide) (t := .int) (t' := .byte) (by decide) (by decide)))
  have K0 := K0.wr W9 (Or.inl (by simp))
  have E_b7 := E_b7.wr W9
  have V_b7 := V_b7.other W9 (Ne.symm ne_b_b7)
  rw [(show nar .byte (0 : Int32) = (0 : Int32) by decide)] at F_coder_b
  have N9 := Fr.snoc X9 N8 g_b
  refine go st9 ?_
  show Run p e below _ (T9.setTop (mkF m 22 #[.val (.ref b), .val (.int (16 : Int32))] []))
  refine go (fun _ => XS.goto X9.here hx rfl (pc0 := 22) (pc' := 38) rfl (hb hby d_j68_m2_22) (by decide) (by decide)) ?_
  show Run p e below _ (T9.setTop (mkF m 38 #[.val (.ref b), .val (.int (16 : Int32))] []))
  exact endV X9 hx hlk hret (hb hby d_j68_m2_38) (by rw [e9]; exact ⟨b7, _, rfl, N9, K0, sz_b7, g_b7, E_b7, F_value_b, F_coder_b, F_count_b, V_b7⟩) (by decide) (by decide)
theorem d_j67_m1_0 : decode jdk_67_method_1_code 0 = .ok (.aload_n 0, 1) := by decide +kernel
theorem d_j67_m1_1 : decode jdk_67_method_1_code 1 = .ok (.bipush 16, 2) := by decide +kernel
theorem d_j67_m1_3 : decode jdk_67_method_1_code 3 = .ok (.invokespecial 1, 3) := by decide +kernel
theorem pd_1 : parseMethodDescriptor "(I)V" = some ⟨[.int], none⟩ := by decide +kernel
theorem d_j67_m1_6 : decode jdk_67_method_1_code 6 = .ok (.return_, 1) := by decide +kernel
theorem pn_3 : plainName "java/lang/StringBuilder" = true := by first | (simp [plainName, overriddenIn]; done) | decide +kernel
def Q_rm_sbi (Z : State) (b : Addr) (zc : Int32) (h0 : Heap) (n0 : Nat) (v : Option Value) (h : Heap) (L : List Loc) : Prop := ∃ (d2 : Addr) (k2 : ClassId), v = none ∧ Fr n0 L ∧ Keep h0 h [b] ∧ h0.size ≤ d2 ∧ n0 ≤ d2 ∧ Exa Z h d2 "[B" ∧ Fld Z h b "java/lang/AbstractStringBuilder" "value" "[B" (.ref d2) ∧ Fld Z h b "java/lang/AbstractStringBuilder" "coder" "B" (.int (0 : Int32)) ∧ Fld Z h b "java/lang/AbstractStringBuilder" "count" "I" (.int (Int32.ofNat (([] : List Int32)).length)) ∧ Arv Z h d2 k2 .byte (16 : Int32) (BY ([] : List Int32)) (.int 0)
set_option maxRecDepth 65536 in
set_option maxHeartbeats 40000000 in
theorem rm_sbi (l : Launch) (Z : State) (a0 : Array Value) (hw : ∀ d ∈ tables_1, d.before a0 Z = true) (ws : List Jvm.Cond) (b : Addr) (zc : Int32) (h0 : Heap) (n0 : Nat) (O0 : Old Z n0 h0) (S_COMPACT_STRINGS : Sta Z Z.heap "java/lang/String" "COMPACT_STRINGS" "Z" (.int zc)) (hzc : ¬ zc = 0) (E_b : Exa Z h0 b "java/lang/StringBuilder") (F_value_b : Fld Z h0 b "java/lang/AbstractStringBuilder" "value" "[B" .null) (F_coder_b : Fld Z h0 b "java/lang/AbstractStringBuilder" "coder" "B" (.int (0 : Int32))) (F_count_b : Fld Z h0 b "java/lang/AbstractStringBuilder" "count" "I" (.int (0 : Int32))) (g_b : n0 ≤ b) :
    Meets l (⟨"java/lang/StringBuilder", "<init>", "()V"⟩ : MethodName) jdk_67_method_1_code 1 none ws ({ frames := 2, cells := 1, slots := 16, locals := 25 } : Room) Z #[(.ref b)] h0 (Q_rm_sbi Z b zc h0 n0) 1 16 := by
  refine enter (Ls := #[.val (.ref b)]) (plainFor_of_name pn_3) (fun m => by first | (simp [entryFrame, mkF, argsToLocals, Value.category]; done) | rfl) ?_
  intro p e s m below meth c T0 hx hby hml hown hnm hret hlk hZ X0 e0
  have N0 := Fr.nil n0
  replace hown : s.vm.findClass "java/lang/StringBuilder" = some m.cls := hown
  show Run p e below _ (T0.setTop (mkF m 0 #[.val (.ref b)] []))
  have K0 := Keep.refl h0 [b]
  refine go (fun _ => XS.aloadN X0.here hx rfl (hb hby d_j67_m1_0) rfl rfl) ?_
  show Run p e below _ (T0.setTop (mkF m 1 #[.val (.ref b)] [(.ref b)]))
  refine go (fun _ => XS.bipush X0.here hx rfl (hb hby d_j67_m1_1)) ?_
  show Run p e below _ (T0.setTop (mkF m 3 #[.val (.ref b)] [(.int (16 : Int32)), (.ref b)]))
  refine callSp X0 hx hZ rfl hown (wd hw 29 rfl) (wd hw 30 rfl) (wd hw 34 rfl) (wd hw 33 rfl) (by decide) e0 (a := b) (argsL := [(.int (16 : Int32))]) (rest := []) (rm_asbi l Z a0 hw [] b zc h0 n0 O0 S_COMPACT_STRINGS hzc E_b F_value_b F_coder_b F_count_b g_b) (W := 0) (by decide) (by decide) (by decide) (by decide) (by rw [hml]; rfl) (lenOf pd_1 rfl) rfl (Nat.le_of_eq rfl) (hb hby d_j67_m1_3) ?_
  intro v10 T10 L10 h10 X10 e10 q10
  have lt11_b := E_b.lt
  obtain ⟨d10, kd10, rfl, n10, K10, sb10, g_d10, E_d10, F_value_b, F_coder_b, F_count_b, V_d10⟩ := q10
  have szq10 := K0.1
  have ne_b_d10 : b ≠ d10 := Nat.ne_of_lt (Nat.lt_of_lt_of_le lt11_b sb10)
  have sz_d10 : h0.size ≤ d10 := Nat.le_trans szq10 sb10
  have O0 := O0.keep K10 (allS g_b all0)
  have E_b := E_b.keep K10
  have K0 := K0.trans K10 (allS (Or.inl (by simp)) all0)
  have N10 := Fr.app N0 n10
  show Run p e below _ (T10.setTop (mkF m 6 #[.val (.ref b)] []))
  exact endV X10 hx hlk hret (hb hby d_j67_m1_6) (by rw [e10]; exact ⟨d10, _, rfl, N10, K0, sz_d10, g_d10, E_d10, F_value_b, F_coder_b, F_count_b, V_d10⟩) (by decide) (by decide)
theorem d_j29_m65_0 : decode jdk_29_method_65_code 0 = .ok (.iload_n 0, 1) := by decide +kernel
theorem d_j29_m65_1 : decode jdk_29_method_65_code 1 = .ok (.iload_n 1, 1) := by decide +kernel
theorem d_j29_m65_2 : decode jdk_29_method_65_code 2 = .ok (.if_icmp .lt 7, 3) := by decide +kernel
theorem d_j29_m65_9 : decode jdk_29_method_65_code 9 = .ok (.iload_n 1, 1) := by decide +kernel
theorem d_j29_m65_10 : decode jdk_29_method_65_code 10 = .ok (.ireturn, 1) := by decide +kernel
theorem d_j29_m65_5 : decode jdk_29_method_65_code 5 = .ok (.iload_n 0, 1) := by decide +kernel
theorem d_j29_m65_6 : decode jdk_29_method_65_code 6 = .ok (.goto 4, 3) := by decide +kernel
theorem pn_4 : plainFor (⟨"java/lang/Math", "max", "(II)I"⟩ : MethodName) = true := by decide +kernel
def Q_rm_max (p1 p2 : Int32) (h0 : Heap) (n0 : Nat) (v : Option Value) (h : Heap) (L : List Loc) : Prop := v = some (.int (if p1 < p2 then p2 else p1)) ∧ Fr n0 L ∧ h = h0
set_option maxRecDepth 65536 in
set_option maxHeartbeats 40000000 in
theorem rm_max (l : Launch) (Z : State) (a0 : Array Value) (hw : ∀ d ∈ tables_1, d.before a0 Z = true) (ws : List Jvm.Cond) (p1 p2 : Int32) (h0 : Heap) (n0 : Nat) (O0 : Old Z n0 h0)  :
    Meets l (⟨"java/lang/Math", "max", "(II)I"⟩ : MethodName) jdk_29_method_65_code 2 (some .int) ws ({ frames := 0, cells := 0, slots := 0, locals := 0 } : Room) Z #[(.int p1), (.int p2)] h0 (Q_rm_max p1 p2 h0 n0) 0 0 := by
  refine enter (Ls := #[.val (.int p1), .val (.int p2)]) pn_4 (fun m => by first | (simp [entryFrame, mkF, argsToLocals, Value.category]; done) | rfl) ?_
  intro p e s m below meth c T0 hx hby hml hown hnm hret hlk hZ X0 e0
  have N0 := Fr.nil n0
  replace hown : s.vm.findClass "java/lang/Math" = some m.cls := hown
  show Run p e below _ (T0.setTop (mkF m 0 #[.val (.int p1), .val (.int p2)] []))
  refine go (fun _ => XS.iloadN X0.here hx rfl (hb hby d_j29_m65_0) rfl) ?_
  show Run p e below _ (T0.setTop (mkF m 1 #[.val (.int p1), .val (.int p2)] [(.int p1)]))
  refine go (fun _ => XS.iloadN X0.here hx rfl (hb hby d_j29_m65_1) rfl) ?_
  show Run p e below _ (T0.setTop (mkF m 2 #[.val (.int p1), .val (.int p2)] [(.int p2), (.int p1)]))
  by_cases c12 : p1 < p2
  · skip
    refine go (fun _ => XS.icmpYes X0.here hx rfl (pc0 := 2) (pc' := 9) rfl (hb hby d_j29_m65_2) rfl (tlt c12).1 (by decide) (by decide)) ?_
    show Run p e below _ (T0.setTop (mkF m 9 #[.val (.int p1), .val (.int p2)] []))
    refine go (fun _ => XS.iloadN X0.here hx rfl (hb hby d_j29_m65_9) rfl) ?_
    show Run p e below _ (T0.setTop (mkF m 10 #[.val (.int p1), .val (.int p2)] [(.int p2)]))
    exact endI X0 hx hlk hret (hb hby d_j29_m65_10) (⟨by simp [c12], N0, e0⟩) (by decide) (by decide)
  · skip
    refine go (fun _ => XS.icmpNo X0.here hx rfl (hb hby d_j29_m65_2) rfl (flt c12).1) ?_
    show Run p e below _ (T0.setTop (mkF m 5 #[.val (.int p1), .val (.int p2)] []))
    refine go (fun _ => XS.iloadN X0.here hx rfl (hb hby d_j29_m65_5) rfl) ?_
    show Run p e below _ (T0.setTop (mkF m 6 #[.val (.int p1), .val (.int p2)] [(.int p1)]))
    refine go (fun _ => XS.goto X0.here hx rfl (pc0 := 6) (pc' := 10) rfl (hb hby d_j29_m65_6) (by decide) (by decide)) ?_
    show Run p e below _ (T0.setTop (mkF m 10 #[.val (.int p1), .val (.int p2)] [(.int p1)]))
    exact endI X0 hx hlk hret (hb hby d_j29_m65_10) (⟨by simp [c12], N0, e0⟩) (by decide) (by decide)
theorem d_j29_m69_0 : decode jdk_29_method_69_code 0 = .ok (.iload_n 0, 1) := by decide +kernel
theorem d_j29_m69_1 : decode jdk_29_method_69_code 1 = .ok (.iload_n 1, 1) := by decide +kernel
theorem d_j29_m69_2 : decode jdk_29_method_69_code 2 = .ok (.if_icmp .gt 7, 3) := by decide +kernel
theorem d_j29_m69_9 : decode jdk_29_method_69_code 9 = .ok (.iload_n 1, 1) := by decide +kernel
theorem d_j29_m69_10 : decode jdk_29_method_69_code 10 = .ok (.ireturn, 1) := by decide +kernel
theorem d_j29_m69_5 : decode jdk_29_method_69_code 5 = .ok (.iload_n 0, 1) := by decide +kernel
theorem d_j29_m69_6 : decode jdk_29_method_69_code 6 = .ok (.goto 4, 3) := by decide +kernel
theorem pn_5 : plainFor (⟨"java/lang/Math", "min", "(II)I"⟩ : MethodName) = true := by decide +kernel
def Q_rm_min (p1 p2 : Int32) (h0 : Heap) (n0 : Nat) (v : Option Value) (h : Heap) (L : List Loc) : Prop := v = some (.int (if p2 < p1 then p2 else p1)) ∧ Fr n0 L ∧ h = h0
set_option maxRecDepth 65536 in
set_option maxHeartbeats 40000000 in
theorem rm_min (l : Launch) (Z : State) (a0 : Array Value) (hw : ∀ d ∈ tables_1, d.before a0 Z = true) (ws : List Jvm.Cond) (p1 p2 : Int32) (h0 : Heap) (n0 : Nat) (O0 : Old Z n0 h0)  :
    Meets l (⟨"java/lang/Math", "min", "(II)I"⟩ : MethodName) jdk_29_method_69_code 2 (some .int) ws ({ frames := 0, cells := 0, slots := 0, locals := 0 } : Room) Z #[(.int p1), (.int p2)] h0 (Q_rm_min p1 p2 h0 n0) 0 0 := by
  refine enter (Ls := #[.val (.int p1), .val (.int p2)]) pn_5 (fun m => by first | (simp [entryFrame, mkF, argsToLocals, Value.category]; done) | rfl) ?_
  intro p e s m below meth c T0 hx hby hml hown hnm hret hlk hZ X0 e0
  have N0 := Fr.nil n0
  replace hown : s.vm.findClass "java/lang/Math" = some m.cls := hown
  show Run p e below _ (T0.setTop (mkF m 0 #[.val (.int p1), .val (.int p2)] []))
  refine go (fun _ => XS.iloadN X0.here hx rfl (hb hby d_j29_m69_0) rfl) ?_
  show Run p e below _ (T0.setTop (mkF m 1 #[.val (.int p1), .val (.int p2)] [(.int p1)]))
  refine go (fun _ => XS.iloadN X0.here hx rfl (hb hby d_j29_m69_1) rfl) ?_
  show Run p e below _ (T0.setTop (mkF m 2 #[.val (.int p1), .val (.int p2)] [(.int p2), (.int p1)]))
  by_cases c13 : p2 < p1
  · skip
    refine go (fun _ => XS.icmpYes X0.here hx rfl (pc0 := 2) (pc' := 9) rfl (hb hby d_j29_m69_2) rfl (tlt c13).2.2.1 (by decide) (by decide)) ?_
    show Run p e below _ (T0.setTop (mkF m 9 #[.val (.int p1), .val (.int p2)] []))
    refine go (fun _ => XS.iloadN X0.here hx rfl (hb hby d_j29_m69_9) rfl) ?_
    show Run p e below _ (T0.setTop (mkF m 10 #[.val (.int p1), .val (.int p2)] [(.int p2)]))
    exact endI X0 hx hlk hret (hb hby d_j29_m69_10) (⟨by simp [c13], N0, e0⟩) (by decide) (by decide)
  · skip
    refine go (fun _ => XS.icmpNo X0.here hx rfl (hb hby d_j29_m69_2) rfl (flt c13).2.2.1) ?_
    show Run p e below _ (T0.setTop (mkF m 5 #[.val (.int p1), .val (.int p2)] []))
    refine go (fun _ => XS.iloadN X0.here hx rfl (hb hby d_j29_m69_5) rfl) ?_
    show Run p e below _ (T0.setTop (mkF m 6 #[.val (.int p1), .val (.int p2)] [(.int p1)]))
    refine go (fun _ => XS.goto X0.here hx rfl (pc0 := 6) (pc' := 10) rfl (hb hby d_j29_m69_6) (by decide) (by decide)) ?_
    show Run p e below _ (T0.setTop (mkF m 10 #[.val (.int p1), .val (.int p2)] [(.int p1)]))
    exact endI X0 hx hlk hret (hb hby d_j29_m69_10) (⟨by simp [c13], N0, e0⟩) (by decide) (by decide)
theorem own_b8k : ∀ k < 256, ((Int32.ofNat k).toInt8.toInt32 &&& 255) = Int32.ofNat k := by decide +kernel
theorem own_b8 {c : Int32} (h : ¬ c < 0 ∧ ¬ (255 : Int32) < c) : (c.toInt8.toInt32 &&& 255) = c := by
  have k0 : (0 : Int32).toInt = 0 := rfl
  have k2 : (255 : Int32).toInt = 255 := by decide
  rw [Int32.lt_iff_toInt_lt, Int32.lt_iff_toInt_lt, k0, k2] at h
  have e : c = Int32.ofNat c.toInt.toNat := by rw [← Int32.toInt_inj, own_on (by omega)]; omega
  have q := own_b8k c.toInt.toNat (by omega)
  rw [← e] at q; exact q
theorem own_chv {c : Int32} (h : ¬ c < 0 ∧ ¬ (255 : Int32) < c) : nar .char ((c.toInt8.toInt32 &&& (255 : Int32)).toUInt32.toUInt16.toUInt32.toInt32) = c := by
  rw [i2c_mask]; rw [own_b8 h]
  have q : nar .char (c.toInt8.toInt32 &&& (255 : Int32)) = c.toInt8.toInt32 &&& 255 := i2c_mask _
  rw [own_b8 h] at q; exact q
theorem own_getIn {cs : List Int32} (H : In8 cs) {i : Nat} (hi : i < cs.length) : ¬ cs.getD i 0 < 0 ∧ ¬ (255 : Int32) < cs.getD i 0 := by
  rw [List.getD_eq_getElem?_getD, List.getElem?_eq_getElem hi]; exact H _ (List.getElem_mem hi)
theorem d_j42_m152_0 : decode jdk_42_method_152_code 0 = .ok (.getstatic 38, 3) := by decide +kernel
theorem d_j42_m152_3 : decode jdk_42_method_152_code 3 = .ok (.ifCond .eq 10, 3) := by decide +kernel
theorem d_j42_m152_6 : decode jdk_42_method_152_code 6 = .ok (.aload_n 0, 1) := by decide +kernel
theorem d_j42_m152_7 : decode jdk_42_method_152_code 7 = .ok (.getfield 15, 3) := by decide +kernel
theorem d_j42_m152_10 : decode jdk_42_method_152_code 10 = .ok (.goto 4, 3) := by decide +kernel
theorem d_j42_m152_14 : decode jdk_42_method_152_code 14 = .ok (.ireturn, 1) := by decide +kernel
theorem pn_6 : plainName "java/lang/String" = true := by first | (simp [plainName, overriddenIn]; done) | decide +kernel
def Q_rm_cod (zc : Int32) (x t : Addr) (kb : ClassId) (cs : List Int32) (h0 : Heap) (n0 : Nat) (v : Option Value) (h : Heap) (L : List Loc) : Prop := v = some (.int 0) ∧ Fr n0 L ∧ h = h0
set_option maxRecDepth 65536 in
set_option maxHeartbeats 40000000 in
theorem rm_cod (l : Launch) (Z : State) (a0 : Array Value) (hw : ∀ d ∈ tables_1, d.before a0 Z = true) (ws : List Jvm.Cond) (zc : Int32) (x t : Addr) (kb : ClassId) (cs : List Int32) (h0 : Heap) (n0 : Nat) (O0 : Old Z n0 h0) (S_COMPACT_STRINGS : Sta Z Z.heap "java/lang/String" "COMPACT_STRINGS" "Z" (.int zc)) (hzc : ¬ zc = 0) (T_x : Str Z h0 x t kb cs) :
    Meets l (⟨"java/lang/String", "coder", "()B"⟩ : MethodName) jdk_42_method_152_code 1 (some .byte) ws ({ frames := 0, cells := 0, slots := 0, locals := 0 } : Room) Z #[(.ref x)] h0 (Q_rm_cod zc x t kb cs h0 n0) 0 0 := by
  refine enter (Ls := #[.val (.ref x)]) (plainFor_of_name pn_6) (fun m => by first | (simp [entryFrame, mkF, argsToLocals, Value.category]; done) | rfl) ?_
  intro p e s m below meth c T0 hx hby hml hown hnm hret hlk hZ X0 e0
  have N0 := Fr.nil n0
  replace hown : s.vm.findClass "java/lang/String" = some m.cls := hown
  show Run p e below _ (T0.setTop (mkF m 0 #[.val (.ref x)] []))
  obtain ⟨T14, X14, e14, st14⟩ := getS2 X0 hx hZ hown (host := "") (Or.inl (wd hw 70 rfl)) Via.refl e0 (S_COMPACT_STRINGS.ext O0.2) (g := (mkF m 0 #[.val (.ref x)] [])) rfl (hb hby d_j42_m152_0)
  refine go st14 ?_
  show Run p e below _ (T14.setTop (mkF m 3 #[.val (.ref x)] [(.int zc)]))
  refine go (fun _ => XS.ifNo X14.here hx rfl (hb hby d_j42_m152_3) rfl ((if0 _ _).trans (feq hzc).1)) ?_
  show Run p e below _ (T14.setTop (mkF m 6 #[.val (.ref x)] []))
  refine go (fun _ => XS.aloadN X14.here hx rfl (hb hby d_j42_m152_6) rfl rfl) ?_
  show Run p e below _ (T14.setTop (mkF m 7 #[.val (.ref x)] [(.ref x)]))
  obtain ⟨T15, X15, e15, st15⟩ := getF X14 hx hZ hown (host := "") (Or.inl (wd hw 71 rfl)) Via.refl e14 T_x.2.2.1 (g := (mkF m 7 #[.val (.ref x)] [(.ref x)])) rfl rfl (hb hby d_j42_m152_7)
  refine go st15 ?_
  show Run p e below _ (T15.setTop (mkF m 10 #[.val (.ref x)] [(.int (0 : Int32))]))
  refine go (fun _ => XS.goto X15.here hx rfl (pc0 := 10) (pc' := 14) rfl (hb hby d_j42_m152_10) (by decide) (by decide)) ?_
  show Run p e below _ (T15.setTop (mkF m 14 #[.val (.ref x)] [(.int (0 : Int32))]))
  exact endN X15 hx hlk (t := .byte) hret (by simp) (hb hby d_j42_m152_14) (⟨rfl, N0, e15⟩) (by decide) (by decide)
theorem d_j42_m54_0 : decode jdk_42_method_54_code 0 = .ok (.aload_n 0, 1) := by decide +kernel
theorem d_j42_m54_1 : decode jdk_42_method_54_code 1 = .ok (.getfield 9, 3) := by decide +kernel
theorem d_j42_m54_4 : decode jdk_42_method_54_code 4 = .ok (.arraylength, 1) := by decide +kernel
theorem d_j42_m54_5 : decode jdk_42_method_54_code 5 = .ok (.aload_n 0, 1) := by decide +kernel
theorem d_j42_m54_6 : decode jdk_42_method_54_code 6 = .ok (.invokevirtual 335, 3) := by decide +kernel
theorem pd_2 : parseMethodDescriptor "()B" = some ⟨[], some .byte⟩ := by decide +kernel
theorem d_j42_m54_9 : decode jdk_42_method_54_code 9 = .ok (.ishr, 1) := by decide +kernel
theorem d_j42_m54_10 : decode jdk_42_method_54_code 10 = .ok (.ireturn, 1) := by decide +kernel
def Q_rm_len (zc : Int32) (x t : Addr) (kb : ClassId) (cs : List Int32) (h0 : Heap) (n0 : Nat) (v : Option Value) (h : Heap) (L : List Loc) : Prop := v = some (.int (Int32.ofNat (cs).length)) ∧ Fr n0 L ∧ h = h0
set_option maxRecDepth 65536 in
set_option maxHeartbeats 40000000 in
theorem rm_len (l : Launch) (Z : State) (a0 : Array Value) (hw : ∀ d ∈ tables_1, d.before a0 Z = true) (ws : List Jvm.Cond) (zc : Int32) (x t : Addr) (kb : ClassId) (cs : List Int32) (h0 : Heap) (n0 : Nat) (O0 : Old Z n0 h0) (S_COMPACT_STRINGS : Sta Z Z.heap "java/lang/String" "COMPACT_STRINGS" "Z" (.int zc)) (hzc : ¬ zc = 0) (T_x : Str Z h0 x t kb cs) :
    Meets l (⟨"java/lang/String", "length", "()I"⟩ : MethodName) jdk_42_method_54_code 1 (some .int) ws ({ frames := 1, cells := 0, slots := 0, locals := 13 } : Room) Z #[(.ref x)] h0 (Q_rm_len zc x t kb cs h0 n0) 0 0 := by
  refine enter (Ls := #[.val (.ref x)]) (plainFor_of_name pn_6) (fun m => by first | (simp [entryFrame, mkF, argsToLocals, Value.category]; done) | rfl) ?_
  intro p e s m below meth c T0 hx hby hml hown hnm hret hlk hZ X0 e0
  have N0 := Fr.nil n0
  replace hown : s.vm.findClass "java/lang/String" = some m.cls := hown
  show Run p e below _ (T0.setTop (mkF m 0 #[.val (.ref x)] []))
  refine go (fun _ => XS.aloadN X0.here hx rfl (hb hby d_j42_m54_0) rfl rfl) ?_
  show Run p e below _ (T0.setTop (mkF m 1 #[.val (.ref x)] [(.ref x)]))
  obtain ⟨T16, X16, e16, st16⟩ := getF X0 hx hZ hown (host := "") (Or.inl (wd hw 64 rfl)) Via.refl e0 T_x.2.1 (g := (mkF m 1 #[.val (.ref x)] [(.ref x)])) rfl rfl (hb hby d_j42_m54_1)
  refine go st16 ?_
  show Run p e below _ (T16.setTop (mkF m 4 #[.val (.ref x)] [(.ref t)]))
  obtain ⟨cl17, Ar17, ak17, as17, an17, ah17, ag17⟩ := id T_x.2.2.2
  refine go (fun _ => X16.arraylength hx (by rw [e16]; exact Ar17.1) (State.isArrayOf_alike hZ.alike Ar17.2.1) (g := (mkF m 4 #[.val (.ref x)] [(.ref t)])) rfl rfl (hb hby d_j42_m54_4) _) ?_
  rw [len_of as17 an17]
  show Run p e below _ (T16.setTop (mkF m 5 #[.val (.ref x)] [(.int (Int32.ofNat (cs).length))]))
  refine go (fun _ => XS.aloadN X16.here hx rfl (hb hby d_j42_m54_5) rfl rfl) ?_
  show Run p e below _ (T16.setTop (mkF m 6 #[.val (.ref x)] [(.ref x), (.int (Int32.ofNat (cs).length))]))
  refine callVi X16 hx hZ hown (wd hw 65 rfl) (wd hw 66 rfl) (notFace_of_selects (args := #[]) (mvT hZ (wd hw 68 rfl))) (wd hw 68 rfl) (wd hw 67 rfl) (wd hw 69 rfl) (wd hw 37 rfl) (by decide) e16 T_x.1 (argsL := []) (rest := [(.int (Int32.ofNat (cs).length))]) (rm_cod l Z a0 hw [] zc x t kb cs h0 n0 O0 S_COMPACT_STRINGS hzc T_x) (W := 1) (by decide) (by decide) (by decide) (by decide) (by rw [hml]; rfl) (lenOf pd_2 rfl) rfl (Nat.le_of_eq rfl) (hb hby d_j42_m54_6) ?_
  intro v18 T18 L18 h18 X18 e18 q18
  obtain ⟨rv, n18, k18⟩ := q18
  replace rv : v18 = some (.int (0 : Int32)) := rv
  subst rv
  have e18 := e18.trans k18
  have N18 := Fr.app N0 n18
  show Run p e below _ (T18.setTop (mkF m 9 #[.val (.ref x)] [(.int (0 : Int32)), (.int (Int32.ofNat (cs).length))]))
  refine go (fun _ => XS.ishr X18.here hx rfl (hb hby d_j42_m54_9) rfl) ?_
  rw [own_shr0]
  show Run p e below _ (T18.setTop (mkF m 10 #[.val (.ref x)] [(.int (Int32.ofNat (cs).length))]))
  exact endI X18 hx hlk hret (hb hby d_j42_m54_10) (⟨rfl, N18, e18⟩) (by decide) (by decide)
theorem d_j42_m154_0 : decode jdk_42_method_154_code 0 = .ok (.getstatic 38, 3) := by decide +kernel
theorem d_j42_m154_3 : decode jdk_42_method_154_code 3 = .ok (.ifCond .eq 14, 3) := by decide +kernel
theorem d_j42_m154_6 : decode jdk_42_method_154_code 6 = .ok (.aload_n 0, 1) := by decide +kernel
theorem d_j42_m154_7 : decode jdk_42_method_154_code 7 = .ok (.getfield 15, 3) := by decide +kernel
theorem d_j42_m154_10 : decode jdk_42_method_154_code 10 = .ok (.ifCond .ne 7, 3) := by decide +kernel
theorem d_j42_m154_13 : decode jdk_42_method_154_code 13 = .ok (.iconst 1, 1) := by decide +kernel
theorem d_j42_m154_14 : decode jdk_42_method_154_code 14 = .ok (.goto 4, 3) := by decide +kernel
theorem d_j42_m154_18 : decode jdk_42_method_154_code 18 = .ok (.ireturn, 1) := by decide +kernel
def Q_rm_sil (zc : Int32) (x t : Addr) (kb : ClassId) (cs : List Int32) (h0 : Heap) (n0 : Nat) (v : Option Value) (h : Heap) (L : List Loc) : Prop := v = some (.int 1) ∧ Fr n0 L ∧ h = h0
set_option maxRecDepth 65536 in
set_option maxHeartbeats 40000000 in
theorem rm_sil (l : Launch) (Z : State) (a0 : Array Value) (hw : ∀ d ∈ tables_1, d.before a0 Z = true) (ws : List Jvm.Cond) (zc : Int32) (x t : Addr) (kb : ClassId) (cs : List Int32) (h0 : Heap) (n0 : Nat) (O0 : Old Z n0 h0) (S_COMPACT_STRINGS : Sta Z Z.heap "java/lang/String" "COMPACT_STRINGS" "Z" (.int zc)) (hzc : ¬ zc = 0) (T_x : Str Z h0 x t kb cs) :
    Meets l (⟨"java/lang/String", "isLatin1", "()Z"⟩ : MethodName) jdk_42_method_154_code 1 (some .boolean) ws ({ frames := 0, cells := 0, slots := 0, locals := 0 } : Room) Z #[(.ref x)] h0 (Q_rm_sil zc x t kb cs h0 n0) 0 0 := by
  refine enter (Ls := #[.val (.ref x)]) (plainFor_of_name pn_6) (fun m => by first | (simp [entryFrame, mkF, argsToLocals, Value.category]; done) | rfl) ?_
  intro p e s m below meth c T0 hx hby hml hown hnm hret hlk hZ X0 e0
  have N0 := Fr.nil n0
  replace hown : s.vm.findClass "java/lang/String" = some m.cls := hown
  show Run p e below _ (T0.setTop (mkF m 0 #[.val (.ref x)] []))
  obtain ⟨T19, X19, e19, st19⟩ := getS2 X0 hx hZ hown (host := "") (Or.inl (wd hw 70 rfl)) Via.refl e0 (S_COMPACT_STRINGS.ext O0.2) (g := (mkF m 0 #[.val (.ref x)] [])) rfl (hb hby d_j42_m154_0)
  refine go st19 ?_
  show Run p e below _ (T19.setTop (mkF m 3 #[.val (.ref x)] [(.int zc)]))
  refine go (fun _ => XS.ifNo X19.here hx rfl (hb hby d_j42_m154_3) rfl ((if0 _ _).trans (feq hzc).1)) ?_
  show Run p e below _ (T19.setTop (mkF m 6 #[.val (.ref x)] []))
  refine go (fun _ => XS.aloadN X19.here hx rfl (hb hby d_j42_m154_6) rfl rfl) ?_
  show Run p e below _ (T19.setTop (mkF m 7 #[.val (.ref x)] [(.ref x)]))
  obtain ⟨T20, X20, e20, st20⟩ := getF X19 hx hZ hown (host := "") (Or.inl (wd hw 71 rfl)) Via.refl e19 T_x.2.2.1 (g := (mkF m 7 #[.val (.ref x)] [(.ref x)])) rfl rfl (hb hby d_j42_m154_7)
  refine go st20 ?_
  show Run p e below _ (T20.setTop (mkF m 10 #[.val (.ref x)] [(.int (0 : Int32))]))
  refine go (fun _ => XS.ifNo X20.here hx rfl (hb hby d_j42_m154_10) rfl ((if0 _ _).trans (teq (by decide : (0 : Int32) = 0)).2)) ?_
  show Run p e below _ (T20.setTop (mkF m 13 #[.val (.ref x)] []))
  refine go (fun _ => XS.iconst X20.here hx rfl (hb hby d_j42_m154_13)) ?_
  show Run p e below _ (T20.setTop (mkF m 14 #[.val (.ref x)] [(.int (1 : Int32))]))
  refine go (fun _ => XS.goto X20.here hx rfl (pc0 := 14) (pc' := 18) rfl (hb hby d_j42_m154_14) (by decide) (by decide)) ?_
  show Run p e below _ (T20.setTop (mkF m 18 #[.val (.ref x)] [(.int (1 : Int32))]))
  exact endN X20 hx hlk (t := .boolean) hret (by simp) (hb hby d_j42_m154_18) (⟨rfl, N0, e20⟩) (by decide) (by decide)
theorem d_j41_m11_0 : decode jdk_41_method_11_code 0 = .ok (.iload_n 0, 1) := by decide +kernel
theorem d_j41_m11_1 : decode jdk_41_method_11_code 1 = .ok (.ifCond .lt 8, 3) := by decide +kernel
theorem d_j41_m11_4 : decode jdk_41_method_11_code 4 = .ok (.iload_n 0, 1) := by decide +kernel
theorem d_j41_m11_5 : decode jdk_41_method_11_code 5 = .ok (.iload_n 1, 1) := by decide +kernel
theorem d_j41_m11_6 : decode jdk_41_method_11_code 6 = .ok (.if_icmp .lt 10, 3) := by decide +kernel
theorem d_j41_m11_16 : decode jdk_41_method_11_code 16 = .ok (.iload_n 0, 1) := by decide +kernel
theorem d_j41_m11_17 : decode jdk_41_method_11_code 17 = .ok (.ireturn, 1) := by decide +kernel
theorem pn_7 : plainName "jdk/internal/util/Preconditions" = true := by first | (simp [plainName, overriddenIn]; done) | decide +kernel
def Q_rm_pci (p1 p2 : Int32) (fm : Value) (h0 : Heap) (n0 : Nat) (v : Option Value) (h : Heap) (L : List Loc) : Prop := v = some (.int p1) ∧ Fr n0 L ∧ h = h0
set_option maxRecDepth 65536 in
set_option maxHeartbeats 40000000 in
theorem rm_pci (l : Launch) (Z : State) (a0 : Array Value) (hw : ∀ d ∈ tables_1, d.before a0 Z = true) (ws : List Jvm.Cond) (p1 p2 : Int32) (fm : Value) (h0 : Heap) (n0 : Nat) (O0 : Old Z n0 h0) (hfm : fm.isRef = true) (h1 : ¬ p1 < 0) (h2 : p1 < p2) :
    Meets l (⟨"jdk/internal/util/Preconditions", "checkIndex", "(IILjava/util/function/BiFunction;)I"⟩ : MethodName) jdk_41_method_11_code 3 (some .int) ws ({ frames := 0, cells := 0, slots := 0, locals := 0 } : Room) Z #[(.int p1), (.int p2), fm] h0 (Q_rm_pci p1 p2 fm h0 n0) 0 0 := by
  refine enter (Ls := #[.val (.int p1), .val (.int p2), .val fm]) (plainFor_of_name pn_7) (fun m => by cases fm <;> first | (cases hfm; done) | (simp [entryFrame, mkF, argsToLocals, Value.category]; done) | rfl) ?_
  intro p e s m below meth c T0 hx hby hml hown hnm hret hlk hZ X0 e0
  have N0 := Fr.nil n0
  replace hown : s.vm.findClass "jdk/internal/util/Preconditions" = some m.cls := hown
  show Run p e below _ (T0.setTop (mkF m 0 #[.val (.int p1), .val (.int p2), .val fm] []))
  refine go (fun _ => XS.iloadN X0.here hx rfl (hb hby d_j41_m11_0) rfl) ?_
  show Run p e below _ (T0.setTop (mkF m 1 #[.val (.int p1), .val (.int p2), .val fm] [(.int p1)]))
  refine go (fun _ => XS.ifNo X0.here hx rfl (hb hby d_j41_m11_1) rfl ((if0 _ _).trans (flt h1).1)) ?_
  show Run p e below _ (T0.setTop (mkF m 4 #[.val (.int p1), .val (.int p2), .val fm] []))
  refine go (fun _ => XS.iloadN X0.here hx rfl (hb hby d_j41_m11_4) rfl) ?_
  show Run p e below _ (T0.setTop (mkF m 5 #[.val (.int p1), .val (.int p2), .val fm] [(.int p1)]))
  refine go (fun _ => XS.iloadN X0.here hx rfl (hb hby d_j41_m11_5) rfl) ?_
  show Run p e below _ (T0.setTop (mkF m 6 #[.val (.int p1), .val (.int p2), .val fm] [(.int p2), (.int p1)]))
  refine go (fun _ => XS.icmpYes X0.here hx rfl (pc0 := 6) (pc' := 16) rfl (hb hby d_j41_m11_6) rfl (tlt h2).1 (by decide) (by decide)) ?_
  show Run p e below _ (T0.setTop (mkF m 16 #[.val (.int p1), .val (.int p2), .val fm] []))
  refine go (fun _ => XS.iloadN X0.here hx rfl (hb hby d_j41_m11_16) rfl) ?_
  show Run p e below _ (T0.setTop (mkF m 17 #[.val (.int p1), .val (.int p2), .val fm] [(.int p1)]))
  exact endI X0 hx hlk hret (hb hby d_j41_m11_17) (⟨rfl, N0, e0⟩) (by decide) (by decide)
theorem d_j42_m155_0 : decode jdk_42_method_155_code 0 = .ok (.iload_n 0, 1) := by decide +kernel
theorem d_j42_m155_1 : decode jdk_42_method_155_code 1 = .ok (.iload_n 1, 1) := by decide +kernel
theorem d_j42_m155_2 : decode jdk_42_method_155_code 2 = .ok (.getstatic 1053, 3) := by decide +kernel
theorem d_j42_m155_5 : decode jdk_42_method_155_code 5 = .ok (.invokestatic 1059, 3) := by decide +kernel
theorem pd_3 : parseMethodDescriptor "(IILjava/util/function/BiFunction;)I" = some ⟨[.int, .int, (.object "java/util/function/BiFunction")], some .int⟩ := by decide +kernel
theorem d_j42_m155_8 : decode jdk_42_method_155_code 8 = .ok (.pop, 1) := by decide +kernel
theorem d_j42_m155_9 : decode jdk_42_method_155_code 9 = .ok (.return_, 1) := by decide +kernel
def Q_rm_sci (p1 p2 : Int32) (fm : Value) (h0 : Heap) (n0 : Nat) (v : Option Value) (h : Heap) (L : List Loc) : Prop := v = none ∧ Fr n0 L ∧ h = h0
set_option maxRecDepth 65536 in
set_option maxHeartbeats 40000000 in
theorem rm_sci (l : Launch) (Z : State) (a0 : Array Value) (hw : ∀ d ∈ tables_1, d.before a0 Z = true) (ws : List Jvm.Cond) (p1 p2 : Int32) (fm : Value) (h0 : Heap) (n0 : Nat) (O0 : Old Z n0 h0) (S_SIOOBE_FORMATTER : Sta Z Z.heap "jdk/internal/util/Preconditions" "SIOOBE_FORMATTER" "Ljava/util/function/BiFunction;" fm) (hfm : fm.isRef = true) (h1 : ¬ p1 < 0) (h2 : p1 < p2) :
    Meets l (⟨"java/lang/String", "checkIndex", "(II)V"⟩ : MethodName) jdk_42_method_155_code 2 none ws ({ frames := 1, cells := 0, slots := 0, locals := 14 } : Room) Z #[(.int p1), (.int p2)] h0 (Q_rm_sci p1 p2 fm h0 n0) 0 0 := by
  refine enter (Ls := #[.val (.int p1), .val (.int p2)]) (plainFor_of_name pn_6) (fun m => by first | (simp [entryFrame, mkF, argsToLocals, Value.category]; done) | rfl) ?_
  intro p e s m below meth c T0 hx hby hml hown hnm hret hlk hZ X0 e0
  have N0 := Fr.nil n0
  replace hown : s.vm.findClass "java/lang/String" = some m.cls := hown
  show Run p e below _ (T0.setTop (mkF m 0 #[.val (.int p1), .val (.int p2)] []))
  refine go (fun _ => XS.iloadN X0.here hx rfl (hb hby d_j42_m155_0) rfl) ?_
  show Run p e below _ (T0.setTop (mkF m 1 #[.val (.int p1), .val (.int p2)] [(.int p1)]))
  refine go (fun _ => XS.iloadN X0.here hx rfl (hb hby d_j42_m155_1) rfl) ?_
  show Run p e below _ (T0.setTop (mkF m 2 #[.val (.int p1), .val (.int p2)] [(.int p2), (.int p1)]))
  obtain ⟨T21, X21, e21, st21⟩ := getS2 X0 hx hZ hown (host := "") (Or.inl (wd hw 220 rfl)) Via.refl e0 (S_SIOOBE_FORMATTER.ext O0.2) (g := (mkF m 2 #[.val (.int p1), .val (.int p2)] [(.int p2), (.int p1)])) rfl (hb hby d_j42_m155_2)
  refine go st21 ?_
  show Run p e below _ (T21.setTop (mkF m 5 #[.val (.int p1), .val (.int p2)] [fm, (.int p2), (.int p1)]))
  refine callSt X21 hx hZ hown (wd hw 222 rfl) (wd hw 223 rfl) (wd hw 221 rfl) (wd hw 224 rfl) (by decide) e21 (argsL := [(.int p1), (.int p2), fm]) (rest := []) (rm_pci l Z a0 hw [] p1 p2 fm h0 n0 O0 hfm h1 h2) (W := 0) (by decide) (by decide) (by decide) (by decide) (by rw [hml]; rfl) (lenOf pd_3 rfl) rfl (Nat.le_of_eq rfl) (hb hby d_j42_m155_5) ?_
  intro v22 T22 L22 h22 X22 e22 q22
  obtain ⟨rv, n22, k22⟩ := q22
  replace rv : v22 = some (.int p1) := rv
  subst rv
  have e22 := e22.trans k22
  have N22 := Fr.app N0 n22
  show Run p e below _ (T22.setTop (mkF m 8 #[.val (.int p1), .val (.int p2)] [(.int p1)]))
  refine go (fun _ => XS.pop X22.here hx rfl (hb hby d_j42_m155_8) rfl rfl) ?_
  show Run p e below _ (T22.setTop (mkF m 9 #[.val (.int p1), .val (.int p2)] []))
  exact endV X22 hx hlk hret (hb hby d_j42_m155_9) (⟨rfl, N22, e22⟩) (by decide) (by decide)
theorem d_j43_m2_0 : decode jdk_43_method_2_code 0 = .ok (.iload_n 1, 1) := by decide +kernel
theorem d_j43_m2_1 : decode jdk_43_method_2_code 1 = .ok (.aload_n 0, 1) := by decide +kernel
theorem d_j43_m2_2 : decode jdk_43_method_2_code 2 = .ok (.arraylength, 1) := by decide +kernel
theorem d_j43_m2_3 : decode jdk_43_method_2_code 3 = .ok (.invokestatic 9, 3) := by decide +kernel
theorem pd_4 : parseMethodDescriptor "(II)V" = some ⟨[.int, .int], none⟩ := by decide +kernel
theorem d_j43_m2_6 : decode jdk_43_method_2_code 6 = .ok (.aload_n 0, 1) := by decide +kernel
theorem d_j43_m2_7 : decode jdk_43_method_2_code 7 = .ok (.iload_n 1, 1) := by decide +kernel
theorem d_j43_m2_8 : decode jdk_43_method_2_code 8 = .ok (.baload, 1) := by decide +kernel
theorem d_j43_m2_9 : decode jdk_43_method_2_code 9 = .ok (.sipush 255, 3) := by decide +kernel
theorem d_j43_m2_12 : decode jdk_43_method_2_code 12 = .ok (.iand, 1) := by decide +kernel
theorem d_j43_m2_13 : decode jdk_43_method_2_code 13 = .ok (.i2c, 1) := by decide +kernel
theorem d_j43_m2_14 : decode jdk_43_method_2_code 14 = .ok (.ireturn, 1) := by decide +kernel
theorem pn_8 : plainName "java/lang/StringLatin1" = true := by first | (simp [plainName, overriddenIn]; done) | decide +kernel
def Q_rm_lch (fm : Value) (t : Addr) (kb : ClassId) (cs : List Int32) (i : Nat) (h0 : Heap) (n0 : Nat) (v : Option Value) (h : Heap) (L : List Loc) : Prop := v = some (.int (cs.getD i 0)) ∧ Fr n0 L ∧ h = h0
set_option maxRecDepth 65536 in
set_option maxHeartbeats 40000000 in
theorem rm_lch (l : Launch) (Z : State) (a0 : Array Value) (hw : ∀ d ∈ tables_1, d.before a0 Z = true) (ws : List Jvm.Cond) (fm : Value) (t : Addr) (kb : ClassId) (cs : List Int32) (i : Nat) (h0 : Heap) (n0 : Nat) (O0 : Old Z n0 h0) (S_SIOOBE_FORMATTER : Sta Z Z.heap "jdk/internal/util/Preconditions" "SIOOBE_FORMATTER" "Ljava/util/function/BiFunction;" fm) (hfm : fm.isRef = true) (V_t : Arv Z h0 t kb .byte (Int32.ofNat (cs).length) (BY cs) (.int 0)) (Hx : In8 cs) (lx : cs.length ≤ 4000) (hi : i < cs.length) :
    Meets l (⟨"java/lang/StringLatin1", "charAt", "([BI)C"⟩ : MethodName) jdk_43_method_2_code 2 (some .char) ws ({ frames := 2, cells := 0, slots := 0, locals := 27 } : Room) Z #[(.ref t), (.int (Int32.ofNat i))] h0 (Q_rm_lch fm t kb cs i h0 n0) 0 0 := by
  refine enter (Ls := #[.val (.ref t), .val (.int (Int32.ofNat i))]) (plainFor_of_name pn_8) (fun m => by first | (simp [entryFrame, mkF, argsToLocals, Value.category]; done) | rfl) ?_
  intro p e s m below meth c T0 hx hby hml hown hnm hret hlk hZ X0 e0
  have N0 := Fr.nil n0
  replace hown : s.vm.findClass "java/lang/StringLatin1" = some m.cls := hown
  show Run p e below _ (T0.setTop (mkF m 0 #[.val (.ref t), .val (.int (Int32.ofNat i))] []))
  have h1 : ¬ (Int32.ofNat i) < 0 := own_nn (by omega)
  have h2 : (Int32.ofNat i) < (Int32.ofNat (cs).length) := by rw [Int32.lt_iff_toInt_lt, own_on (by omega), own_on (by omega)]; omega
  refine go (fun _ => XS.iloadN X0.here hx rfl (hb hby d_j43_m2_0) rfl) ?_
  show Run p e below _ (T0.setTop (mkF m 1 #[.val (.ref t), .val (.int (Int32.ofNat i))] [(.int (Int32.ofNat i))]))
  refine go (fun _ => XS.aloadN X0.here hx rfl (hb hby d_j43_m2_1) rfl rfl) ?_
  show Run p e below _ (T0.setTop (mkF m 2 #[.val (.ref t), .val (.int (Int32.ofNat i))] [(.ref t), (.int (Int32.ofNat i))]))
  obtain ⟨cl23, Ar23, ak23, as23, an23, ah23, ag23⟩ := id V_t
  refine go (fun _ => X0.arraylength hx (by rw [e0]; exact Ar23.1) (State.isArrayOf_alike hZ.alike Ar23.2.1) (g := (mkF m 2 #[.val (.ref t), .val (.int (Int32.ofNat i))] [(.ref t), (.int (Int32.ofNat i))])) rfl rfl (hb hby d_j43_m2_2) _) ?_
  rw [len_of as23 an23]
  show Run p e below _ (T0.setTop (mkF m 3 #[.val (.ref t), .val (.int (Int32.ofNat i))] [(.int (Int32.ofNat (cs).length)), (.int (Int32.ofNat i))]))
  refine callSt X0 hx hZ hown (wd hw 217 rfl) (wd hw 218 rfl) (wd hw 37 rfl) (wd hw 219 rfl) (by decide) e0 (argsL := [(.int (Int32.ofNat i)), (.int (Int32.ofNat (cs).length))]) (rest := []) (rm_sci l Z a0 hw [] (Int32.ofNat i) (Int32.ofNat (cs).length) fm h0 n0 O0 S_SIOOBE_FORMATTER hfm h1 h2) (W := 0) (by decide) (by decide) (by decide) (by decide) (by rw [hml]; rfl) (lenOf pd_4 rfl) rfl (Nat.le_of_eq rfl) (hb hby d_j43_m2_3) ?_
  intro v24 T24 L24 h24 X24 e24 q24
  obtain ⟨rfl, n24, k24⟩ := q24
  have e24 := e24.trans k24
  have N24 := Fr.app N0 n24
  show Run p e below _ (T24.setTop (mkF m 6 #[.val (.ref t), .val (.int (Int32.ofNat i))] []))
  refine go (fun _ => XS.aloadN X24.here hx rfl (hb hby d_j43_m2_6) rfl rfl) ?_
  show Run p e below _ (T24.setTop (mkF m 7 #[.val (.ref t), .val (.int (Int32.ofNat i))] [(.ref t)]))
  refine go (fun _ => XS.iloadN X24.here hx rfl (hb hby d_j43_m2_7) rfl) ?_
  show Run p e below _ (T24.setTop (mkF m 8 #[.val (.ref t), .val (.int (Int32.ofNat i))] [(.int (Int32.ofNat i)), (.ref t)]))
  obtain ⟨cl25, Ar25, ak25, as25, an25, ah25, ag25⟩ := id V_t
  have hin25 := inb_of as25 (j := (Int32.ofNat i)) ⟨h1, h2⟩
  have hat25 := ah25.at hin25 (v := (.int ((cs.getD i 0).toInt8.toInt32))) (by rw [own_cl (by omega)]; exact byD cs i)
  refine go (fun _ => X24.baloadBytes hx (j := (Int32.ofNat i)) (v := (.int ((cs.getD i 0).toInt8.toInt32))) (by rw [e24]; exact Ar25.1) (State.isArrayOf_alike hZ.alike Ar25.2.1) Ar25.2.2 hin25 hat25 (g := (mkF m 8 #[.val (.ref t), .val (.int (Int32.ofNat i))] [(.int (Int32.ofNat i)), (.ref t)])) rfl rfl (hb hby d_j43_m2_8) _) ?_
  show Run p e below _ (T24.setTop (mkF m 9 #[.val (.ref t), .val (.int (Int32.ofNat i))] [(.int ((cs.getD i 0).toInt8.toInt32))]))
  refine go (fun _ => XS.sipush X24.here hx rfl (hb hby d_j43_m2_9)) ?_
  show Run p e below _ (T24.setTop (mkF m 12 #[.val (.ref t), .val (.int (Int32.ofNat i))] [(.int (255 : Int32)), (.int ((cs.getD i 0).toInt8.toInt32))]))
  refine go (fun _ => XS.iand X24.here hx rfl (hb hby d_j43_m2_12) rfl) ?_
  show Run p e below _ (T24.setTop (mkF m 13 #[.val (.ref t), .val (.int (Int32.ofNat i))] [(.int (((cs.getD i 0).toInt8.toInt32) &&& (255 : Int32)))]))
  refine go (fun _ => XS.i2c X24.here hx rfl (hb hby d_j43_m2_13) rfl) ?_
  show Run p e below _ (T24.setTop (mkF m 14 #[.val (.ref t), .val (.int (Int32.ofNat i))] [(.int ((((cs.getD i 0).toInt8.toInt32) &&& (255 : Int32)).toUInt32.toUInt16.toUInt32.toInt32))]))
  exact endN X24 hx hlk (t := .char) hret (by simp) (hb hby d_j43_m2_14) (⟨congrArg (fun z => some (Value.int z)) (own_chv (own_getIn Hx hi)), N24, e24⟩) (by decide) (by decide)
theorem own_chn {c : Int32} (h : ¬ c < 0 ∧ ¬ (255 : Int32) < c) : nar .char c = c := by
  have q : nar .char (c.toInt8.toInt32 &&& (255 : Int32)) = c.toInt8.toInt32 &&& 255 := i2c_mask _
  rw [own_b8 h] at q; exact q
theorem d_j42_m56_0 : decode jdk_42_method_56_code 0 = .ok (.aload_n 0, 1) := by decide +kernel
theorem d_j42_m56_1 : decode jdk_42_method_56_code 1 = .ok (.invokevirtual 492, 3) := by decide +kernel
theorem pd_5 : parseMethodDescriptor "()Z" = some ⟨[], some .boolean⟩ := by decide +kernel
theorem d_j42_m56_4 : decode jdk_42_method_56_code 4 = .ok (.ifCond .eq 12, 3) := by decide +kernel
theorem d_j42_m56_7 : decode jdk_42_method_56_code 7 = .ok (.aload_n 0, 1) := by decide +kernel
theorem d_j42_m56_8 : decode jdk_42_method_56_code 8 = .ok (.getfield 9, 3) := by decide +kernel
theorem d_j42_m56_11 : decode jdk_42_method_56_code 11 = .ok (.iload_n 1, 1) := by decide +kernel
theorem d_j42_m56_12 : decode jdk_42_method_56_code 12 = .ok (.invokestatic 495, 3) := by decide +kernel
theorem pd_6 : parseMethodDescriptor "([BI)C" = some ⟨[(.array .byte), .int], some .char⟩ := by decide +kernel
theorem d_j42_m56_15 : decode jdk_42_method_56_code 15 = .ok (.ireturn, 1) := by decide +kernel
def Q_rm_ch (zc : Int32) (fm : Value) (x t : Addr) (kb : ClassId) (cs : List Int32) (i : Nat) (h0 : Heap) (n0 : Nat) (v : Option Value) (h : Heap) (L : List Loc) : Prop := v = some (.int (cs.getD i 0)) ∧ Fr n0 L ∧ h = h0
set_option maxRecDepth 65536 in
set_option maxHeartbeats 40000000 in
theorem rm_ch (l : Launch) (Z : State) (a0 : Array Value) (hw : ∀ d ∈ tables_1, d.before a0 Z = true) (ws : List Jvm.Cond) (zc : Int32) (fm : Value) (x t : Addr) (kb : ClassId) (cs : List Int32) (i : Nat) (h0 : Heap) (n0 : Nat) (O0 : Old Z n0 h0) (S_COMPACT_STRINGS : Sta Z Z.heap "java/lang/String" "COMPACT_STRINGS" "Z" (.int zc)) (hzc : ¬ zc = 0) (S_SIOOBE_FORMATTER : Sta Z Z.heap "jdk/internal/util/Preconditions" "SIOOBE_FORMATTER" "Ljava/util/function/BiFunction;" fm) (hfm : fm.isRef = true) (T_x : Str Z h0 x t kb cs) (Hx : In8 cs) (lx : cs.length ≤ 4000) (hi : i < cs.length) :
    Meets l (⟨"java/lang/String", "charAt", "(I)C"⟩ : MethodName) jdk_42_method_56_code 2 (some .char) ws ({ frames := 3, cells := 0, slots := 0, locals := 40 } : Room) Z #[(.ref x), (.int (Int32.ofNat i))] h0 (Q_rm_ch zc fm x t kb cs i h0 n0) 0 0 := by
  refine enter (Ls := #[.val (.ref x), .val (.int (Int32.ofNat i))]) (plainFor_of_name pn_6) (fun m => by first | (simp [entryFrame, mkF, argsToLocals, Value.category]; done) | rfl) ?_
  intro p e s m below meth c T0 hx hby hml hown hnm hret hlk hZ X0 e0
  have N0 := Fr.nil n0
  replace hown : s.vm.findClass "java/lang/String" = some m.cls := hown
  show Run p e below _ (T0.setTop (mkF m 0 #[.val (.ref x), .val (.int (Int32.ofNat i))] []))
  refine go (fun _ => XS.aloadN X0.here hx rfl (hb hby d_j42_m56_0) rfl rfl) ?_
  show Run p e below _ (T0.setTop (mkF m 1 #[.val (.ref x), .val (.int (Int32.ofNat i))] [(.ref x)]))
  refine callVi X0 hx hZ hown (wd hw 208 rfl) (wd hw 209 rfl) (notFace_of_selects (args := #[]) (mvT hZ (wd hw 211 rfl))) (wd hw 211 rfl) (wd hw 210 rfl) (wd hw 212 rfl) (wd hw 37 rfl) (by decide) e0 T_x.1 (argsL := []) (rest := []) (rm_sil l Z a0 hw [] zc x t kb cs h0 n0 O0 S_COMPACT_STRINGS hzc T_x) (W := 0) (by decide) (by decide) (by decide) (by decide) (by rw [hml]; rfl) (lenOf pd_5 rfl) rfl (Nat.le_of_eq rfl) (hb hby d_j42_m56_1) ?_
  intro v26 T26 L26 h26 X26 e26 q26
  obtain ⟨rv, n26, k26⟩ := q26
  replace rv : v26 = some (.int (1 : Int32)) := rv
  subst rv
  have e26 := e26.trans k26
  have N26 := Fr.app N0 n26
  show Run p e below _ (T26.setTop (mkF m 4 #[.val (.ref x), .val (.int (Int32.ofNat i))] [(.int (1 : Int32))]))
  refine go (fun _ => XS.ifNo X26.here hx rfl (hb hby d_j42_m56_4) rfl ((if0 _ _).trans (feq (by decide : ¬ ((1 : Int32) = 0))).1)) ?_
  show Run p e below _ (T26.setTop (mkF m 7 #[.val (.ref x), .val (.int (Int32.ofNat i))] []))
  refine go (fun _ => XS.aloadN X26.here hx rfl (hb hby d_j42_m56_7) rfl rfl) ?_
  show Run p e below _ (T26.setTop (mkF m 8 #[.val (.ref x), .val (.int (Int32.ofNat i))] [(.ref x)]))
  obtain ⟨T27, X27, e27, st27⟩ := getF X26 hx hZ hown (host := "") (Or.inl (wd hw 64 rfl)) Via.refl e26 T_x.2.1 (g := (mkF m 8 #[.val (.ref x), .val (.int (Int32.ofNat i))] [(.ref x)])) rfl rfl (hb hby d_j42_m56_8)
  refine go st27 ?_
  show Run p e below _ (T27.setTop (mkF m 11 #[.val (.ref x), .val (.int (Int32.ofNat i))] [(.ref t)]))
  refine go (fun _ => XS.iloadN X27.here hx rfl (hb hby d_j42_m56_11) rfl) ?_
  show Run p e below _ (T27.setTop (mkF m 12 #[.val (.ref x), .val (.int (Int32.ofNat i))] [(.int (Int32.ofNat i)), (.ref t)]))
  refine callSt X27 hx hZ hown (wd hw 213 rfl) (wd hw 214 rfl) (wd hw 215 rfl) (wd hw 216 rfl) (by decide) e27 (argsL := [(.ref t), (.int (Int32.ofNat i))]) (rest := []) (rm_lch l Z a0 hw [] fm t kb cs i h0 n0 O0 S_SIOOBE_FORMATTER hfm T_x.2.2.2 Hx lx hi) (W := 0) (by decide) (by decide) (by decide) (by decide) (by rw [hml]; rfl) (lenOf pd_6 rfl) rfl (Nat.le_of_eq rfl) (hb hby d_j42_m56_12) ?_
  intro v28 T28 L28 h28 X28 e28 q28
  obtain ⟨rv, n28, k28⟩ := q28
  replace rv : v28 = some (.int (cs.getD i 0)) := rv
  subst rv
  have e28 := e28.trans k28
  have N28 := Fr.app N26 n28
  show Run p e below _ (T28.setTop (mkF m 15 #[.val (.ref x), .val (.int (Int32.ofNat i))] [(.int (cs.getD i 0))]))
  exact endN X28 hx hlk (t := .char) hret (by simp) (hb hby d_j42_m56_15) (⟨congrArg (fun z => some (Value.int z)) (own_chn (own_getIn Hx hi)), N28, e28⟩) (by decide) (by decide)
theorem d_j68_m9_0 : decode jdk_68_method_9_code 0 = .ok (.aload_n 0, 1) := by decide +kernel
theorem d_j68_m9_1 : decode jdk_68_method_9_code 1 = .ok (.getfield 15, 3) := by decide +kernel
theorem d_j68_m9_4 : decode jdk_68_method_9_code 4 = .ok (.arraylength, 1) := by decide +kernel
theorem d_j68_m9_5 : decode jdk_68_method_9_code 5 = .ok (.aload_n 0, 1) := by decide +kernel
theorem d_j68_m9_6 : decode jdk_68_method_9_code 6 = .ok (.getfield 22, 3) := by decide +kernel
theorem d_j68_m9_9 : decode jdk_68_method_9_code 9 = .ok (.ishr, 1) := by decide +kernel
theorem d_j68_m9_10 : decode jdk_68_method_9_code 10 = .ok (.istore_n 2, 1) := by decide +kernel
theorem d_j68_m9_11 : decode jdk_68_method_9_code 11 = .ok (.iload_n 1, 1) := by decide +kernel
theorem d_j68_m9_12 : decode jdk_68_method_9_code 12 = .ok (.iload_n 2, 1) := by decide +kernel
theorem d_j68_m9_13 : decode jdk_68_method_9_code 13 = .ok (.isub, 1) := by decide +kernel
theorem d_j68_m9_14 : decode jdk_68_method_9_code 14 = .ok (.ifCond .le 24, 3) := by decide +kernel
theorem d_j68_m9_38 : decode jdk_68_method_9_code 38 = .ok (.return_, 1) := by decide +kernel
def Q_rm_en0_16 (b da : Addr) (kd : ClassId) (cs : List Int32) (k : Nat) (h0 : Heap) (n0 : Nat) (v : Option Value) (h : Heap) (L : List Loc) : Prop := v = none ∧ Fr n0 L ∧ h = h0
set_option maxRecDepth 65536 in
set_option maxHeartbeats 40000000 in
theorem rm_en0_16 (l : Launch) (Z : State) (a0 : Array Value) (hw : ∀ d ∈ tables_1, d.before a0 Z = true) (ws : List Jvm.Cond) (b da : Addr) (kd : ClassId) (cs : List Int32) (k : Nat) (h0 : Heap) (n0 : Nat) (O0 : Old Z n0 h0) (E_b : Exa Z h0 b "java/lang/StringBuilder") (F_value_b : Fld Z h0 b "java/lang/AbstractStringBuilder" "value" "[B" (.ref da)) (F_coder_b : Fld Z h0 b "java/lang/AbstractStringBuilder" "coder" "B" (.int (0 : Int32))) (F_count_b : Fld Z h0 b "java/lang/AbstractStringBuilder" "count" "I" (.int (Int32.ofNat (cs).length))) (V_da : Arv Z h0 da kd .byte (16 : Int32) (BY cs) (.int 0)) (E_da : Exa Z h0 da "[B") (g_b : n0 ≤ b) (g_da : n0 ≤ da) (hk : k < 1000) (hq : (k : Int) ≤ (16 : Int32).toInt) :
    Meets l (⟨"java/lang/AbstractStringBuilder", "ensureCapacityInternal", "(I)V"⟩ : MethodName) jdk_68_method_9_code 3 none ws ({ frames := 0, cells := 0, slots := 0, locals := 0 } : Room) Z #[(.ref b), (.int (Int32.ofNat k))] h0 (Q_rm_en0_16 b da kd cs k h0 n0) 0 0 := by
  refine enter (Ls := #[.val (.ref b), .val (.int (Int32.ofNat k)), .unset]) (plainFor_of_name pn_2) (fun m => by first | (simp [entryFrame, mkF, argsToLocals, Value.category]; done) | rfl) ?_
  intro p e s m below meth c T0 hx hby hml hown hnm hret hlk hZ X0 e0
  have N0 := Fr.nil n0
  replace hown : s.vm.findClass "java/lang/AbstractStringBuilder" = some m.cls := hown
  show Run p e below _ (T0.setTop (mkF m 0 #[.val (.ref b), .val (.int (Int32.ofNat k)), .unset] []))
  refine go (fun _ => XS.aloadN X0.here hx rfl (hb hby d_j68_m9_0) rfl rfl) ?_
  show Run p e below _ (T0.setTop (mkF m 1 #[.val (.ref b), .val (.int (Int32.ofNat k)), .unset] [(.ref b)]))
  obtain ⟨T29, X29, e29, st29⟩ := getF X0 hx hZ hown (host := "") (Or.inl (wd hw 39 rfl)) Via.refl e0 F_value_b (g := (mkF m 1 #[.val (.ref b), .val (.int (Int32.ofNat k)), .unset] [(.ref b)])) rfl rfl (hb hby d_j68_m9_1)
  refine go st29 ?_
  show Run p e below _ (T29.setTop (mkF m 4 #[.val (.ref b), .val (.int (Int32.ofNat k)), .unset] [(.ref da)]))
  obtain ⟨cl30, Ar30, ak30, as30, an30, ah30, ag30⟩ := id V_da
  refine go (fun _ => X29.arraylength hx (by rw [e29]; exact Ar30.1) (State.isArrayOf_alike hZ.alike Ar30.2.1) (g := (mkF m 4 #[.val (.ref b), .val (.int (Int32.ofNat k)), .unset] [(.ref da)])) rfl rfl (hb hby d_j68_m9_4) _) ?_
  rw [len_of as30 an30]
  show Run p e below _ (T29.setTop (mkF m 5 #[.val (.ref b), .val (.int (Int32.ofNat k)), .unset] [(.int (16 : Int32))]))
  refine go (fun _ => XS.aloadN X29.here hx rfl (hb hby d_j68_m9_5) rfl rfl) ?_
  show Run p e below _ (T29.setTop (mkF m 6 #[.val (.ref b), .val (.int (Int32.ofNat k)), .unset] [(.ref b), (.int (16 : Int32))]))
  obtain ⟨T31, X31, e31, st31⟩ := getF X29 hx hZ hown (host := "") (Or.inl (wd hw 41 rfl)) Via.refl e29 F_coder_b (g := (mkF m 6 #[.val (.ref b), .val (.int (Int32.ofNat k)), .unset] [(.ref b), (.int (16 : Int32))])) rfl rfl (hb hby d_j68_m9_6)
  refine go st31 ?_
  show Run p e below _ (T31.setTop (mkF m 9 #[.val (.ref b), .val (.int (Int32.ofNat k)), .unset] [(.int (0 : Int32)), (.int (16 : Int32))]))
  refine go (fun _ => XS.ishr X31.here hx rfl (hb hby d_j68_m9_9) rfl) ?_
  rw [own_shr0]
  show Run p e below _ (T31.setTop (mkF m 10 #[.val (.ref b), .val (.int (Int32.ofNat k)), .unset] [(.int (16 : Int32))]))
  refine go (fun _ => XS.istoreN X31.here hx rfl (hb hby d_j68_m9_10) rfl (l' := #[.val (.ref b), .val (.int (Int32.ofNat k)), .val (.int (16 : Int32))]) rfl) ?_
  show Run p e below _ (T31.setTop (mkF m 11 #[.val (.ref b), .val (.int (Int32.ofNat k)), .val (.int (16 : Int32))] []))
  refine go (fun _ => XS.iloadN X31.here hx rfl (hb hby d_j68_m9_11) rfl) ?_
  show Run p e below _ (T31.setTop (mkF m 12 #[.val (.ref b), .val (.int (Int32.ofNat k)), .val (.int (16 : Int32))] [(.int (Int32.ofNat k))]))
  refine go (fun _ => XS.iloadN X31.here hx rfl (hb hby d_j68_m9_12) rfl) ?_
  show Run p e below _ (T31.setTop (mkF m 13 #[.val (.ref b), .val (.int (Int32.ofNat k)), .val (.int (16 : Int32))] [(.int (16 : Int32)), (.int (Int32.ofNat k))]))
  refine go (fun _ => XS.isub X31.here hx rfl (hb hby d_j68_m9_13) rfl) ?_
  show Run p e below _ (T31.setTop (mkF m 14 #[.val (.ref b), .val (.int (Int32.ofNat k)), .val (.int (16 : Int32))] [(.int ((Int32.ofNat k) - (16 : Int32)))]))
  refine go (fun _ => XS.ifYes X31.here hx rfl (pc0 := 14) (pc' := 38) rfl (hb hby d_j68_m9_14) rfl ((if0 _ _).trans (flt (own_n0 hk (by decide) (by decide) hq)).2.2.2) (by decide) (by decide)) ?_
  show Run p e below _ (T31.setTop (mkF m 38 #[.val (.ref b), .val (.int (Int32.ofNat k)), .val (.int (16 : Int32))] []))
  exact endV X31 hx hlk hret (hb hby d_j68_m9_38) (⟨rfl, N0, e31⟩) (by decide) (by decide)
theorem d_j48_m27_0 : decode jdk_48_method_27_code 0 = .ok (.iload_n 0, 1) := by decide +kernel
theorem d_j48_m27_1 : decode jdk_48_method_27_code 1 = .ok (.iload_n 1, 1) := by decide +kernel
theorem d_j48_m27_2 : decode jdk_48_method_27_code 2 = .ok (.iload_n 2, 1) := by decide +kernel
theorem d_j48_m27_3 : decode jdk_48_method_27_code 3 = .ok (.invokestatic 194, 3) := by decide +kernel
theorem pd_7 : parseMethodDescriptor "(II)I" = some ⟨[.int, .int], some .int⟩ := by decide +kernel
theorem d_j48_m27_6 : decode jdk_48_method_27_code 6 = .ok (.iadd, 1) := by decide +kernel
theorem d_j48_m27_7 : decode jdk_48_method_27_code 7 = .ok (.istore_n 3, 1) := by decide +kernel
theorem d_j48_m27_8 : decode jdk_48_method_27_code 8 = .ok (.iconst 0, 1) := by decide +kernel
theorem d_j48_m27_9 : decode jdk_48_method_27_code 9 = .ok (.iload_n 3, 1) := by decide +kernel
theorem d_j48_m27_10 : decode jdk_48_method_27_code 10 = .ok (.if_icmp .ge 11, 3) := by decide +kernel
theorem d_j48_m27_13 : decode jdk_48_method_27_code 13 = .ok (.iload_n 3, 1) := by decide +kernel
theorem d_j48_m27_14 : decode jdk_48_method_27_code 14 = .ok (.ldc 200, 2) := by decide +kernel
theorem d_j48_m27_16 : decode jdk_48_method_27_code 16 = .ok (.if_icmp .gt 5, 3) := by decide +kernel
theorem d_j48_m27_19 : decode jdk_48_method_27_code 19 = .ok (.iload_n 3, 1) := by decide +kernel
theorem d_j48_m27_20 : decode jdk_48_method_27_code 20 = .ok (.ireturn, 1) := by decide +kernel
theorem pn_9 : plainName "jdk/internal/util/ArraysSupport" = true := by first | (simp [plainName, overriddenIn]; done) | decide +kernel
def Q_rm_nl_16 (p1 : Int32) (h0 : Heap) (n0 : Nat) (v : Option Value) (h : Heap) (L : List Loc) : Prop := v = some (.int (34 : Int32)) ∧ Fr n0 L ∧ h = h0
set_option maxRecDepth 65536 in
set_option maxHeartbeats 40000000 in
theorem rm_nl_16 (l : Launch) (Z : State) (a0 : Array Value) (hw : ∀ d ∈ tables_1, d.before a0 Z = true) (ws : List Jvm.Cond) (p1 : Int32) (h0 : Heap) (n0 : Nat) (O0 : Old Z n0 h0) (hm : p1 < (18 : Int32)) :
    Meets l (⟨"jdk/internal/util/ArraysSupport", "newLength", "(III)I"⟩ : MethodName) jdk_48_method_27_code 4 (some .int) ws ({ frames := 1, cells := 0, slots := 0, locals := 14 } : Room) Z #[(.int (16 : Int32)), (.int p1), (.int (18 : Int32))] h0 (Q_rm_nl_16 p1 h0 n0) 0 0 := by
  refine enter (Ls := #[.val (.int (16 : Int32)), .val (.int p1), .val (.int (18 : Int32)), .unset]) (plainFor_of_name pn_9) (fun m => by first | (simp [entryFrame, mkF, argsToLocals, Value.category]; done) | rfl) ?_
  intro p e s m below meth c T0 hx hby hml hown hnm hret hlk hZ X0 e0
  have N0 := Fr.nil n0
  replace hown : s.vm.findClass "jdk/internal/util/ArraysSupport" = some m.cls := hown
  show Run p e below _ (T0.setTop (mkF m 0 #[.val (.int (16 : Int32)), .val (.int p1), .val (.int (18 : Int32)), .unset] []))
  refine go (fun _ => XS.iloadN X0.here hx rfl (hb hby d_j48_m27_0) rfl) ?_
  show Run p e below _ (T0.setTop (mkF m 1 #[.val (.int (16 : Int32)), .val (.int p1), .val (.int (18 : Int32)), .unset] [(.int (16 : Int32))]))
  refine go (fun _ => XS.iloadN X0.here hx rfl (hb hby d_j48_m27_1) rfl) ?_
  show Run p e below _ (T0.setTop (mkF m 2 #[.val (.int (16 : Int32)), .val (.int p1), .val (.int (18 : Int32)), .unset] [(.int p1), (.int (16 : Int32))]))
  refine go (fun _ => XS.iloadN X0.here hx rfl (hb hby d_j48_m27_2) rfl) ?_
  show Run p e below _ (T0.setTop (mkF m 3 #[.val (.int (16 : Int32)), .val (.int p1), .val (.int (18 : Int32)), .unset] [(.int (18 : Int32)), (.int p1), (.int (16 : Int32))]))
  refine callSt X0 hx hZ hown (wd hw 88 rfl) (wd hw 89 rfl) (wd hw 90 rfl) (wd hw 91 rfl) (by decide) e0 (argsL := [(.int p1), (.int (18 : Int32))]) (rest := [(.int (16 : Int32))]) (rm_max l Z a0 hw [] p1 (18 : Int32) h0 n0 O0) (W := 1) (by decide) (by decide) (by decide) (by decide) (by rw [hml]; rfl) (lenOf pd_7 rfl) rfl (Nat.le_of_eq rfl) (hb hby d_j48_m27_3) ?_
  intro v32 T32 L32 h32 X32 e32 q32
  obtain ⟨rv, n32, k32⟩ := q32
  replace rv : v32 = some (.int (18 : Int32)) := by rw [if_pos hm] at rv; exact rv
  subst rv
  have e32 := e32.trans k32
  have N32 := Fr.app N0 n32
  show Run p e below _ (T32.setTop (mkF m 6 #[.val (.int (16 : Int32)), .val (.int p1), .val (.int (18 : Int32)), .unset] [(.int (18 : Int32)), (.int (16 : Int32))]))
  refine go (fun _ => XS.iadd X32.here hx rfl (hb hby d_j48_m27_6) rfl) ?_
  show Run p e below _ (T32.setTop (mkF m 7 #[.val (.int (16 : Int32)), .val (.int p1), .val (.int (18 : Int32)), .unset] [(.int (34 : Int32))]))
  refine go (fun _ => XS.istoreN X32.here hx rfl (hb hby d_j48_m27_7) rfl (l' := #[.val (.int (16 : Int32)), .val (.int p1), .val (.int (18 : Int32)), .val (.int (34 : Int32))]) rfl) ?_
  show Run p e below _ (T32.setTop (mkF m 8 #[.val (.int (16 : Int32)), .val (.int p1), .val (.int (18 : Int32)), .val (.int (34 : Int32))] []))
  refine go (fun _ => XS.iconst X32.here hx rfl (hb hby d_j48_m27_8)) ?_
  show Run p e below _ (T32.setTop (mkF m 9 #[.val (.int (16 : Int32)), .val (.int p1), .val (.int (18 : Int32)), .val (.int (34 : Int32))] [(.int (0 : Int32))]))
  refine go (fun _ => XS.iloadN X32.here hx rfl (hb hby d_j48_m27_9) rfl) ?_
  show Run p e below _ (T32.setTop (mkF m 10 #[.val (.int (16 : Int32)), .val (.int p1), .val (.int (18 : Int32)), .val (.int (34 : Int32))] [(.int (34 : Int32)), (.int (0 : Int32))]))
  refine go (fun _ => XS.icmpNo X32.here hx rfl (hb hby d_j48_m27_10) rfl (tlt (by decide : (0 : Int32) < 34)).2.1) ?_
  show Run p e below _ (T32.setTop (mkF m 13 #[.val (.int (16 : Int32)), .val (.int p1), .val (.int (18 : Int32)), .val (.int (34 : Int32))] []))
  refine go (fun _ => XS.iloadN X32.here hx rfl (hb hby d_j48_m27_13) rfl) ?_
  show Run p e below _ (T32.setTop (mkF m 14 #[.val (.int (16 : Int32)), .val (.int p1), .val (.int (18 : Int32)), .val (.int (34 : Int32))] [(.int (34 : Int32))]))
  refine go (fun _ => X32.ldcI hx hown (mvT hZ (wd hw 92 rfl)) rfl (hb hby d_j48_m27_14)) ?_
  show Run p e below _ (T32.setTop (mkF m 16 #[.val (.int (16 : Int32)), .val (.int p1), .val (.int (18 : Int32)), .val (.int (34 : Int32))] [(.int (2147483639 : Int32)), (.int (34 : Int32))]))
  refine go (fun _ => XS.icmpNo X32.here hx rfl (hb hby d_j48_m27_16) rfl (flt (by decide : ¬ ((2147483639 : Int32) < 34))).2.2.1) ?_
  show Run p e below _ (T32.setTop (mkF m 19 #[.val (.int (16 : Int32)), .val (.int p1), .val (.int (18 : Int32)), .val (.int (34 : Int32))] []))
  refine go (fun _ => XS.iloadN X32.here hx rfl (hb hby d_j48_m27_19) rfl) ?_
  show Run p e below _ (T32.setTop (mkF m 20 #[.val (.int (16 : Int32)), .val (.int p1), .val (.int (18 : Int32)), .val (.int (34 : Int32))] [(.int (34 : Int32))]))
  exact endI X32 hx hlk hret (hb hby d_j48_m27_20) (⟨rfl, N32, e32⟩) (by decide) (by decide)
theorem d_j68_m10_0 : decode jdk_68_method_10_code 0 = .ok (.aload_n 0, 1) := by decide +kernel
theorem d_j68_m10_1 : decode jdk_68_method_10_code 1 = .ok (.getfield 15, 3) := by decide +kernel
theorem d_j68_m10_4 : decode jdk_68_method_10_code 4 = .ok (.arraylength, 1) := by decide +kernel
theorem d_j68_m10_5 : decode jdk_68_method_10_code 5 = .ok (.istore_n 2, 1) := by decide +kernel
theorem d_j68_m10_6 : decode jdk_68_method_10_code 6 = .ok (.iload_n 1, 1) := by decide +kernel
theorem d_j68_m10_7 : decode jdk_68_method_10_code 7 = .ok (.aload_n 0, 1) := by decide +kernel
theorem d_j68_m10_8 : decode jdk_68_method_10_code 8 = .ok (.getfield 22, 3) := by decide +kernel
theorem d_j68_m10_11 : decode jdk_68_method_10_code 11 = .ok (.ishl, 1) := by decide +kernel
theorem d_j68_m10_12 : decode jdk_68_method_10_code 12 = .ok (.istore_n 3, 1) := by decide +kernel
theorem d_j68_m10_13 : decode jdk_68_method_10_code 13 = .ok (.iload_n 3, 1) := by decide +kernel
theorem d_j68_m10_14 : decode jdk_68_method_10_code 14 = .ok (.iload_n 2, 1) := by decide +kernel
theorem d_j68_m10_15 : decode jdk_68_method_10_code 15 = .ok (.isub, 1) := by decide +kernel
theorem d_j68_m10_16 : decode jdk_68_method_10_code 16 = .ok (.istore 4, 2) := by decide +kernel
theorem d_j68_m10_18 : decode jdk_68_method_10_code 18 = .ok (.iload_n 2, 1) := by decide +kernel
theorem d_j68_m10_19 : decode jdk_68_method_10_code 19 = .ok (.iload 4, 2) := by decide +kernel
theorem d_j68_m10_21 : decode jdk_68_method_10_code 21 = .ok (.iload_n 2, 1) := by decide +kernel
theorem d_j68_m10_22 : decode jdk_68_method_10_code 22 = .ok (.iconst 2, 1) := by decide +kernel
theorem d_j68_m10_23 : decode jdk_68_method_10_code 23 = .ok (.aload_n 0, 1) := by decide +kernel
theorem d_j68_m10_24 : decode jdk_68_method_10_code 24 = .ok (.getfield 22, 3) := by decide +kernel
theorem d_j68_m10_27 : decode jdk_68_method_10_code 27 = .ok (.ishl, 1) := by decide +kernel
theorem d_j68_m10_28 : decode jdk_68_method_10_code 28 = .ok (.iadd, 1) := by decide +kernel
theorem d_j68_m10_29 : decode jdk_68_method_10_code 29 = .ok (.invokestatic 114, 3) := by decide +kernel
theorem pd_8 : parseMethodDescriptor "(III)I" = some ⟨[.int, .int, .int], some .int⟩ := by decide +kernel
theorem d_j68_m10_32 : decode jdk_68_method_10_code 32 = .ok (.istore 5, 2) := by decide +kernel
theorem d_j68_m10_34 : decode jdk_68_method_10_code 34 = .ok (.iload 5, 2) := by decide +kernel
theorem d_j68_m10_36 : decode jdk_68_method_10_code 36 = .ok (.ldc 39, 2) := by decide +kernel
theorem d_j68_m10_38 : decode jdk_68_method_10_code 38 = .ok (.if_icmp .ne 13, 3) := by decide +kernel
theorem d_j68_m10_51 : decode jdk_68_method_10_code 51 = .ok (.iload 5, 2) := by decide +kernel
theorem d_j68_m10_53 : decode jdk_68_method_10_code 53 = .ok (.aload_n 0, 1) := by decide +kernel
theorem d_j68_m10_54 : decode jdk_68_method_10_code 54 = .ok (.getfield 22, 3) := by decide +kernel
theorem d_j68_m10_57 : decode jdk_68_method_10_code 57 = .ok (.ishr, 1) := by decide +kernel
theorem d_j68_m10_58 : decode jdk_68_method_10_code 58 = .ok (.ireturn, 1) := by decide +kernel
def Q_rm_nc_16 (b da : Addr) (kd : ClassId) (cs : List Int32) (k : Nat) (h0 : Heap) (n0 : Nat) (v : Option Value) (h : Heap) (L : List Loc) : Prop := v = some (.int (34 : Int32)) ∧ Fr n0 L ∧ h = h0
set_option maxRecDepth 65536 in
set_option maxHeartbeats 40000000 in
theorem rm_nc_16 (l : Launch) (Z : State) (a0 : Array Value) (hw : ∀ d ∈ tables_1, d.before a0 Z = true) (ws : List Jvm.Cond) (b da : Addr) (kd : ClassId) (cs : List Int32) (k : Nat) (h0 : Heap) (n0 : Nat) (O0 : Old Z n0 h0) (E_b : Exa Z h0 b "java/lang/StringBuilder") (F_value_b : Fld Z h0 b "java/lang/AbstractStringBuilder" "value" "[B" (.ref da)) (F_coder_b : Fld Z h0 b "java/lang/AbstractStringBuilder" "coder" "B" (.int (0 : Int32))) (F_count_b : Fld Z h0 b "java/lang/AbstractStringBuilder" "count" "I" (.int (Int32.ofNat (cs).length))) (V_da : Arv Z h0 da kd .byte (16 : Int32) (BY cs) (.int 0)) (E_da : Exa Z h0 da "[B") (g_b : n0 ≤ b) (g_da : n0 ≤ da) (hk : k < 1000) (h1 : (16 : Int32).toInt < (k : Int)) (h2 : (k : Int) < (16 : Int32).toInt + (18 : Int32).toInt) :
    Meets l (⟨"java/lang/AbstractStringBuilder", "newCapacity", "(I)I"⟩ : MethodName) jdk_68_method_10_code 6 (some .int) ws ({ frames := 2, cells := 0, slots := 0, locals := 29 } : Room) Z #[(.ref b), (.int (Int32.ofNat k))] h0 (Q_rm_nc_16 b da kd cs k h0 n0) 0 0 := by
  refine enter (Ls := #[.val (.ref b), .val (.int (Int32.ofNat k)), .unset, .unset, .unset, .unset]) (plainFor_of_name pn_2) (fun m => by first | (simp [entryFrame, mkF, argsToLocals, Value.category]; done) | rfl) ?_
  intro p e s m below meth c T0 hx hby hml hown hnm hret hlk hZ X0 e0
  have N0 := Fr.nil n0
  replace hown : s.vm.findClass "java/lang/AbstractStringBuilder" = some m.cls := hown
  show Run p e below _ (T0.setTop (mkF m 0 #[.val (.ref b), .val (.int (Int32.ofNat k)), .unset, .unset, .unset, .unset] []))
  refine go (fun _ => XS.aloadN X0.here hx rfl (hb hby d_j68_m10_0) rfl rfl) ?_
  show Run p e below _ (T0.setTop (mkF m 1 #[.val (.ref b), .val (.int (Int32.ofNat k)), .unset, .unset, .unset, .unset] [(.ref b)]))
  obtain ⟨T33, X33, e33, st33⟩ := getF X0 hx hZ hown (host := "") (Or.inl (wd hw 39 rfl)) Via.refl e0 F_value_b (g := (mkF m 1 #[.val (.ref b), .val (.int (Int32.ofNat k)), .unset, .unset, .unset, .unset] [(.ref b)])) rfl rfl (hb hby d_j68_m10_1)
  refine go st33 ?_
  show Run p e below _ (T33.setTop (mkF m 4 #[.val (.ref b), .val (.int (Int32.ofNat k)), .unset, .unset, .unset, .unset] [(.ref da)]))
  obtain ⟨cl34, Ar34, ak34, as34, an34, ah34, ag34⟩ := id V_da
  refine go (fun _ => X33.arraylength hx (by rw [e33]; exact Ar34.1) (State.isArrayOf_alike hZ.alike Ar34.2.1) (g := (mkF m 4 #[.val (.ref b), .val (.int (Int32.ofNat k)), .unset, .unset, .unset, .unset] [(.ref da)])) rfl rfl (hb hby d_j68_m10_4) _) ?_
  rw [len_of as34 an34]
  show Run p e below _ (T33.setTop (mkF m 5 #[.val (.ref b), .val (.int (Int32.ofNat k)), .unset, .unset, .unset, .unset] [(.int (16 : Int32))]))
  refine go (fun _ => XS.istoreN X33.here hx rfl (hb hby d_j68_m10_5) rfl (l' := #[.val (.ref b), .val (.int (Int32.ofNat k)), .val (.int (16 : Int32)), .unset, .unset, .unset]) rfl) ?_
  show Run p e below _ (T33.setTop (mkF m 6 #[.val (.ref b), .val (.int (Int32.ofNat k)), .val (.int (16 : Int32)), .unset, .unset, .unset] []))
  refine go (fun _ => XS.iloadN X33.here hx rfl (hb hby d_j68_m10_6) rfl) ?_
  show Run p e below _ (T33.setTop (mkF m 7 #[.val (.ref b), .val (.int (Int32.ofNat k)), .val (.int (16 : Int32)), .unset, .unset, .unset] [(.int (Int32.ofNat k))]))
  refine go (fun _ => XS.aloadN X33.here hx rfl (hb hby d_j68_m10_7) rfl rfl) ?_
  show Run p e below _ (T33.setTop (mkF m 8 #[.val (.ref b), .val (.int (Int32.ofNat k)), .val (.int (16 : Int32)), .unset, .unset, .unset] [(.ref b), (.int (Int32.ofNat k))]))
  obtain ⟨T35, X35, e35, st35⟩ := getF X33 hx hZ hown (host := "") (Or.inl (wd hw 41 rfl)) Via.refl e33 F_coder_b (g := (mkF m 8 #[.val (.ref b), .val (.int (Int32.ofNat k)), .val (.int (16 : Int32)), .unset, .unset, .unset] [(.ref b), (.int (Int32.ofNat k))])) rfl rfl (hb hby d_j68_m10_8)
  refine go st35 ?_
  show Run p e below _ (T35.setTop (mkF m 11 #[.val (.ref b), .val (.int (Int32.ofNat k)), .val (.int (16 : Int32)), .unset, .unset, .unset] [(.int (0 : Int32)), (.int (Int32.ofNat k))]))
  refine go (fun _ => XS.ishl X35.here hx rfl (hb hby d_j68_m10_11) rfl) ?_
  rw [own_shl0]
  show Run p e below _ (T35.setTop (mkF m 12 #[.val (.ref b), .val (.int (Int32.ofNat k)), .val (.int (16 : Int32)), .unset, .unset, .unset] [(.int (Int32.ofNat k))]))
  refine go (fun _ => XS.istoreN X35.here hx rfl (hb hby d_j68_m10_12) rfl (l' := #[.val (.ref b), .val (.int (Int32.ofNat k)), .val (.int (16 : Int32)), .val (.int (Int32.ofNat k)), .unset, .unset]) rfl) ?_
  show Run p e below _ (T35.setTop (mkF m 13 #[.val (.ref b), .val (.int (Int32.ofNat k)), .val (.int (16 : Int32)), .val (.int (Int32.ofNat k)), .unset, .unset] []))
  refine go (fun _ => XS.iloadN X35.here hx rfl (hb hby d_j68_m10_13) rfl) ?_
  show Run p e below _ (T35.setTop (mkF m 14 #[.val (.ref b), .val (.int (Int32.ofNat k)), .val (.int (16 : Int32)), .val (.int (Int32.ofNat k)), .unset, .unset] [(.int (Int32.ofNat k))]))
  refine go (fun _ => XS.iloadN X35.here hx rfl (hb hby d_j68_m10_14) rfl) ?_
  show Run p e below _ (T35.setTop (mkF m 15 #[.val (.ref b), .val (.int (Int32.ofNat k)), .val (.int (16 : Int32)), .val (.int (Int32.ofNat k)), .unset, .unset] [(.int (16 : Int32)), (.int (Int32.ofNat k))]))
  refine go (fun _ => XS.isub X35.here hx rfl (hb hby d_j68_m10_15) rfl) ?_
  show Run p e below _ (T35.setTop (mkF m 16 #[.val (.ref b), .val (.int (Int32.ofNat k)), .val (.int (16 : Int32)), .val (.int (Int32.ofNat k)), .unset, .unset] [(.int ((Int32.ofNat k) - (16 : Int32)))]))
  refine go (fun _ => XS.istore X35.here hx rfl (hb hby d_j68_m10_16) rfl (l' := #[.val (.ref b), .val (.int (Int32.ofNat k)), .val (.int (16 : Int32)), .val (.int (Int32.ofNat k)), .val (.int ((Int32.ofNat k) - (16 : Int32))), .unset]) rfl) ?_
  show Run p e below _ (T35.setTop (mkF m 18 #[.val (.ref b), .val (.int (Int32.ofNat k)), .val (.int (16 : Int32)), .val (.int (Int32.ofNat k)), .val (.int ((Int32.ofNat k) - (16 : Int32))), .unset] []))
  refine go (fun _ => XS.iloadN X35.here hx rfl (hb hby d_j68_m10_18) rfl) ?_
  show Run p e below _ (T35.setTop (mkF m 19 #[.val (.ref b), .val (.int (Int32.ofNat k)), .val (.int (16 : Int32)), .val (.int (Int32.ofNat k)), .val (.int ((Int32.ofNat k) - (16 : Int32))), .unset] [(.int (16 : Int32))]))
  refine go (fun _ => XS.iload X35.here hx rfl (hb hby d_j68_m10_19) rfl) ?_
  show Run p e below _ (T35.setTop (mkF m 21 #[.val (.ref b), .val (.int (Int32.ofNat k)), .val (.int (16 : Int32)), .val (.int (Int32.ofNat k)), .val (.int ((Int32.ofNat k) - (16 : Int32))), .unset] [(.int ((Int32.ofNat k) - (16 : Int32))), (.int (16 : Int32))]))
  refine go (fun _ => XS.iloadN X35.here hx rfl (hb hby d_j68_m10_21) rfl) ?_
  show Run p e below _ (T35.setTop (mkF m 22 #[.val (.ref b), .val (.int (Int32.ofNat k)), .val (.int (16 : Int32)), .val (.int (Int32.ofNat k)), .val (.int ((Int32.ofNat k) - (16 : Int32))), .unset] [(.int (16 : Int32)), (.int ((Int32.ofNat k) - (16 : Int32))), (.int (16 : Int32))]))
  refine go (fun _ => XS.iconst X35.here hx rfl (hb hby d_j68_m10_22)) ?_
  show Run p e below _ (T35.setTop (mkF m 23 #[.val (.ref b), .val (.int (Int32.ofNat k)), .val (.int (16 : Int32)), .val (.int (Int32.ofNat k)), .val (.int ((Int32.ofNat k) - (16 : Int32))), .unset] [(.int (2 : Int32)), (.int (16 : Int32)), (.int ((Int32.ofNat k) - (16 : Int32))), (.int (16 : Int32))]))
  refine go (fun _ => XS.aloadN X35.here hx rfl (hb hby d_j68_m10_23) rfl rfl) ?_
  show Run p e below _ (T35.setTop (mkF m 24 #[.val (.ref b), .val (.int (Int32.ofNat k)), .val (.int (16 : Int32)), .val (.int (Int32.ofNat k)), .val (.int ((Int32.ofNat k) - (16 : Int32))), .unset] [(.ref b), (.int (2 : Int32)), (.int (16 : Int32)), (.int ((Int32.ofNat k) - (16 : Int32))), (.int (16 : Int32))]))
  obtain ⟨T36, X36, e36, st36⟩ := getF X35 hx hZ hown (host := "") (Or.inl (wd hw 41 rfl)) Via.refl e35 F_coder_b (g := (mkF m 24 #[.val (.ref b), .val (.int (Int32.ofNat k)), .val (.int (16 : Int32)), .val (.int (Int32.ofNat k)), .val (.int ((Int32.ofNat k) - (16 : Int32))), .unset] [(.ref b), (.int (2 : Int32)), (.int (16 : Int32)), (.int ((Int32.ofNat k) - (16 : Int32))), (.int (16 : Int32))])) rfl rfl (hb hby d_j68_m10_24)
  refine go st36 ?_
  show Run p e below _ (T36.setTop (mkF m 27 #[.val (.ref b), .val (.int (Int32.ofNat k)), .val (.int (16 : Int32)), .val (.int (Int32.ofNat k)), .val (.int ((Int32.ofNat k) - (16 : Int32))), .unset] [(.int (0 : Int32)), (.int (2 : Int32)), (.int (16 : Int32)), (.int ((Int32.ofNat k) - (16 : Int32))), (.int (16 : Int32))]))
  refine go (fun _ => XS.ishl X36.here hx rfl (hb hby d_j68_m10_27) rfl) ?_
  rw [own_shl0]
  show Run p e below _ (T36.setTop (mkF m 28 #[.val (.ref b), .val (.int (Int32.ofNat k)), .val (.int (16 : Int32)), .val (.int (Int32.ofNat k)), .val (.int ((Int32.ofNat k) - (16 : Int32))), .unset] [(.int (2 : Int32)), (.int (16 : Int32)), (.int ((Int32.ofNat k) - (16 : Int32))), (.int (16 : Int32))]))
  refine go (fun _ => XS.iadd X36.here hx rfl (hb hby d_j68_m10_28) rfl) ?_
  show Run p e below _ (T36.setTop (mkF m 29 #[.val (.ref b), .val (.int (Int32.ofNat k)), .val (.int (16 : Int32)), .val (.int (Int32.ofNat k)), .val (.int ((Int32.ofNat k) - (16 : Int32))), .unset] [(.int (18 : Int32)), (.int ((Int32.ofNat k) - (16 : Int32))), (.int (16 : Int32))]))
  refine callSt X36 hx hZ hown (wd hw 84 rfl) (wd hw 85 rfl) (wd hw 86 rfl) (wd hw 87 rfl) (by decide) e36 (argsL := [(.int (16 : Int32)), (.int ((Int32.ofNat k) - (16 : Int32))), (.int (18 : Int32))]) (rest := []) (rm_nl_16 l Z a0 hw [] ((Int32.ofNat k) - (16 : Int32)) h0 n0 O0 (own_mx hk (by decide) (by decide) h2)) (W := 0) (by decide) (by decide) (by decide) (by decide) (by rw [hml]; rfl) (lenOf pd_8 rfl) rfl (Nat.le_of_eq rfl) (hb hby d_j68_m10_29) ?_
  intro v37 T37 L37 h37 X37 e37 q37
  obtain ⟨rv, n37, k37⟩ := q37
  replace rv : v37 = some (.int (34 : Int32)) := rv
  subst rv
  have e37 := e37.trans k37
  have N37 := Fr.app N0 n37
  show Run p e below _ (T37.setTop (mkF m 32 #[.val (.ref b), .val (.int (Int32.ofNat k)), .val (.int (16 : Int32)), .val (.int (Int32.ofNat k)), .val (.int ((Int32.ofNat k) - (16 : Int32))), .unset] [(.int (34 : Int32))]))
  refine go (fun _ => XS.istore X37.here hx rfl (hb hby d_j68_m10_32) rfl (l' := #[.val (.ref b), .val (.int (Int32.ofNat k)), .val (.int (16 : Int32)), .val (.int (Int32.ofNat k)), .val (.int ((Int32.ofNat k) - (16 : Int32))), .val (.int (34 : Int32))]) rfl) ?_
  show Run p e below _ (T37.setTop (mkF m 34 #[.val (.ref b), .val (.int (Int32.ofNat k)), .val (.int (16 : Int32)), .val (.int (Int32.ofNat k)), .val (.int ((Int32.ofNat k) - (16 : Int32))), .val (.int (34 : Int32))] []))
  refine go (fun _ => XS.iload X37.here hx rfl (hb hby d_j68_m10_34) rfl) ?_
  show Run p e below _ (T37.setTop (mkF m 36 #[.val (.ref b), .val (.int (Int32.ofNat k)), .val (.int (16 : Int32)), .val (.int (Int32.ofNat k)), .val (.int ((Int32.ofNat k) - (16 : Int32))), .val (.int (34 : Int32))] [(.int (34 : Int32))]))
  refine go (fun _ => X37.ldcI hx hown (mvT hZ (wd hw 93 rfl)) rfl (hb hby d_j68_m10_36)) ?_
  show Run p e below _ (T37.setTop (mkF m 38 #[.val (.ref b), .val (.int (Int32.ofNat k)), .val (.int (16 : Int32)), .val (.int (Int32.ofNat k)), .val (.int ((Int32.ofNat k) - (16 : Int32))), .val (.int (34 : Int32))] [(.int (2147483647 : Int32)), (.int (34 : Int32))]))
  refine go (fun _ => XS.icmpYes X37.here hx rfl (pc0 := 38) (pc' := 51) rfl (hb hby d_j68_m10_38) rfl (feq (by decide : ¬ ((34 : Int32) = 2147483647))).2 (by decide) (by decide)) ?_
  show Run p e below _ (T37.setTop (mkF m 51 #[.val (.ref b), .val (.int (Int32.ofNat k)), .val (.int (16 : Int32)), .val (.int (Int32.ofNat k)), .val (.int ((Int32.ofNat k) - (16 : Int32))), .val (.int (34 : Int32))] []))
  refine go (fun _ => XS.iload X37.here hx rfl (hb hby d_j68_m10_51) rfl) ?_
  show Run p e below _ (T37.setTop (mkF m 53 #[.val (.ref b), .val (.int (Int32.ofNat k)), .val (.int (16 : Int32)), .val (.int (Int32.ofNat k)), .val (.int ((Int32.ofNat k) - (16 : Int32))), .val (.int (34 : Int32))] [(.int (34 : Int32))]))
  refine go (fun _ => XS.aloadN X37.here hx rfl (hb hby d_j68_m10_53) rfl rfl) ?_
  show Run p e below _ (T37.setTop (mkF m 54 #[.val (.ref b), .val (.int (Int32.ofNat k)), .val (.int (16 : Int32)), .val (.int (Int32.ofNat k)), .val (.int ((Int32.ofNat k) - (16 : Int32))), .val (.int (34 : Int32))] [(.ref b), (.int (34 : Int32))]))
  obtain ⟨T38, X38, e38, st38⟩ := getF X37 hx hZ hown (host := "") (Or.inl (wd hw 41 rfl)) Via.refl e37 F_coder_b (g := (mkF m 54 #[.val (.ref b), .val (.int (Int32.ofNat k)), .val (.int (16 : Int32)), .val (.int (Int32.ofNat k)), .val (.int ((Int32.ofNat k) - (16 : Int32))), .val (.int (34 : Int32))] [(.ref b), (.int (34 : Int32))])) rfl rfl (hb hby d_j68_m10_54)
  refine go st38 ?_
  show Run p e below _ (T38.setTop (mkF m 57 #[.val (.ref b), .val (.int (Int32.ofNat k)), .val (.int (16 : Int32)), .val (.int (Int32.ofNat k)), .val (.int ((Int32.ofNat k) - (16 : Int32))), .val (.int (34 : Int32))] [(.int (0 : Int32)), (.int (34 : Int32))]))
  refine go (fun _ => XS.ishr X38.here hx rfl (hb hby d_j68_m10_57) rfl) ?_
  rw [own_shr0]
  show Run p e below _ (T38.setTop (mkF m 58 #[.val (.ref b), .val (.int (Int32.ofNat k)), .val (.int (16 : Int32)), .val (.int (Int32.ofNat k)), .val (.int ((Int32.ofNat k) - (16 : Int32))), .val (.int (34 : Int32))] [(.int (34 : Int32))]))
  exact endI X38 hx hlk hret (hb hby d_j68_m10_58) (⟨rfl, N37, e38⟩) (by decide) (by decide)
theorem d_j65_m121_0 : decode jdk_65_method_121_code 0 = .ok (.iload_n 1, 1) := by decide +kernel
theorem d_j65_m121_1 : decode jdk_65_method_121_code 1 = .ok (.aload_n 0, 1) := by decide +kernel
theorem d_j65_m121_2 : decode jdk_65_method_121_code 2 = .ok (.arraylength, 1) := by decide +kernel
theorem d_j65_m121_3 : decode jdk_65_method_121_code 3 = .ok (.if_icmp .ne 11, 3) := by decide +kernel
theorem d_j65_m121_14 : decode jdk_65_method_121_code 14 = .ok (.iload_n 1, 1) := by decide +kernel
theorem d_j65_m121_15 : decode jdk_65_method_121_code 15 = .ok (.newarray .byte, 2) := by decide +kernel
theorem d_j65_m121_17 : decode jdk_65_method_121_code 17 = .ok (.astore_n 2, 1) := by decide +kernel
theorem d_j65_m121_18 : decode jdk_65_method_121_code 18 = .ok (.aload_n 0, 1) := by decide +kernel
theorem d_j65_m121_19 : decode jdk_65_method_121_code 19 = .ok (.iconst 0, 1) := by decide +kernel
theorem d_j65_m121_20 : decode jdk_65_method_121_code 20 = .ok (.aload_n 2, 1) := by decide +kernel
theorem d_j65_m121_21 : decode jdk_65_method_121_code 21 = .ok (.iconst 0, 1) := by decide +kernel
theorem d_j65_m121_22 : decode jdk_65_method_121_code 22 = .ok (.aload_n 0, 1) := by decide +kernel
theorem d_j65_m121_23 : decode jdk_65_method_121_code 23 = .ok (.arraylength, 1) := by decide +kernel
theorem d_j65_m121_24 : decode jdk_65_method_121_code 24 = .ok (.iload_n 1, 1) := by decide +kernel
theorem d_j65_m121_25 : decode jdk_65_method_121_code 25 = .ok (.invokestatic 304, 3) := by decide +kernel
theorem d_j65_m121_28 : decode jdk_65_method_121_code 28 = .ok (.invokestatic 150, 3) := by decide +kernel
theorem d_j65_m121_31 : decode jdk_65_method_121_code 31 = .ok (.aload_n 2, 1) := by decide +kernel
theorem d_j65_m121_32 : decode jdk_65_method_121_code 32 = .ok (.areturn, 1) := by decide +kernel
theorem pn_10 : plainName "java/util/Arrays" = true := by first | (simp [plainName, overriddenIn]; done) | decide +kernel
def Q_rm_co_16 (Z : State) (da : Addr) (kd : ClassId) (cs : List Int32) (h0 : Heap) (n0 : Nat) (v : Option Value) (h : Heap) (L : List Loc) : Prop := ∃ (d2 : Addr) (k2 : ClassId), v = some (.ref d2) ∧ Fr n0 L ∧ Keep h0 h [] ∧ h0.size ≤ d2 ∧ n0 ≤ d2 ∧ Exa Z h d2 "[B" ∧ Arv Z h d2 k2 .byte (34 : Int32) (BY cs) (.int 0)
set_option maxRecDepth 65536 in
set_option maxHeartbeats 40000000 in
theorem rm_co_16 (l : Launch) (Z : State) (a0 : Array Value) (hw : ∀ d ∈ tables_1, d.before a0 Z = true) (ws : List Jvm.Cond) (da : Addr) (kd : ClassId) (cs : List Int32) (h0 : Heap) (n0 : Nat) (O0 : Old Z n0 h0) (V_da : Arv Z h0 da kd .byte (16 : Int32) (BY cs) (.int 0)) (E_da : Exa Z h0 da "[B") (hcs : cs.length ≤ 16) :
    Meets l (⟨"java/util/Arrays", "copyOf", "([BI)[B"⟩ : MethodName) jdk_65_method_121_code 3 (some (.array .byte)) ws ({ frames := 1, cells := 1, slots := 34, locals := 40 } : Room) Z #[(.ref da), (.int (34 : Int32))] h0 (Q_rm_co_16 Z da kd cs h0 n0) 1 34 := by
  refine enter (Ls := #[.val (.ref da), .val (.int (34 : Int32)), .unset]) (plainFor_of_name pn_10) (fun m => by first | (simp [entryFrame, mkF, argsToLocals, Value.category]; done) | rfl) ?_
  intro p e s m below meth c T0 hx hby hml hown hnm hret hlk hZ X0 e0
  have N0 := Fr.nil n0
  replace hown : s.vm.findClass "java/util/Arrays" = some m.cls := hown
  show Run p e below _ (T0.setTop (mkF m 0 #[.val (.ref da), .val (.int (34 : Int32)), .unset] []))
  have K0 := Keep.refl h0 []
  refine go (fun _ => XS.iloadN X0.here hx rfl (hb hby d_j65_m121_0) rfl) ?_
  show Run p e below _ (T0.setTop (mkF m 1 #[.val (.ref da), .val (.int (34 : Int32)), .unset] [(.int (34 : Int32))]))
  refine go (fun _ => XS.aloadN X0.here hx rfl (hb hby d_j65_m121_1) rfl rfl) ?_
  show Run p e below _ (T0.setTop (mkF m 2 #[.val (.ref da), .val (.int (34 : Int32)), .unset] [(.ref da), (.int (34 : Int32))]))
  obtain ⟨cl39, Ar39, ak39, as39, an39, ah39, ag39⟩ := id V_da
  refine go (fun _ => X0.arraylength hx (by rw [e0]; exact Ar39.1) (State.isArrayOf_alike hZ.alike Ar39.2.1) (g := (mkF m 2 #[.val (.ref da), .val (.int (34 : Int32)), .unset] [(.ref da), (.int (34 : Int32))])) rfl rfl (hb hby d_j65_m121_2) _) ?_
  rw [len_of as39 an39]
  show Run p e below _ (T0.setTop (mkF m 3 #[.val (.ref da), .val (.int (34 : Int32)), .unset] [(.int (16 : Int32)), (.int (34 : Int32))]))
  refine go (fun _ => XS.icmpYes X0.here hx rfl (pc0 := 3) (pc' := 14) rfl (hb hby d_j65_m121_3) rfl (feq (by decide : ¬ ((34 : Int32) = 16))).2 (by decide) (by decide)) ?_
  show Run p e below _ (T0.setTop (mkF m 14 #[.val (.ref da), .val (.int (34 : Int32)), .unset] []))
  refine go (fun _ => XS.iloadN X0.here hx rfl (hb hby d_j65_m121_14) rfl) ?_
  show Run p e below _ (T0.setTop (mkF m 15 #[.val (.ref da), .val (.int (34 : Int32)), .unset] [(.int (34 : Int32))]))
  obtain ⟨T40, h40, k40, X40, e40, E40, A40, B40, st40⟩ := newPE X0 hx hZ (wd hw 38 rfl) e0 (g := (mkF m 15 #[.val (.ref da), .val (.int (34 : Int32)), .unset] [(.int (34 : Int32))])) rfl (hb hby d_j65_m121_15) rfl (by decide) (cap := 34) (by decide) (by decide) (by decide) (by decide) (ad := "[B") (by decide)
  obtain ⟨b40, y40⟩ : ∃ z, z = h0.size := ⟨_, rfl⟩
  rw [← y40] at A40 B40 st40
  have g_b40 : n0 ≤ b40 := y40.symm ▸ old_sz O0
  have sz_b40 : h0.size ≤ b40 := y40.symm ▸ K0.1
  have ne_da_b40 : da ≠ b40 := Nat.ne_of_lt (y40.symm ▸ V_da.lt)
  have O0 := O0.ext E40
  have V_da := V_da.ext E40
  have E_da := E_da.ext E40
  have K0 := K0.ext E40
  have E_b40 := B40
  have V_b40 : Arv Z h40 b40 k40 .byte (34 : Int32) (BY []) (.int 0) := Arv.new A40 (by decide)
  refine go st40 ?_
  show Run p e below _ (T40.setTop (mkF m 17 #[.val (.ref da), .val (.int (34 : Int32)), .unset] [(.ref b40)]))
  refine go (fun _ => XS.astoreN X40.here hx rfl (hb hby d_j65_m121_17) rfl rfl (l' := #[.val (.ref da), .val (.int (34 : Int32)), .val (.ref b40)]) rfl) ?_
  show Run p e below _ (T40.setTop (mkF m 18 #[.val (.ref da), .val (.int (34 : Int32)), .val (.ref b40)] []))
  refine go (fun _ => XS.aloadN X40.here hx rfl (hb hby d_j65_m121_18) rfl rfl) ?_
  show Run p e below _ (T40.setTop (mkF m 19 #[.val (.ref da), .val (.int (34 : Int32)), .val (.ref b40)] [(.ref da)]))
  refine go (fun _ => XS.iconst X40.here hx rfl (hb hby d_j65_m121_19)) ?_
  show Run p e below _ (T40.setTop (mkF m 20 #[.val (.ref da), .val (.int (34 : Int32)), .val (.ref b40)] [(.int (0 : Int32)), (.ref da)]))
  refine go (fun _ => XS.aloadN X40.here hx rfl (hb hby d_j65_m121_20) rfl rfl) ?_
  show Run p e below _ (T40.setTop (mkF m 21 #[.val (.ref da), .val (.int (34 : Int32)), .val (.ref b40)] [(.ref b40), (.int (0 : Int32)), (.ref da)]))
  refine go (fun _ => XS.iconst X40.here hx rfl (hb hby d_j65_m121_21)) ?_
  show Run p e below _ (T40.setTop (mkF m 22 #[.val (.ref da), .val (.int (34 : Int32)), .val (.ref b40)] [(.int (0 : Int32)), (.ref b40), (.int (0 : Int32)), (.ref da)]))
  refine go (fun _ => XS.aloadN X40.here hx rfl (hb hby d_j65_m121_22) rfl rfl) ?_
  show Run p e below _ (T40.setTop (mkF m 23 #[.val (.ref da), .val (.int (34 : Int32)), .val (.ref b40)] [(.ref da), (.int (0 : Int32)), (.ref b40), (.int (0 : Int32)), (.ref da)]))
  obtain ⟨cl41, Ar41, ak41, as41, an41, ah41, ag41⟩ := id V_da
  refine go (fun _ => X40.arraylength hx (by rw [e40]; exact Ar41.1) (State.isArrayOf_alike hZ.alike Ar41.2.1) (g := (mkF m 23 #[.val (.ref da), .val (.int (34 : Int32)), .val (.ref b40)] [(.ref da), (.int (0 : Int32)), (.ref b40), (.int (0 : Int32)), (.ref da)])) rfl rfl (hb hby d_j65_m121_23) _) ?_
  rw [len_of as41 an41]
  show Run p e below _ (T40.setTop (mkF m 24 #[.val (.ref da), .val (.int (34 : Int32)), .val (.ref b40)] [(.int (16 : Int32)), (.int (0 : Int32)), (.ref b40), (.int (0 : Int32)), (.ref da)]))
  refine go (fun _ => XS.iloadN X40.here hx rfl (hb hby d_j65_m121_24) rfl) ?_
  show Run p e below _ (T40.setTop (mkF m 25 #[.val (.ref da), .val (.int (34 : Int32)), .val (.ref b40)] [(.int (34 : Int32)), (.int (16 : Int32)), (.int (0 : Int32)), (.ref b40), (.int (0 : Int32)), (.ref da)]))
  refine callSt X40 hx hZ hown (wd hw 98 rfl) (wd hw 99 rfl) (wd hw 90 rfl) (wd hw 100 rfl) (by decide) e40 (argsL := [(.int (16 : Int32)), (.int (34 : Int32))]) (rest := [(.int (0 : Int32)), (.ref b40), (.int (0 : Int32)), (.ref da)]) (rm_min l Z a0 hw [] (16 : Int32) (34 : Int32) h40 n0 O0) (W := 4) (by decide) (by decide) (by decide) (by decide) (by rw [hml]; rfl) (lenOf pd_7 rfl) rfl (Nat.le_of_eq rfl) (hb hby d_j65_m121_25) ?_
  intro v42 T42 L42 h42 X42 e42 q42
  obtain ⟨rv, n42, k42⟩ := q42
  replace rv : v42 = some (.int (16 : Int32)) := rv
  subst rv
  have e42 := e42.trans k42
  have N42 := Fr.app N0 n42
  show Run p e below _ (T42.setTop (mkF m 28 #[.val (.ref da), .val (.int (34 : Int32)), .val (.ref b40)] [(.int (16 : Int32)), (.int (0 : Int32)), (.ref b40), (.int (0 : Int32)), (.ref da)]))
  have lt44_da := V_da.lt
  have lt44_b40 := E_b40.lt
  obtain ⟨T43, h43, L43, X43, e43, N43, K43, V_b40, st43⟩ := cpB X42 hx hZ hown (wd hw 101 rfl) (wd hw 104 rfl) (wd hw 102 rfl) (wd hw 103 rfl) e42 (us := cs) (cs := []) V_da V_b40 (dp := (0 : Int32)) (nn := (16 : Int32)) rfl (by decide) (by decide) (by show _ ≤ 16; exact hcs) (by decide) (by decide) N42 g_b40 (g := (mkF m 28 #[.val (.ref da), .val (.int (34 : Int32)), .val (.ref b40)] [(.int (16 : Int32)), (.int (0 : Int32)), (.ref b40), (.int (0 : Int32)), (.ref da)])) rfl (by rw [hml]; rfl) rfl (hb hby d_j65_m121_28) (by decide) (W := 0) (Nat.le_of_eq rfl) (by decide)
  have O0 := O0.keep K43 (allS g_b40 all0)
  have V_da := V_da.keep K43 (ninS ne_da_b40 nin0)
  have E_da := E_da.keep K43
  have K0 := K0.trans K43 (allS (Or.inr sz_b40) all0)
  have E_b40 := E_b40.keep K43
  refine go st43 ?_
  show Run p e below _ (T43.setTop (mkF m 31 #[.val (.ref da), .val (.int (34 : Int32)), .val (.ref b40)] []))
  refine go (fun _ => XS.aloadN X43.here hx rfl (hb hby d_j65_m121_31) rfl rfl) ?_
  show Run p e below _ (T43.setTop (mkF m 32 #[.val (.ref da), .val (.int (34 : Int32)), .val (.ref b40)] [(.ref b40)]))
  exact endA X43 hx hlk (w := (.ref b40)) hret rfl rfl (hb hby d_j65_m121_32) (by rw [e43]; exact ⟨b40, _, rfl, N43, K0, sz_b40, g_b40, E_b40, V_b40⟩) (by decide) (by decide)
theorem d_j68_m9_17 : decode jdk_68_method_9_code 17 = .ok (.aload_n 0, 1) := by decide +kernel
theorem d_j68_m9_18 : decode jdk_68_method_9_code 18 = .ok (.aload_n 0, 1) := by decide +kernel
theorem d_j68_m9_19 : decode jdk_68_method_9_code 19 = .ok (.getfield 15, 3) := by decide +kernel
theorem d_j68_m9_22 : decode jdk_68_method_9_code 22 = .ok (.aload_n 0, 1) := by decide +kernel
theorem d_j68_m9_23 : decode jdk_68_method_9_code 23 = .ok (.iload_n 1, 1) := by decide +kernel
theorem d_j68_m9_24 : decode jdk_68_method_9_code 24 = .ok (.invokevirtual 104, 3) := by decide +kernel
theorem pd_9 : parseMethodDescriptor "(I)I" = some ⟨[.int], some .int⟩ := by decide +kernel
theorem d_j68_m9_27 : decode jdk_68_method_9_code 27 = .ok (.aload_n 0, 1) := by decide +kernel
theorem d_j68_m9_28 : decode jdk_68_method_9_code 28 = .ok (.getfield 22, 3) := by decide +kernel
theorem d_j68_m9_31 : decode jdk_68_method_9_code 31 = .ok (.ishl, 1) := by decide +kernel
theorem d_j68_m9_32 : decode jdk_68_method_9_code 32 = .ok (.invokestatic 108, 3) := by decide +kernel
theorem pd_10 : parseMethodDescriptor "([BI)[B" = some ⟨[(.array .byte), .int], some (.array .byte)⟩ := by decide +kernel
theorem d_j68_m9_35 : decode jdk_68_method_9_code 35 = .ok (.putfield 15, 3) := by decide +kernel
def Q_rm_en1_16 (Z : State) (b da : Addr) (kd : ClassId) (cs : List Int32) (k : Nat) (h0 : Heap) (n0 : Nat) (v : Option Value) (h : Heap) (L : List Loc) : Prop := ∃ (d2 : Addr) (k2 : ClassId), v = none ∧ Fr n0 L ∧ Keep h0 h [b] ∧ h0.size ≤ d2 ∧ n0 ≤ d2 ∧ Exa Z h d2 "[B" ∧ Fld Z h b "java/lang/AbstractStringBuilder" "value" "[B" (.ref d2) ∧ Fld Z h b "java/lang/AbstractStringBuilder" "coder" "B" (.int (0 : Int32)) ∧ Fld Z h b "java/lang/AbstractStringBuilder" "count" "I" (.int (Int32.ofNat (cs).length)) ∧ Arv Z h d2 k2 .byte (34 : Int32) (BY cs) (.int 0)
set_option maxRecDepth 65536 in
set_option maxHeartbeats 40000000 in
theorem rm_en1_16 (l : Launch) (Z : State) (a0 : Array Value) (hw : ∀ d ∈ tables_1, d.before a0 Z = true) (ws : List Jvm.Cond) (b da : Addr) (kd : ClassId) (cs : List Int32) (k : Nat) (h0 : Heap) (n0 : Nat) (O0 : Old Z n0 h0) (E_b : Exa Z h0 b "java/lang/StringBuilder") (F_value_b : Fld Z h0 b "java/lang/AbstractStringBuilder" "value" "[B" (.ref da)) (F_coder_b : Fld Z h0 b "java/lang/AbstractStringBuilder" "coder" "B" (.int (0 : Int32))) (F_count_b : Fld Z h0 b "java/lang/AbstractStringBuilder" "count" "I" (.int (Int32.ofNat (cs).length))) (V_da : Arv Z h0 da kd .byte (16 : Int32) (BY cs) (.int 0)) (E_da : Exa Z h0 da "[B") (g_b : n0 ≤ b) (g_da : n0 ≤ da) (hk : k < 1000) (h1 : (16 : Int32).toInt < (k : Int)) (h2 : (k : Int) < (16 : Int32).toInt + (18 : Int32).toInt) (hcs : cs.length ≤ 16) :
    Meets l (⟨"java/lang/AbstractStringBuilder", "ensureCapacityInternal", "(I)V"⟩ : MethodName) jdk_68_method_9_code 3 none ws ({ frames := 3, cells := 1, slots := 34, locals := 55 } : Room) Z #[(.ref b), (.int (Int32.ofNat k))] h0 (Q_rm_en1_16 Z b da kd cs k h0 n0) 1 34 := by
  refine enter (Ls := #[.val (.ref b), .val (.int (Int32.ofNat k)), .unset]) (plainFor_of_name pn_2) (fun m => by first | (simp [entryFrame, mkF, argsToLocals, Value.category]; done) | rfl) ?_
  intro p e s m below meth c T0 hx hby hml hown hnm hret hlk hZ X0 e0
  have N0 := Fr.nil n0
  replace hown : s.vm.findClass "java/lang/AbstractStringBuilder" = some m.cls := hown
  show Run p e below _ (T0.setTop (mkF m 0 #[.val (.ref b), .val (.int (Int32.ofNat k)), .unset] []))
  have K0 := Keep.refl h0 [b]
  refine go (fun _ => XS.aloadN X0.here hx rfl (hb hby d_j68_m9_0) rfl rfl) ?_
  show Run p e below _ (T0.setTop (mkF m 1 #[.val (.ref b), .val (.int (Int32.ofNat k)), .unset] [(.ref b)]))
  obtain ⟨T45, X45, e45, st45⟩ := getF X0 hx hZ hown (host := "") (Or.inl (wd hw 39 rfl)) Via.refl e0 F_value_b (g := (mkF m 1 #[.val (.ref b), .val (.int (Int32.ofNat k)), .unset] [(.ref b)])) rfl rfl (hb hby d_j68_m9_1)
  refine go st45 ?_
  show Run p e below _ (T45.setTop (mkF m 4 #[.val (.ref b), .val (.int (Int32.ofNat k)), .unset] [(.ref da)]))
  obtain ⟨cl46, Ar46, ak46, as46, an46, ah46, ag46⟩ := id V_da
  refine go (fun _ => X45.arraylength hx (by rw [e45]; exact Ar46.1) (State.isArrayOf_alike hZ.alike Ar46.2.1) (g := (mkF m 4 #[.val (.ref b), .val (.int (Int32.ofNat k)), .unset] [(.ref da)])) rfl rfl (hb hby d_j68_m9_4) _) ?_
  rw [len_of as46 an46]
  show Run p e below _ (T45.setTop (mkF m 5 #[.val (.ref b), .val (.int (Int32.ofNat k)), .unset] [(.int (16 : Int32))]))
  refine go (fun _ => XS.aloadN X45.here hx rfl (hb hby d_j68_m9_5) rfl rfl) ?_
  show Run p e below _ (T45.setTop (mkF m 6 #[.val (.ref b), .val (.int (Int32.ofNat k)), .unset] [(.ref b), (.int (16 : Int32))]))
  obtain ⟨T47, X47, e47, st47⟩ := getF X45 hx hZ hown (host := "") (Or.inl (wd hw 41 rfl)) Via.refl e45 F_coder_b (g := (mkF m 6 #[.val (.ref b), .val (.int (Int32.ofNat k)), .unset] [(.ref b), (.int (16 : Int32))])) rfl rfl (hb hby d_j68_m9_6)
  refine go st47 ?_
  show Run p e below _ (T47.setTop (mkF m 9 #[.val (.ref b), .val (.int (Int32.ofNat k)), .unset] [(.int (0 : Int32)), (.int (16 : Int32))]))
  refine go (fun _ => XS.ishr X47.here hx rfl (hb hby d_j68_m9_9) rfl) ?_
  rw [own_shr0]
  show Run p e below _ (T47.setTop (mkF m 10 #[.val (.ref b), .val (.int (Int32.ofNat k)), .unset] [(.int (16 : Int32))]))
  refine go (fun _ => XS.istoreN X47.here hx rfl (hb hby d_j68_m9_10) rfl (l' := #[.val (.ref b), .val (.int (Int32.ofNat k)), .val (.int (16 : Int32))]) rfl) ?_
  show Run p e below _ (T47.setTop (mkF m 11 #[.val (.ref b), .val (.int (Int32.ofNat k)), .val (.int (16 : Int32))] []))
  refine go (fun _ => XS.iloadN X47.here hx rfl (hb hby d_j68_m9_11) rfl) ?_
  show Run p e below _ (T47.setTop (mkF m 12 #[.val (.ref b), .val (.int (Int32.ofNat k)), .val (.int (16 : Int32))] [(.int (Int32.ofNat k))]))
  refine go (fun _ => XS.iloadN X47.here hx rfl (hb hby d_j68_m9_12) rfl) ?_
  show Run p e below _ (T47.setTop (mkF m 13 #[.val (.ref b), .val (.int (Int32.ofNat k)), .val (.int (16 : Int32))] [(.int (16 : Int32)), (.int (Int32.ofNat k))]))
  refine go (fun _ => XS.isub X47.here hx rfl (hb hby d_j68_m9_13) rfl) ?_
  show Run p e below _ (T47.setTop (mkF m 14 #[.val (.ref b), .val (.int (Int32.ofNat k)), .val (.int (16 : Int32))] [(.int ((Int32.ofNat k) - (16 : Int32)))]))
  refine go (fun _ => XS.ifNo X47.here hx rfl (hb hby d_j68_m9_14) rfl ((if0 _ _).trans (tlt (own_p0 hk (by decide) (by decide) h1)).2.2.2)) ?_
  show Run p e below _ (T47.setTop (mkF m 17 #[.val (.ref b), .val (.int (Int32.ofNat k)), .val (.int (16 : Int32))] []))
  refine go (fun _ => XS.aloadN X47.here hx rfl (hb hby d_j68_m9_17) rfl rfl) ?_
  show Run p e below _ (T47.setTop (mkF m 18 #[.val (.ref b), .val (.int (Int32.ofNat k)), .val (.int (16 : Int32))] [(.ref b)]))
  refine go (fun _ => XS.aloadN X47.here hx rfl (hb hby d_j68_m9_18) rfl rfl) ?_
  show Run p e below _ (T47.setTop (mkF m 19 #[.val (.ref b), .val (.int (Int32.ofNat k)), .val (.int (16 : Int32))] [(.ref b), (.ref b)]))
  obtain ⟨T48, X48, e48, st48⟩ := getF X47 hx hZ hown (host := "") (Or.inl (wd hw 39 rfl)) Via.refl e47 F_value_b (g := (mkF m 19 #[.val (.ref b), .val (.int (Int32.ofNat k)), .val (.int (16 : Int32))] [(.ref b), (.ref b)])) rfl rfl (hb hby d_j68_m9_19)
  refine go st48 ?_
  show Run p e below _ (T48.setTop (mkF m 22 #[.val (.ref b), .val (.int (Int32.ofNat k)), .val (.int (16 : Int32))] [(.ref da), (.ref b)]))
  refine go (fun _ => XS.aloadN X48.here hx rfl (hb hby d_j68_m9_22) rfl rfl) ?_
  show Run p e below _ (T48.setTop (mkF m 23 #[.val (.ref b), .val (.int (Int32.ofNat k)), .val (.int (16 : Int32))] [(.ref b), (.ref da), (.ref b)]))
  refine go (fun _ => XS.iloadN X48.here hx rfl (hb hby d_j68_m9_23) rfl) ?_
  show Run p e below _ (T48.setTop (mkF m 24 #[.val (.ref b), .val (.int (Int32.ofNat k)), .val (.int (16 : Int32))] [(.int (Int32.ofNat k)), (.ref b), (.ref da), (.ref b)]))
  refine callVi X48 hx hZ hown (wd hw 79 rfl) (own_decl (wd hw 80 rfl) (wd hw 83 rfl)) (notFace_of_selects (args := #[]) (mvT hZ (wd hw 82 rfl))) (wd hw 82 rfl) (wd hw 80 rfl) (wd hw 83 rfl) (wd hw 33 rfl) (by decide) e48 E_b (argsL := [(.int (Int32.ofNat k))]) (rest := [(.ref da), (.ref b)]) (rm_nc_16 l Z a0 hw [] b da kd cs k h0 n0 O0 E_b F_value_b F_coder_b F_count_b V_da E_da g_b g_da hk h1 h2) (W := 2) (by decide) (by decide) (by decide) (by decide) (by rw [hml]; rfl) (lenOf pd_9 rfl) rfl (Nat.le_of_eq rfl) (hb hby d_j68_m9_24) ?_
  intro v49 T49 L49 h49 X49 e49 q49
  obtain ⟨rv, n49, k49⟩ := q49
  replace rv : v49 = some (.int (34 : Int32)) := rv
  subst rv
  have e49 := e49.trans k49
  have N49 := Fr.app N0 n49
  show Run p e below _ (T49.setTop (mkF m 27 #[.val (.ref b), .val (.int (Int32.ofNat k)), .val (.int (16 : Int32))] [(.int (34 : Int32)), (.ref da), (.ref b)]))
  refine go (fun _ => XS.aloadN X49.here hx rfl (hb hby d_j68_m9_27) rfl rfl) ?_
  show Run p e below _ (T49.setTop (mkF m 28 #[.val (.ref b), .val (.int (Int32.ofNat k)), .val (.int (16 : Int32))] [(.ref b), (.int (34 : Int32)), (.ref da), (.ref b)]))
  obtain ⟨T50, X50, e50, st50⟩ := getF X49 hx hZ hown (host := "") (Or.inl (wd hw 41 rfl)) Via.refl e49 F_coder_b (g := (mkF m 28 #[.val (.ref b), .val (.int (Int32.ofNat k)), .val (.int (16 : Int32))] [(.ref b), (.int (34 : Int32)), (.ref da), (.ref b)])) rfl rfl (hb hby d_j68_m9_28)
  refine go st50 ?_
  show Run p e below _ (T50.setTop (mkF m 31 #[.val (.ref b), .val (.int (Int32.ofNat k)), .val (.int (16 : Int32))] [(.int (0 : Int32)), (.int (34 : Int32)), (.ref da), (.ref b)]))
  refine go (fun _ => XS.ishl X50.here hx rfl (hb hby d_j68_m9_31) rfl) ?_
  rw [own_shl0]
  show Run p e below _ (T50.setTop (mkF m 32 #[.val (.ref b), .val (.int (Int32.ofNat k)), .val (.int (16 : Int32))] [(.int (34 : Int32)), (.ref da), (.ref b)]))
  refine callSt X50 hx hZ hown (wd hw 94 rfl) (wd hw 95 rfl) (wd hw 96 rfl) (wd hw 97 rfl) (by decide) e50 (argsL := [(.ref da), (.int (34 : Int32))]) (rest := [(.ref b)]) (rm_co_16 l Z a0 hw [] da kd cs h0 n0 O0 V_da E_da hcs) (W := 1) (by decide) (by decide) (by decide) (by decide) (by rw [hml]; rfl) (lenOf pd_10 rfl) rfl (Nat.le_of_eq rfl) (hb hby d_j68_m9_32) ?_
  intro v51 T51 L51 h51 X51 e51 q51
  have lt52_b := E_b.lt
  have lt52_da := V_da.lt
  obtain ⟨d51, kd51, rfl, n51, K51, sb51, g_d51, E_d51, V_d51⟩ := q51
  have szq51 := K0.1
  have ne_b_d51 : b ≠ d51 := Nat.ne_of_lt (Nat.lt_of_lt_of_le lt52_b sb51)
  have ne_da_d51 : da ≠ d51 := Nat.ne_of_lt (Nat.lt_of_lt_of_le lt52_da sb51)
  have sz_d51 : h0.size ≤ d51 := Nat.le_trans szq51 sb51
  have O0 := O0.keep K51 all0
  have E_b := E_b.keep K51
  have F_value_b := F_value_b.keep K51 nin0
  have F_coder_b := F_coder_b.keep K51 nin0
  have F_count_b := F_count_b.keep K51 nin0
  have V_da := V_da.keep K51 nin0
  have E_da := E_da.keep K51
  have K0 := K0.trans K51 all0
  have N51 := Fr.app N49 n51
  show Run p e below _ (T51.setTop (mkF m 35 #[.val (.ref b), .val (.int (Int32.ofNat k)), .val (.int (16 : Int32))] [(.ref d51), (.ref b)]))
  obtain ⟨T53, h53, X53, e53, W53, st53⟩ := putF X51 hx hZ hown (host := "") (Or.inl (wd hw 39 rfl)) Via.refl e51 F_value_b E_b (Or.inl (wd hw 40 rfl)) (wd hw 24 rfl) (ty := (.array .byte)) (by decide) rfl rfl (g := (mkF m 35 #[.val (.ref b), .val (.int (Int32.ofNat k)), .val (.int (16 : Int32))] [(.ref d51), (.ref b)])) rfl rfl (hb hby d_j68_m9_35)
  have ne_da_b : da ≠ b := ne_exa E_da E_b (by decide)
  have O0 := O0.wr W53 g_b
  have E_b := E_b.wr W53
  have F_value_b := F_value_b.same W53
  have F_coder_b := F_coder_b.other W53 (Or.inr (slot_ne (Or.inl (wd hw 42 rfl)) (Or.inl (wd hw 40 rfl)) (by decide) (t := .byte) (t' := (.array .byte)) (by decide) (by decide)))
  have F_count_b := F_count_b.other W53 (Or.inr (slot_ne (Or.inl (wd hw 73 rfl)) (Or.inl (wd hw 40 rfl)) (by decide) (t := .int) (t' := (.array .byte)) (by decide) (by decide)))
  have V_da := V_da.other W53 ne_da_b
  have E_da := E_da.wr W53
  have K0 := K0.wr W53 (Or.inl (by simp))
  have E_d51 := E_d51.wr W53
  have V_d51 := V_d51.other W53 (Ne.symm ne_b_d51)
  have N53 := Fr.snoc X53 N51 g_b
  refine go st53 ?_
  show Run p e below _ (T53.setTop (mkF m 38 #[.val (.ref b), .val (.int (Int32.ofNat k)), .val (.int (16 : Int32))] []))
  exact endV X53 hx hlk hret (hb hby d_j68_m9_38) (by rw [e53]; exact ⟨d51, _, rfl, N53, K0, sz_d51, g_d51, E_d51, F_value_b, F_coder_b, F_count_b, V_d51⟩) (by decide) (by decide)
def Q_rm_en0_34 (b da : Addr) (kd : ClassId) (cs : List Int32) (k : Nat) (h0 : Heap) (n0 : Nat) (v : Option Value) (h : Heap) (L : List Loc) : Prop := v = none ∧ Fr n0 L ∧ h = h0
set_option maxRecDepth 65536 in
set_option maxHeartbeats 40000000 in
theorem rm_en0_34 (l : Launch) (Z : State) (a0 : Array Value) (hw : ∀ d ∈ tables_1, d.before a0 Z = true) (ws : List Jvm.Cond) (b da : Addr) (kd : ClassId) (cs : List Int32) (k : Nat) (h0 : Heap) (n0 : Nat) (O0 : Old Z n0 h0) (E_b : Exa Z h0 b "java/lang/StringBuilder") (F_value_b : Fld Z h0 b "java/lang/AbstractStringBuilder" "value" "[B" (.ref da)) (F_coder_b : Fld Z h0 b "java/lang/AbstractStringBuilder" "coder" "B" (.int (0 : Int32))) (F_count_b : Fld Z h0 b "java/lang/AbstractStringBuilder" "count" "I" (.int (Int32.ofNat (cs).length))) (V_da : Arv Z h0 da kd .byte (34 : Int32) (BY cs) (.int 0)) (E_da : Exa Z h0 da "[B") (g_b : n0 ≤ b) (g_da : n0 ≤ da) (hk : k < 1000) (hq : (k : Int) ≤ (34 : Int32).toInt) :
    Meets l (⟨"java/lang/AbstractStringBuilder", "ensureCapacityInternal", "(I)V"⟩ : MethodName) jdk_68_method_9_code 3 none ws ({ frames := 0, cells := 0, slots := 0, locals := 0 } : Room) Z #[(.ref b), (.int (Int32.ofNat k))] h0 (Q_rm_en0_34 b da kd cs k h0 n0) 0 0 := by
  refine enter (Ls := #[.val (.ref b), .val (.int (Int32.ofNat k)), .unset]) (plainFor_of_name pn_2) (fun m => by first | (simp [entryFrame, mkF, argsToLocals, Value.category]; done) | rfl) ?_
  intro p e s m below meth c T0 hx hby hml hown hnm hret hlk hZ X0 e0
  have N0 := Fr.nil n0
  replace hown : s.vm.findClass "java/lang/AbstractStringBuilder" = some m.cls := hown
  show Run p e below _ (T0.setTop (mkF m 0 #[.val (.ref b), .val (.int (Int32.ofNat k)), .unset] []))
  refine go (fun _ => XS.aloadN X0.here hx rfl (hb hby d_j68_m9_0) rfl rfl) ?_
  show Run p e below _ (T0.setTop (mkF m 1 #[.val (.ref b), .val (.int (Int32.ofNat k)), .unset] [(.ref b)]))
  obtain ⟨T54, X54, e54, st54⟩ := getF X0 hx hZ hown (host := "") (Or.inl (wd hw 39 rfl)) Via.refl e0 F_value_b (g := (mkF m 1 #[.val (.ref b), .val (.int (Int32.ofNat k)), .unset] [(.ref b)])) rfl rfl (hb hby d_j68_m9_1)
  refine go st54 ?_
  show Run p e below _ (T54.setTop (mkF m 4 #[.val (.ref b), .val (.int (Int32.ofNat k)), .unset] [(.ref da)]))
  obtain ⟨cl55, Ar55, ak55, as55, an55, ah55, ag55⟩ := id V_da
  refine go (fun _ => X54.arraylength hx (by rw [e54]; exact Ar55.1) (State.isArrayOf_alike hZ.alike Ar55.2.1) (g := (mkF m 4 #[.val (.ref b), .val (.int (Int32.ofNat k)), .unset] [(.ref da)])) rfl rfl (hb hby d_j68_m9_4) _) ?_
  rw [len_of as55 an55]
  show Run p e below _ (T54.setTop (mkF m 5 #[.val (.ref b), .val (.int (Int32.ofNat k)), .unset] [(.int (34 : Int32))]))
  refine go (fun _ => XS.aloadN X54.here hx rfl (hb hby d_j68_m9_5) rfl rfl) ?_
  show Run p e below _ (T54.setTop (mkF m 6 #[.val (.ref b), .val (.int (Int32.ofNat k)), .unset] [(.ref b), (.int (34 : Int32))]))
  obtain ⟨T56, X56, e56, st56⟩ := getF X54 hx hZ hown (host := "") (Or.inl (wd hw 41 rfl)) Via.refl e54 F_coder_b (g := (mkF m 6 #[.val (.ref b), .val (.int (Int32.ofNat k)), .unset] [(.ref b), (.int (34 : Int32))])) rfl rfl (hb hby d_j68_m9_6)
  refine go st56 ?_
  show Run p e below _ (T56.setTop (mkF m 9 #[.val (.ref b), .val (.int (Int32.ofNat k)), .unset] [(.int (0 : Int32)), (.int (34 : Int32))]))
  refine go (fun _ => XS.ishr X56.here hx rfl (hb hby d_j68_m9_9) rfl) ?_
  rw [own_shr0]
  show Run p e below _ (T56.setTop (mkF m 10 #[.val (.ref b), .val (.int (Int32.ofNat k)), .unset] [(.int (34 : Int32))]))
  refine go (fun _ => XS.istoreN X56.here hx rfl (hb hby d_j68_m9_10) rfl (l' := #[.val (.ref b), .val (.int (Int32.ofNat k)), .val (.int (34 : Int32))]) rfl) ?_
  show Run p e below _ (T56.setTop (mkF m 11 #[.val (.ref b), .val (.int (Int32.ofNat k)), .val (.int (34 : Int32))] []))
  refine go (fun _ => XS.iloadN X56.here hx rfl (hb hby d_j68_m9_11) rfl) ?_
  show Run p e below _ (T56.setTop (mkF m 12 #[.val (.ref b), .val (.int (Int32.ofNat k)), .val (.int (34 : Int32))] [(.int (Int32.ofNat k))]))
  refine go (fun _ => XS.iloadN X56.here hx rfl (hb hby d_j68_m9_12) rfl) ?_
  show Run p e below _ (T56.setTop (mkF m 13 #[.val (.ref b), .val (.int (Int32.ofNat k)), .val (.int (34 : Int32))] [(.int (34 : Int32)), (.int (Int32.ofNat k))]))
  refine go (fun _ => XS.isub X56.here hx rfl (hb hby d_j68_m9_13) rfl) ?_
  show Run p e below _ (T56.setTop (mkF m 14 #[.val (.ref b), .val (.int (Int32.ofNat k)), .val (.int (34 : Int32))] [(.int ((Int32.ofNat k) - (34 : Int32)))]))
  refine go (fun _ => XS.ifYes X56.here hx rfl (pc0 := 14) (pc' := 38) rfl (hb hby d_j68_m9_14) rfl ((if0 _ _).trans (flt (own_n0 hk (by decide) (by decide) hq)).2.2.2) (by decide) (by decide)) ?_
  show Run p e below _ (T56.setTop (mkF m 38 #[.val (.ref b), .val (.int (Int32.ofNat k)), .val (.int (34 : Int32))] []))
  exact endV X56 hx hlk hret (hb hby d_j68_m9_38) (⟨rfl, N0, e56⟩) (by decide) (by decide)
def Q_rm_nl_34 (p1 : Int32) (h0 : Heap) (n0 : Nat) (v : Option Value) (h : Heap) (L : List Loc) : Prop := v = some (.int (70 : Int32)) ∧ Fr n0 L ∧ h = h0
set_option maxRecDepth 65536 in
set_option maxHeartbeats 40000000 in
theorem rm_nl_34 (l : Launch) (Z : State) (a0 : Array Value) (hw : ∀ d ∈ tables_1, d.before a0 Z = true) (ws : List Jvm.Cond) (p1 : Int32) (h0 : Heap) (n0 : Nat) (O0 : Old Z n0 h0) (hm : p1 < (36 : Int32)) :
    Meets l (⟨"jdk/internal/util/ArraysSupport", "newLength", "(III)I"⟩ : MethodName) jdk_48_method_27_code 4 (some .int) ws ({ frames := 1, cells := 0, slots := 0, locals := 14 } : Room) Z #[(.int (34 : Int32)), (.int p1), (.int (36 : Int32))] h0 (Q_rm_nl_34 p1 h0 n0) 0 0 := by
  refine enter (Ls := #[.val (.int (34 : Int32)), .val (.int p1), .val (.int (36 : Int32)), .unset]) (plainFor_of_name pn_9) (fun m => by first | (simp [entryFrame, mkF, argsToLocals, Value.category]; done) | rfl) ?_
  intro p e s m below meth c T0 hx hby hml hown hnm hret hlk hZ X0 e0
  have N0 := Fr.nil n0
  replace hown : s.vm.findClass "jdk/internal/util/ArraysSupport" = some m.cls := hown
  show Run p e below _ (T0.setTop (mkF m 0 #[.val (.int (34 : Int32)), .val (.int p1), .val (.int (36 : Int32)), .unset] []))
  refine go (fun _ => XS.iloadN X0.here hx rfl (hb hby d_j48_m27_0) rfl) ?_
  show Run p e below _ (T0.setTop (mkF m 1 #[.val (.int (34 : Int32)), .val (.int p1), .val (.int (36 : Int32)), .unset] [(.int (34 : Int32))]))
  refine go (fun _ => XS.iloadN X0.here hx rfl (hb hby d_j48_m27_1) rfl) ?_
  show Run p e below _ (T0.setTop (mkF m 2 #[.val (.int (34 : Int32)), .val (.int p1), .val (.int (36 : Int32)), .unset] [(.int p1), (.int (34 : Int32))]))
  refine go (fun _ => XS.iloadN X0.here hx rfl (hb hby d_j48_m27_2) rfl) ?_
  show Run p e below _ (T0.setTop (mkF m 3 #[.val (.int (34 : Int32)), .val (.int p1), .val (.int (36 : Int32)), .unset] [(.int (36 : Int32)), (.int p1), (.int (34 : Int32))]))
  refine callSt X0 hx hZ hown (wd hw 88 rfl) (wd hw 89 rfl) (wd hw 90 rfl) (wd hw 91 rfl) (by decide) e0 (argsL := [(.int p1), (.int (36 : Int32))]) (rest := [(.int (34 : Int32))]) (rm_max l Z a0 hw [] p1 (36 : Int32) h0 n0 O0) (W := 1) (by decide) (by decide) (by decide) (by decide) (by rw [hml]; rfl) (lenOf pd_7 rfl) rfl (Nat.le_of_eq rfl) (hb hby d_j48_m27_3) ?_
  intro v57 T57 L57 h57 X57 e57 q57
  obtain ⟨rv, n57, k57⟩ := q57
  replace rv : v57 = some (.int (36 : Int32)) := by rw [if_pos hm] at rv; exact rv
  subst rv
  have e57 := e57.trans k57
  have N57 := Fr.app N0 n57
  show Run p e below _ (T57.setTop (mkF m 6 #[.val (.int (34 : Int32)), .val (.int p1), .val (.int (36 : Int32)), .unset] [(.int (36 : Int32)), (.int (34 : Int32))]))
  refine go (fun _ => XS.iadd X57.here hx rfl (hb hby d_j48_m27_6) rfl) ?_
  show Run p e below _ (T57.setTop (mkF m 7 #[.val (.int (34 : Int32)), .val (.int p1), .val (.int (36 : Int32)), .unset] [(.int (70 : Int32))]))
  refine go (fun _ => XS.istoreN X57.here hx rfl (hb hby d_j48_m27_7) rfl (l' := #[.val (.int (34 : Int32)), .val (.int p1), .val (.int (36 : Int32)), .val (.int (70 : Int32))]) rfl) ?_
  show Run p e below _ (T57.setTop (mkF m 8 #[.val (.int (34 : Int32)), .val (.int p1), .val (.int (36 : Int32)), .val (.int (70 : Int32))] []))
  refine go (fun _ => XS.iconst X57.here hx rfl (hb hby d_j48_m27_8)) ?_
  show Run p e below _ (T57.setTop (mkF m 9 #[.val (.int (34 : Int32)), .val (.int p1), .val (.int (36 : Int32)), .val (.int (70 : Int32))] [(.int (0 : Int32))]))
  refine go (fun _ => XS.iloadN X57.here hx rfl (hb hby d_j48_m27_9) rfl) ?_
  show Run p e below _ (T57.setTop (mkF m 10 #[.val (.int (34 : Int32)), .val (.int p1), .val (.int (36 : Int32)), .val (.int (70 : Int32))] [(.int (70 : Int32)), (.int (0 : Int32))]))
  refine go (fun _ => XS.icmpNo X57.here hx rfl (hb hby d_j48_m27_10) rfl (tlt (by decide : (0 : Int32) < 70)).2.1) ?_
  show Run p e below _ (T57.setTop (mkF m 13 #[.val (.int (34 : Int32)), .val (.int p1), .val (.int (36 : Int32)), .val (.int (70 : Int32))] []))
  refine go (fun _ => XS.iloadN X57.here hx rfl (hb hby d_j48_m27_13) rfl) ?_
  show Run p e below _ (T57.setTop (mkF m 14 #[.val (.int (34 : Int32)), .val (.int p1), .val (.int (36 : Int32)), .val (.int (70 : Int32))] [(.int (70 : Int32))]))
  refine go (fun _ => X57.ldcI hx hown (mvT hZ (wd hw 92 rfl)) rfl (hb hby d_j48_m27_14)) ?_
  show Run p e below _ (T57.setTop (mkF m 16 #[.val (.int (34 : Int32)), .val (.int p1), .val (.int (36 : Int32)), .val (.int (70 : Int32))] [(.int (2147483639 : Int32)), (.int (70 : Int32))]))
  refine go (fun _ => XS.icmpNo X57.here hx rfl (hb hby d_j48_m27_16) rfl (flt (by decide : ¬ ((2147483639 : Int32) < 70))).2.2.1) ?_
  show Run p e below _ (T57.setTop (mkF m 19 #[.val (.int (34 : Int32)), .val (.int p1), .val (.int (36 : Int32)), .val (.int (70 : Int32))] []))
  refine go (fun _ => XS.iloadN X57.here hx rfl (hb hby d_j48_m27_19) rfl) ?_
  show Run p e below _ (T57.setTop (mkF m 20 #[.val (.int (34 : Int32)), .val (.int p1), .val (.int (36 : Int32)), .val (.int (70 : Int32))] [(.int (70 : Int32))]))
  exact endI X57 hx hlk hret (hb hby d_j48_m27_20) (⟨rfl, N57, e57⟩) (by decide) (by decide)
def Q_rm_nc_34 (b da : Addr) (kd : ClassId) (cs : List Int32) (k : Nat) (h0 : Heap) (n0 : Nat) (v : Option Value) (h : Heap) (L : List Loc) : Prop := v = some (.int (70 : Int32)) ∧ Fr n0 L ∧ h = h0
set_option maxRecDepth 65536 in
set_option maxHeartbeats 40000000 in
theorem rm_nc_34 (l : Launch) (Z : State) (a0 : Array Value) (hw : ∀ d ∈ tables_1, d.before a0 Z = true) (ws : List Jvm.Cond) (b da : Addr) (kd : ClassId) (cs : List Int32) (k : Nat) (h0 : Heap) (n0 : Nat) (O0 : Old Z n0 h0) (E_b : Exa Z h0 b "java/lang/StringBuilder") (F_value_b : Fld Z h0 b "java/lang/AbstractStringBuilder" "value" "[B" (.ref da)) (F_coder_b : Fld Z h0 b "java/lang/AbstractStringBuilder" "coder" "B" (.int (0 : Int32))) (F_count_b : Fld Z h0 b "java/lang/AbstractStringBuilder" "count" "I" (.int (Int32.ofNat (cs).length))) (V_da : Arv Z h0 da kd .byte (34 : Int32) (BY cs) (.int 0)) (E_da : Exa Z h0 da "[B") (g_b : n0 ≤ b) (g_da : n0 ≤ da) (hk : k < 1000) (h1 : (34 : Int32).toInt < (k : Int)) (h2 : (k : Int) < (34 : Int32).toInt + (36 : Int32).toInt) :
    Meets l (⟨"java/lang/AbstractStringBuilder", "newCapacity", "(I)I"⟩ : MethodName) jdk_68_method_10_code 6 (some .int) ws ({ frames := 2, cells := 0, slots := 0, locals := 29 } : Room) Z #[(.ref b), (.int (Int32.ofNat k))] h0 (Q_rm_nc_34 b da kd cs k h0 n0) 0 0 := by
  refine enter (Ls := #[.val (.ref b), .val (.int (Int32.ofNat k)), .unset, .unset, .unset, .unset]) (plainFor_of_name pn_2) (fun m => by first | (simp [entryFrame, mkF, argsToLocals, Value.category]; done) | rfl) ?_
  intro p e s m below meth c T0 hx hby hml hown hnm hret hlk hZ X0 e0
  have N0 := Fr.nil n0
  replace hown : s.vm.findClass "java/lang/AbstractStringBuilder" = some m.cls := hown
  show Run p e below _ (T0.setTop (mkF m 0 #[.val (.ref b), .val (.int (Int32.ofNat k)), .unset, .unset, .unset, .unset] []))
  refine go (fun _ => XS.aloadN X0.here hx rfl (hb hby d_j68_m10_0) rfl rfl) ?_
  show Run p e below _ (T0.setTop (mkF m 1 #[.val (.ref b), .val (.int (Int32.ofNat k)), .unset, .unset, .unset, .unset] [(.ref b)]))
  obtain ⟨T58, X58, e58, st58⟩ := getF X0 hx hZ hown (host := "") (Or.inl (wd hw 39 rfl)) Via.refl e0 F_value_b (g := (mkF m 1 #[.val (.ref b), .val (.int (Int32.ofNat k)), .unset, .unset, .unset, .unset] [(.ref b)])) rfl rfl (hb hby d_j68_m10_1)
  refine go st58 ?_
  show Run p e below _ (T58.setTop (mkF m 4 #[.val (.ref b), .val (.int (Int32.ofNat k)), .unset, .unset, .unset, .unset] [(.ref da)]))
  obtain ⟨cl59, Ar59, ak59, as59, an59, ah59, ag59⟩ := id V_da
  refine go (fun _ => X58.arraylength hx (by rw [e58]; exact Ar59.1) (State.isArrayOf_alike hZ.alike Ar59.2.1) (g := (mkF m 4 #[.val (.ref b), .val (.int (Int32.ofNat k)), .unset, .unset, .unset, .unset] [(.ref da)])) rfl rfl (hb hby d_j68_m10_4) _) ?_
  rw [len_of as59 an59]
  show Run p e below _ (T58.setTop (mkF m 5 #[.val (.ref b), .val (.int (Int32.ofNat k)), .unset, .unset, .unset, .unset] [(.int (34 : Int32))]))
  refine go (fun _ => XS.istoreN X58.here hx rfl (hb hby d_j68_m10_5) rfl (l' := #[.val (.ref b), .val (.int (Int32.ofNat k)), .val (.int (34 : Int32)), .unset, .unset, .unset]) rfl) ?_
  show Run p e below _ (T58.setTop (mkF m 6 #[.val (.ref b), .val (.int (Int32.ofNat k)), .val (.int (34 : Int32)), .unset, .unset, .unset] []))
  refine go (fun _ => XS.iloadN X58.here hx rfl (hb hby d_j68_m10_6) rfl) ?_
  show Run p e below _ (T58.setTop (mkF m 7 #[.val (.ref b), .val (.int (Int32.ofNat k)), .val (.int (34 : Int32)), .unset, .unset, .unset] [(.int (Int32.ofNat k))]))
  refine go (fun _ => XS.aloadN X58.here hx rfl (hb hby d_j68_m10_7) rfl rfl) ?_
  show Run p e below _ (T58.setTop (mkF m 8 #[.val (.ref b), .val (.int (Int32.ofNat k)), .val (.int (34 : Int32)), .unset, .unset, .unset] [(.ref b), (.int (Int32.ofNat k))]))
  obtain ⟨T60, X60, e60, st60⟩ := getF X58 hx hZ hown (host := "") (Or.inl (wd hw 41 rfl)) Via.refl e58 F_coder_b (g := (mkF m 8 #[.val (.ref b), .val (.int (Int32.ofNat k)), .val (.int (34 : Int32)), .unset, .unset, .unset] [(.ref b), (.int (Int32.ofNat k))])) rfl rfl (hb hby d_j68_m10_8)
  refine go st60 ?_
  show Run p e below _ (T60.setTop (mkF m 11 #[.val (.ref b), .val (.int (Int32.ofNat k)), .val (.int (34 : Int32)), .unset, .unset, .unset] [(.int (0 : Int32)), (.int (Int32.ofNat k))]))
  refine go (fun _ => XS.ishl X60.here hx rfl (hb hby d_j68_m10_11) rfl) ?_
  rw [own_shl0]
  show Run p e below _ (T60.setTop (mkF m 12 #[.val (.ref b), .val (.int (Int32.ofNat k)), .val (.int (34 : Int32)), .unset, .unset, .unset] [(.int (Int32.ofNat k))]))
  refine go (fun _ => XS.istoreN X60.here hx rfl (hb hby d_j68_m10_12) rfl (l' := #[.val (.ref b), .val (.int (Int32.ofNat k)), .val (.int (34 : Int32)), .val (.int (Int32.ofNat k)), .unset, .unset]) rfl) ?_
  show Run p e below _ (T60.setTop (mkF m 13 #[.val (.ref b), .val (.int (Int32.ofNat k)), .val (.int (34 : Int32)), .val (.int (Int32.ofNat k)), .unset, .unset] []))
  refine go (fun _ => XS.iloadN X60.here hx rfl (hb hby d_j68_m10_13) rfl) ?_
  show Run p e below _ (T60.setTop (mkF m 14 #[.val (.ref b), .val (.int (Int32.ofNat k)), .val (.int (34 : Int32)), .val (.int (Int32.ofNat k)), .unset, .unset] [(.int (Int32.ofNat k))]))
  refine go (fun _ => XS.iloadN X60.here hx rfl (hb hby d_j68_m10_14) rfl) ?_
  show Run p e below _ (T60.setTop (mkF m 15 #[.val (.ref b), .val (.int (Int32.ofNat k)), .val (.int (34 : Int32)), .val (.int (Int32.ofNat k)), .unset, .unset] [(.int (34 : Int32)), (.int (Int32.ofNat k))]))
  refine go (fun _ => XS.isub X60.here hx rfl (hb hby d_j68_m10_15) rfl) ?_
  show Run p e below _ (T60.setTop (mkF m 16 #[.val (.ref b), .val (.int (Int32.ofNat k)), .val (.int (34 : Int32)), .val (.int (Int32.ofNat k)), .unset, .unset] [(.int ((Int32.ofNat k) - (34 : Int32)))]))
  refine go (fun _ => XS.istore X60.here hx rfl (hb hby d_j68_m10_16) rfl (l' := #[.val (.ref b), .val (.int (Int32.ofNat k)), .val (.int (34 : Int32)), .val (.int (Int32.ofNat k)), .val (.int ((Int32.ofNat k) - (34 : Int32))), .unset]) rfl) ?_
  show Run p e below _ (T60.setTop (mkF m 18 #[.val (.ref b), .val (.int (Int32.ofNat k)), .val (.int (34 : Int32)), .val (.int (Int32.ofNat k)), .val (.int ((Int32.ofNat k) - (34 : Int32))), .unset] []))
  refine go (fun _ => XS.iloadN X60.here hx rfl (hb hby d_j68_m10_18) rfl) ?_
  show Run p e below _ (T60.setTop (mkF m 19 #[.val (.ref b), .val (.int (Int32.ofNat k)), .val (.int (34 : Int32)), .val (.int (Int32.ofNat k)), .val (.int ((Int32.ofNat k) - (34 : Int32))), .unset] [(.int (34 : Int32))]))
  refine go (fun _ => XS.iload X60.here hx rfl (hb hby d_j68_m10_19) rfl) ?_
  show Run p e below _ (T60.setTop (mkF m 21 #[.val (.ref b), .val (.int (Int32.ofNat k)), .val (.int (34 : Int32)), .val (.int (Int32.ofNat k)), .val (.int ((Int32.ofNat k) - (34 : Int32))), .unset] [(.int ((Int32.ofNat k) - (34 : Int32))), (.int (34 : Int32))]))
  refine go (fun _ => XS.iloadN X60.here hx rfl (hb hby d_j68_m10_21) rfl) ?_
  show Run p e below _ (T60.setTop (mkF m 22 #[.val (.ref b), .val (.int (Int32.ofNat k)), .val (.int (34 : Int32)), .val (.int (Int32.ofNat k)), .val (.int ((Int32.ofNat k) - (34 : Int32))), .unset] [(.int (34 : Int32)), (.int ((Int32.ofNat k) - (34 : Int32))), (.int (34 : Int32))]))
  refine go (fun _ => XS.iconst X60.here hx rfl (hb hby d_j68_m10_22)) ?_
  show Run p e below _ (T60.setTop (mkF m 23 #[.val (.ref b), .val (.int (Int32.ofNat k)), .val (.int (34 : Int32)), .val (.int (Int32.ofNat k)), .val (.int ((Int32.ofNat k) - (34 : Int32))), .unset] [(.int (2 : Int32)), (.int (34 : Int32)), (.int ((Int32.ofNat k) - (34 : Int32))), (.int (34 : Int32))]))
  refine go (fun _ => XS.aloadN X60.here hx rfl (hb hby d_j68_m10_23) rfl rfl) ?_
  show Run p e below _ (T60.setTop (mkF m 24 #[.val (.ref b), .val (.int (Int32.ofNat k)), .val (.int (34 : Int32)), .val (.int (Int32.ofNat k)), .val (.int ((Int32.ofNat k) - (34 : Int32))), .unset] [(.ref b), (.int (2 : Int32)), (.int (34 : Int32)), (.int ((Int32.ofNat k) - (34 : Int32))), (.int (34 : Int32))]))
  obtain ⟨T61, X61, e61, st61⟩ := getF X60 hx hZ hown (host := "") (Or.inl (wd hw 41 rfl)) Via.refl e60 F_coder_b (g := (mkF m 24 #[.val (.ref b), .val (.int (Int32.ofNat k)), .val (.int (34 : Int32)), .val (.int (Int32.ofNat k)), .val (.int ((Int32.ofNat k) - (34 : Int32))), .unset] [(.ref b), (.int (2 : Int32)), (.int (34 : Int32)), (.int ((Int32.ofNat k) - (34 : Int32))), (.int (34 : Int32))])) rfl rfl (hb hby d_j68_m10_24)
  refine go st61 ?_
  show Run p e below _ (T61.setTop (mkF m 27 #[.val (.ref b), .val (.int (Int32.ofNat k)), .val (.int (34 : Int32)), .val (.int (Int32.ofNat k)), .val (.int ((Int32.ofNat k) - (34 : Int32))), .unset] [(.int (0 : Int32)), (.int (2 : Int32)), (.int (34 : Int32)), (.int ((Int32.ofNat k) - (34 : Int32))), (.int (34 : Int32))]))
  refine go (fun _ => XS.ishl X61.here hx rfl (hb hby d_j68_m10_27) rfl) ?_
  rw [own_shl0]
  show Run p e below _ (T61.setTop (mkF m 28 #[.val (.ref b), .val (.int (Int32.ofNat k)), .val (.int (34 : Int32)), .val (.int (Int32.ofNat k)), .val (.int ((Int32.ofNat k) - (34 : Int32))), .unset] [(.int (2 : Int32)), (.int (34 : Int32)), (.int ((Int32.ofNat k) - (34 : Int32))), (.int (34 : Int32))]))
  refine go (fun _ => XS.iadd X61.here hx rfl (hb hby d_j68_m10_28) rfl) ?_
  show Run p e below _ (T61.setTop (mkF m 29 #[.val (.ref b), .val (.int (Int32.ofNat k)), .val (.int (34 : Int32)), .val (.int (Int32.ofNat k)), .val (.int ((Int32.ofNat k) - (34 : Int32))), .unset] [(.int (36 : Int32)), (.int ((Int32.ofNat k) - (34 : Int32))), (.int (34 : Int32))]))
  refine callSt X61 hx hZ hown (wd hw 84 rfl) (wd hw 85 rfl) (wd hw 86 rfl) (wd hw 87 rfl) (by decide) e61 (argsL := [(.int (34 : Int32)), (.int ((Int32.ofNat k) - (34 : Int32))), (.int (36 : Int32))]) (rest := []) (rm_nl_34 l Z a0 hw [] ((Int32.ofNat k) - (34 : Int32)) h0 n0 O0 (own_mx hk (by decide) (by decide) h2)) (W := 0) (by decide) (by decide) (by decide) (by decide) (by rw [hml]; rfl) (lenOf pd_8 rfl) rfl (Nat.le_of_eq rfl) (hb hby d_j68_m10_29) ?_
  intro v62 T62 L62 h62 X62 e62 q62
  obtain ⟨rv, n62, k62⟩ := q62
  replace rv : v62 = some (.int (70 : Int32)) := rv
  subst rv
  have e62 := e62.trans k62
  have N62 := Fr.app N0 n62
  show Run p e below _ (T62.setTop (mkF m 32 #[.val (.ref b), .val (.int (Int32.ofNat k)), .val (.int (34 : Int32)), .val (.int (Int32.ofNat k)), .val (.int ((Int32.ofNat k) - (34 : Int32))), .unset] [(.int (70 : Int32))]))
  refine go (fun _ => XS.istore X62.here hx rfl (hb hby d_j68_m10_32) rfl (l' := #[.val (.ref b), .val (.int (Int32.ofNat k)), .val (.int (34 : Int32)), .val (.int (Int32.ofNat k)), .val (.int ((Int32.ofNat k) - (34 : Int32))), .val (.int (70 : Int32))]) rfl) ?_
  show Run p e below _ (T62.setTop (mkF m 34 #[.val (.ref b), .val (.int (Int32.ofNat k)), .val (.int (34 : Int32)), .val (.int (Int32.ofNat k)), .val (.int ((Int32.ofNat k) - (34 : Int32))), .val (.int (70 : Int32))] []))
  refine go (fun _ => XS.iload X62.here hx rfl (hb hby d_j68_m10_34) rfl) ?_
  show Run p e below _ (T62.setTop (mkF m 36 #[.val (.ref b), .val (.int (Int32.ofNat k)), .val (.int (34 : Int32)), .val (.int (Int32.ofNat k)), .val (.int ((Int32.ofNat k) - (34 : Int32))), .val (.int (70 : Int32))] [(.int (70 : Int32))]))
  refine go (fun _ => X62.ldcI hx hown (mvT hZ (wd hw 93 rfl)) rfl (hb hby d_j68_m10_36)) ?_
  show Run p e below _ (T62.setTop (mkF m 38 #[.val (.ref b), .val (.int (Int32.ofNat k)), .val (.int (34 : Int32)), .val (.int (Int32.ofNat k)), .val (.int ((Int32.ofNat k) - (34 : Int32))), .val (.int (70 : Int32))] [(.int (2147483647 : Int32)), (.int (70 : Int32))]))
  refine go (fun _ => XS.icmpYes X62.here hx rfl (pc0 := 38) (pc' := 51) rfl (hb hby d_j68_m10_38) rfl (feq (by decide : ¬ ((70 : Int32) = 2147483647))).2 (by decide) (by decide)) ?_
  show Run p e below _ (T62.setTop (mkF m 51 #[.val (.ref b), .val (.int (Int32.ofNat k)), .val (.int (34 : Int32)), .val (.int (Int32.ofNat k)), .val (.int ((Int32.ofNat k) - (34 : Int32))), .val (.int (70 : Int32))] []))
  refine go (fun _ => XS.iload X62.here hx rfl (hb hby d_j68_m10_51) rfl) ?_
  show Run p e below _ (T62.setTop (mkF m 53 #[.val (.ref b), .val (.int (Int32.ofNat k)), .val (.int (34 : Int32)), .val (.int (Int32.ofNat k)), .val (.int ((Int32.ofNat k) - (34 : Int32))), .val (.int (70 : Int32))] [(.int (70 : Int32))]))
  refine go (fun _ => XS.aloadN X62.here hx rfl (hb hby d_j68_m10_53) rfl rfl) ?_
  show Run p e below _ (T62.setTop (mkF m 54 #[.val (.ref b), .val (.int (Int32.ofNat k)), .val (.int (34 : Int32)), .val (.int (Int32.ofNat k)), .val (.int ((Int32.ofNat k) - (34 : Int32))), .val (.int (70 : Int32))] [(.ref b), (.int (70 : Int32))]))
  obtain ⟨T63, X63, e63, st63⟩ := getF X62 hx hZ hown (host := "") (Or.inl (wd hw 41 rfl)) Via.refl e62 F_coder_b (g := (mkF m 54 #[.val (.ref b), .val (.int (Int32.ofNat k)), .val (.int (34 : Int32)), .val (.int (Int32.ofNat k)), .val (.int ((Int32.ofNat k) - (34 : Int32))), .val (.int (70 : Int32))] [(.ref b), (.int (70 : Int32))])) rfl rfl (hb hby d_j68_m10_54)
  refine go st63 ?_
  show Run p e below _ (T63.setTop (mkF m 57 #[.val (.ref b), .val (.int (Int32.ofNat k)), .val (.int (34 : Int32)), .val (.int (Int32.ofNat k)), .val (.int ((Int32.ofNat k) - (34 : Int32))), .val (.int (70 : Int32))] [(.int (0 : Int32)), (.int (70 : Int32))]))
  refine go (fun _ => XS.ishr X63.here hx rfl (hb hby d_j68_m10_57) rfl) ?_
  rw [own_shr0]
  show Run p e below _ (T63.setTop (mkF m 58 #[.val (.ref b), .val (.int (Int32.ofNat k)), .val (.int (34 : Int32)), .val (.int (Int32.ofNat k)), .val (.int ((Int32.ofNat k) - (34 : Int32))), .val (.int (70 : Int32))] [(.int (70 : Int32))]))
  exact endI X63 hx hlk hret (hb hby d_j68_m10_58) (⟨rfl, N62, e63⟩) (by decide) (by decide)
def Q_rm_co_34 (Z : State) (da : Addr) (kd : ClassId) (cs : List Int32) (h0 : Heap) (n0 : Nat) (v : Option Value) (h : Heap) (L : List Loc) : Prop := ∃ (d2 : Addr) (k2 : ClassId), v = some (.ref d2) ∧ Fr n0 L ∧ Keep h0 h [] ∧ h0.size ≤ d2 ∧ n0 ≤ d2 ∧ Exa Z h d2 "[B" ∧ Arv Z h d2 k2 .byte (70 : Int32) (BY cs) (.int 0)
set_option maxRecDepth 65536 in
set_option maxHeartbeats 40000000 in
theorem rm_co_34 (l : Launch) (Z : State) (a0 : Array Value) (hw : ∀ d ∈ tables_1, d.before a0 Z = true) (ws : List Jvm.Cond) (da : Addr) (kd : ClassId) (cs : List Int32) (h0 : Heap) (n0 : Nat) (O0 : Old Z n0 h0) (V_da : Arv Z h0 da kd .byte (34 : Int32) (BY cs) (.int 0)) (E_da : Exa Z h0 da "[B") (hcs : cs.length ≤ 34) :
    Meets l (⟨"java/util/Arrays", "copyOf", "([BI)[B"⟩ : MethodName) jdk_65_method_121_code 3 (some (.array .byte)) ws ({ frames := 1, cells := 1, slots := 70, locals := 40 } : Room) Z #[(.ref da), (.int (70 : Int32))] h0 (Q_rm_co_34 Z da kd cs h0 n0) 1 70 := by
  refine enter (Ls := #[.val (.ref da), .val (.int (70 : Int32)), .unset]) (plainFor_of_name pn_10) (fun m => by first | (simp [entryFrame, mkF, argsToLocals, Value.category]; done) | rfl) ?_
  intro p e s m below meth c T0 hx hby hml hown hnm hret hlk hZ X0 e0
  have N0 := Fr.nil n0
  replace hown : s.vm.findClass "java/util/Arrays" = some m.cls := hown
  show Run p e below _ (T0.setTop (mkF m 0 #[.val (.ref da), .val (.int (70 : Int32)), .unset] []))
  have K0 := Keep.refl h0 []
  refine go (fun _ => XS.iloadN X0.here hx rfl (hb hby d_j65_m121_0) rfl) ?_
  show Run p e below _ (T0.setTop (mkF m 1 #[.val (.ref da), .val (.int (70 : Int32)), .unset] [(.int (70 : Int32))]))
  refine go (fun _ => XS.aloadN X0.here hx rfl (hb hby d_j65_m121_1) rfl rfl) ?_
  show Run p e below _ (T0.setTop (mkF m 2 #[.val (.ref da), .val (.int (70 : Int32)), .unset] [(.ref da), (.int (70 : Int32))]))
  obtain ⟨cl64, Ar64, ak64, as64, an64, ah64, ag64⟩ := id V_da
  refine go (fun _ => X0.arraylength hx (by rw [e0]; exact Ar64.1) (State.isArrayOf_alike hZ.alike Ar64.2.1) (g := (mkF m 2 #[.val (.ref da), .val (.int (70 : Int32)), .unset] [(.ref da), (.int (70 : Int32))])) rfl rfl (hb hby d_j65_m121_2) _) ?_
  rw [len_of as64 an64]
  show Run p e below _ (T0.setTop (mkF m 3 #[.val (.ref da), .val (.int (70 : Int32)), .unset] [(.int (34 : Int32)), (.int (70 : Int32))]))
  refine go (fun _ => XS.icmpYes X0.here hx rfl (pc0 := 3) (pc' := 14) rfl (hb hby d_j65_m121_3) rfl (feq (by decide : ¬ ((70 : Int32) = 34))).2 (by decide) (by decide)) ?_
  show Run p e below _ (T0.setTop (mkF m 14 #[.val (.ref da), .val (.int (70 : Int32)), .unset] []))
  refine go (fun _ => XS.iloadN X0.here hx rfl (hb hby d_j65_m121_14) rfl) ?_
  show Run p e below _ (T0.setTop (mkF m 15 #[.val (.ref da), .val (.int (70 : Int32)), .unset] [(.int (70 : Int32))]))
  obtain ⟨T65, h65, k65, X65, e65, E65, A65, B65, st65⟩ := newPE X0 hx hZ (wd hw 38 rfl) e0 (g := (mkF m 15 #[.val (.ref da), .val (.int (70 : Int32)), .unset] [(.int (70 : Int32))])) rfl (hb hby d_j65_m121_15) rfl (by decide) (cap := 70) (by decide) (by decide) (by decide) (by decide) (ad := "[B") (by decide)
  obtain ⟨b65, y65⟩ : ∃ z, z = h0.size := ⟨_, rfl⟩
  rw [← y65] at A65 B65 st65
  have g_b65 : n0 ≤ b65 := y65.symm ▸ old_sz O0
  have sz_b65 : h0.size ≤ b65 := y65.symm ▸ K0.1
  have ne_da_b65 : da ≠ b65 := Nat.ne_of_lt (y65.symm ▸ V_da.lt)
  have O0 := O0.ext E65
  have V_da := V_da.ext E65
  have E_da := E_da.ext E65
  have K0 := K0.ext E65
  have E_b65 := B65
  have V_b65 : Arv Z h65 b65 k65 .byte (70 : Int32) (BY []) (.int 0) := Arv.new A65 (by decide)
  refine go st65 ?_
  show Run p e below _ (T65.setTop (mkF m 17 #[.val (.ref da), .val (.int (70 : Int32)), .unset] [(.ref b65)]))
  refine go (fun _ => XS.astoreN X65.here hx rfl (hb hby d_j65_m121_17) rfl rfl (l' := #[.val (.ref da), .val (.int (70 : Int32)), .val (.ref b65)]) rfl) ?_
  show Run p e below _ (T65.setTop (mkF m 18 #[.val (.ref da), .val (.int (70 : Int32)), .val (.ref b65)] []))
  refine go (fun _ => XS.aloadN X65.here hx rfl (hb hby d_j65_m121_18) rfl rfl) ?_
  show Run p e below _ (T65.setTop (mkF m 19 #[.val (.ref da), .val (.int (70 : Int32)), .val (.ref b65)] [(.ref da)]))
  refine go (fun _ => XS.iconst X65.here hx rfl (hb hby d_j65_m121_19)) ?_
  show Run p e below _ (T65.setTop (mkF m 20 #[.val (.ref da), .val (.int (70 : Int32)), .val (.ref b65)] [(.int (0 : Int32)), (.ref da)]))
  refine go (fun _ => XS.aloadN X65.here hx rfl (hb hby d_j65_m121_20) rfl rfl) ?_
  show Run p e below _ (T65.setTop (mkF m 21 #[.val (.ref da), .val (.int (70 : Int32)), .val (.ref b65)] [(.ref b65), (.int (0 : Int32)), (.ref da)]))
  refine go (fun _ => XS.iconst X65.here hx rfl (hb hby d_j65_m121_21)) ?_
  show Run p e below _ (T65.setTop (mkF m 22 #[.val (.ref da), .val (.int (70 : Int32)), .val (.ref b65)] [(.int (0 : Int32)), (.ref b65), (.int (0 : Int32)), (.ref da)]))
  refine go (fun _ => XS.aloadN X65.here hx rfl (hb hby d_j65_m121_22) rfl rfl) ?_
  show Run p e below _ (T65.setTop (mkF m 23 #[.val (.ref da), .val (.int (70 : Int32)), .val (.ref b65)] [(.ref da), (.int (0 : Int32)), (.ref b65), (.int (0 : Int32)), (.ref da)]))
  obtain ⟨cl66, Ar66, ak66, as66, an66, ah66, ag66⟩ := id V_da
  refine go (fun _ => X65.arraylength hx (by rw [e65]; exact Ar66.1) (State.isArrayOf_alike hZ.alike Ar66.2.1) (g := (mkF m 23 #[.val (.ref da), .val (.int (70 : Int32)), .val (.ref b65)] [(.ref da), (.int (0 : Int32)), (.ref b65), (.int (0 : Int32)), (.ref da)])) rfl rfl (hb hby d_j65_m121_23) _) ?_
  rw [len_of as66 an66]
  show Run p e below _ (T65.setTop (mkF m 24 #[.val (.ref da), .val (.int (70 : Int32)), .val (.ref b65)] [(.int (34 : Int32)), (.int (0 : Int32)), (.ref b65), (.int (0 : Int32)), (.ref da)]))
  refine go (fun _ => XS.iloadN X65.here hx rfl (hb hby d_j65_m121_24) rfl) ?_
  show Run p e below _ (T65.setTop (mkF m 25 #[.val (.ref da), .val (.int (70 : Int32)), .val (.ref b65)] [(.int (70 : Int32)), (.int (34 : Int32)), (.int (0 : Int32)), (.ref b65), (.int (0 : Int32)), (.ref da)]))
  refine callSt X65 hx hZ hown (wd hw 98 rfl) (wd hw 99 rfl) (wd hw 90 rfl) (wd hw 100 rfl) (by decide) e65 (argsL := [(.int (34 : Int32)), (.int (70 : Int32))]) (rest := [(.int (0 : Int32)), (.ref b65), (.int (0 : Int32)), (.ref da)]) (rm_min l Z a0 hw [] (34 : Int32) (70 : Int32) h65 n0 O0) (W := 4) (by decide) (by decide) (by decide) (by decide) (by rw [hml]; rfl) (lenOf pd_7 rfl) rfl (Nat.le_of_eq rfl) (hb hby d_j65_m121_25) ?_
  intro v67 T67 L67 h67 X67 e67 q67
  obtain ⟨rv, n67, k67⟩ := q67
  replace rv : v67 = some (.int (34 : Int32)) := rv
  subst rv
  have e67 := e67.trans k67
  have N67 := Fr.app N0 n67
  show Run p e below _ (T67.setTop (mkF m 28 #[.val (.ref da), .val (.int (70 : Int32)), .val (.ref b65)] [(.int (34 : Int32)), (.int (0 : Int32)), (.ref b65), (.int (0 : Int32)), (.ref da)]))
  have lt69_da := V_da.lt
  have lt69_b65 := E_b65.lt
  obtain ⟨T68, h68, L68, X68, e68, N68, K68, V_b65, st68⟩ := cpB X67 hx hZ hown (wd hw 101 rfl) (wd hw 104 rfl) (wd hw 102 rfl) (wd hw 103 rfl) e67 (us := cs) (cs := []) V_da V_b65 (dp := (0 : Int32)) (nn := (34 : Int32)) rfl (by decide) (by decide) (by show _ ≤ 34; exact hcs) (by decide) (by decide) N67 g_b65 (g := (mkF m 28 #[.val (.ref da), .val (.int (70 : Int32)), .val (.ref b65)] [(.int (34 : Int32)), (.int (0 : Int32)), (.ref b65), (.int (0 : Int32)), (.ref da)])) rfl (by rw [hml]; rfl) rfl (hb hby d_j65_m121_28) (by decide) (W := 0) (Nat.le_of_eq rfl) (by decide)
  have O0 := O0.keep K68 (allS g_b65 all0)
  have V_da := V_da.keep K68 (ninS ne_da_b65 nin0)
  have E_da := E_da.keep K68
  have K0 := K0.trans K68 (allS (Or.inr sz_b65) all0)
  have E_b65 := E_b65.keep K68
  refine go st68 ?_
  show Run p e below _ (T68.setTop (mkF m 31 #[.val (.ref da), .val (.int (70 : Int32)), .val (.ref b65)] []))
  refine go (fun _ => XS.aloadN X68.here hx rfl (hb hby d_j65_m121_31) rfl rfl) ?_
  show Run p e below _ (T68.setTop (mkF m 32 #[.val (.ref da), .val (.int (70 : Int32)), .val (.ref b65)] [(.ref b65)]))
  exact endA X68 hx hlk (w := (.ref b65)) hret rfl rfl (hb hby d_j65_m121_32) (by rw [e68]; exact ⟨b65, _, rfl, N68, K0, sz_b65, g_b65, E_b65, V_b65⟩) (by decide) (by decide)
def Q_rm_en1_34 (Z : State) (b da : Addr) (kd : ClassId) (cs : List Int32) (k : Nat) (h0 : Heap) (n0 : Nat) (v : Option Value) (h : Heap) (L : List Loc) : Prop := ∃ (d2 : Addr) (k2 : ClassId), v = none ∧ Fr n0 L ∧ Keep h0 h [b] ∧ h0.size ≤ d2 ∧ n0 ≤ d2 ∧ Exa Z h d2 "[B" ∧ Fld Z h b "java/lang/AbstractStringBuilder" "value" "[B" (.ref d2) ∧ Fld Z h b "java/lang/AbstractStringBuilder" "coder" "B" (.int (0 : Int32)) ∧ Fld Z h b "java/lang/AbstractStringBuilder" "count" "I" (.int (Int32.ofNat (cs).length)) ∧ Arv Z h d2 k2 .byte (70 : Int32) (BY cs) (.int 0)
set_option maxRecDepth 65536 in
set_option maxHeartbeats 40000000 in
theorem rm_en1_34 (l : Launch) (Z : State) (a0 : Array Value) (hw : ∀ d ∈ tables_1, d.before a0 Z = true) (ws : List Jvm.Cond) (b da : Addr) (kd : ClassId) (cs : List Int32) (k : Nat) (h0 : Heap) (n0 : Nat) (O0 : Old Z n0 h0) (E_b : Exa Z h0 b "java/lang/StringBuilder") (F_value_b : Fld Z h0 b "java/lang/AbstractStringBuilder" "value" "[B" (.ref da)) (F_coder_b : Fld Z h0 b "java/lang/AbstractStringBuilder" "coder" "B" (.int (0 : Int32))) (F_count_b : Fld Z h0 b "java/lang/AbstractStringBuilder" "count" "I" (.int (Int32.ofNat (cs).length))) (V_da : Arv Z h0 da kd .byte (34 : Int32) (BY cs) (.int 0)) (E_da : Exa Z h0 da "[B") (g_b : n0 ≤ b) (g_da : n0 ≤ da) (hk : k < 1000) (h1 : (34 : Int32).toInt < (k : Int)) (h2 : (k : Int) < (34 : Int32).toInt + (36 : Int32).toInt) (hcs : cs.length ≤ 34) :
    Meets l (⟨"java/lang/AbstractStringBuilder", "ensureCapacityInternal", "(I)V"⟩ : MethodName) jdk_68_method_9_code 3 none ws ({ frames := 3, cells := 1, slots := 70, locals := 55 } : Room) Z #[(.ref b), (.int (Int32.ofNat k))] h0 (Q_rm_en1_34 Z b da kd cs k h0 n0) 1 70 := by
  refine enter (Ls := #[.val (.ref b), .val (.int (Int32.ofNat k)), .unset]) (plainFor_of_name pn_2) (fun m => by first | (simp [entryFrame, mkF, argsToLocals, Value.category]; done) | rfl) ?_
  intro p e s m below meth c T0 hx hby hml hown hnm hret hlk hZ X0 e0
  have N0 := Fr.nil n0
  replace hown : s.vm.findClass "java/lang/AbstractStringBuilder" = some m.cls := hown
  show Run p e below _ (T0.setTop (mkF m 0 #[.val (.ref b), .val (.int (Int32.ofNat k)), .unset] []))
  have K0 := Keep.refl h0 [b]
  refine go (fun _ => XS.aloadN X0.here hx rfl (hb hby d_j68_m9_0) rfl rfl) ?_
  show Run p e below _ (T0.setTop (mkF m 1 #[.val (.ref b), .val (.int (Int32.ofNat k)), .unset] [(.ref b)]))
  obtain ⟨T70, X70, e70, st70⟩ := getF X0 hx hZ hown (host := "") (Or.inl (wd hw 39 rfl)) Via.refl e0 F_value_b (g := (mkF m 1 #[.val (.ref b), .val (.int (Int32.ofNat k)), .unset] [(.ref b)])) rfl rfl (hb hby d_j68_m9_1)
  refine go st70 ?_
  show Run p e below _ (T70.setTop (mkF m 4 #[.val (.ref b), .val (.int (Int32.ofNat k)), .unset] [(.ref da)]))
  obtain ⟨cl71, Ar71, ak71, as71, an71, ah71, ag71⟩ := id V_da
  refine go (fun _ => X70.arraylength hx (by rw [e70]; exact Ar71.1) (State.isArrayOf_alike hZ.alike Ar71.2.1) (g := (mkF m 4 #[.val (.ref b), .val (.int (Int32.ofNat k)), .unset] [(.ref da)])) rfl rfl (hb hby d_j68_m9_4) _) ?_
  rw [len_of as71 an71]
  show Run p e below _ (T70.setTop (mkF m 5 #[.val (.ref b), .val (.int (Int32.ofNat k)), .unset] [(.int (34 : Int32))]))
  refine go (fun _ => XS.aloadN X70.here hx rfl (hb hby d_j68_m9_5) rfl rfl) ?_
  show Run p e below _ (T70.setTop (mkF m 6 #[.val (.ref b), .val (.int (Int32.ofNat k)), .unset] [(.ref b), (.int (34 : Int32))]))
  obtain ⟨T72, X72, e72, st72⟩ := getF X70 hx hZ hown (host := "") (Or.inl (wd hw 41 rfl)) Via.refl e70 F_coder_b (g := (mkF m 6 #[.val (.ref b), .val (.int (Int32.ofNat k)), .unset] [(.ref b), (.int (34 : Int32))])) rfl rfl (hb hby d_j68_m9_6)
  refine go st72 ?_
  show Run p e below _ (T72.setTop (mkF m 9 #[.val (.ref b), .val (.int (Int32.ofNat k)), .unset] [(.int (0 : Int32)), (.int (34 : Int32))]))
  refine go (fun _ => XS.ishr X72.here hx rfl (hb hby d_j68_m9_9) rfl) ?_
  rw [own_shr0]
  show Run p e below _ (T72.setTop (mkF m 10 #[.val (.ref b), .val (.int (Int32.ofNat k)), .unset] [(.int (34 : Int32))]))
  refine go (fun _ => XS.istoreN X72.here hx rfl (hb hby d_j68_m9_10) rfl (l' := #[.val (.ref b), .val (.int (Int32.ofNat k)), .val (.int (34 : Int32))]) rfl) ?_
  show Run p e below _ (T72.setTop (mkF m 11 #[.val (.ref b), .val (.int (Int32.ofNat k)), .val (.int (34 : Int32))] []))
  refine go (fun _ => XS.iloadN X72.here hx rfl (hb hby d_j68_m9_11) rfl) ?_
  show Run p e below _ (T72.setTop (mkF m 12 #[.val (.ref b), .val (.int (Int32.ofNat k)), .val (.int (34 : Int32))] [(.int (Int32.ofNat k))]))
  refine go (fun _ => XS.iloadN X72.here hx rfl (hb hby d_j68_m9_12) rfl) ?_
  show Run p e below _ (T72.setTop (mkF m 13 #[.val (.ref b), .val (.int (Int32.ofNat k)), .val (.int (34 : Int32))] [(.int (34 : Int32)), (.int (Int32.ofNat k))]))
  refine go (fun _ => XS.isub X72.here hx rfl (hb hby d_j68_m9_13) rfl) ?_
  show Run p e below _ (T72.setTop (mkF m 14 #[.val (.ref b), .val (.int (Int32.ofNat k)), .val (.int (34 : Int32))] [(.int ((Int32.ofNat k) - (34 : Int32)))]))
  refine go (fun _ => XS.ifNo X72.here hx rfl (hb hby d_j68_m9_14) rfl ((if0 _ _).trans (tlt (own_p0 hk (by decide) (by decide) h1)).2.2.2)) ?_
  show Run p e below _ (T72.setTop (mkF m 17 #[.val (.ref b), .val (.int (Int32.ofNat k)), .val (.int (34 : Int32))] []))
  refine go (fun _ => XS.aloadN X72.here hx rfl (hb hby d_j68_m9_17) rfl rfl) ?_
  show Run p e below _ (T72.setTop (mkF m 18 #[.val (.ref b), .val (.int (Int32.ofNat k)), .val (.int (34 : Int32))] [(.ref b)]))
  refine go (fun _ => XS.aloadN X72.here hx rfl (hb hby d_j68_m9_18) rfl rfl) ?_
  show Run p e below _ (T72.setTop (mkF m 19 #[.val (.ref b), .val (.int (Int32.ofNat k)), .val (.int (34 : Int32))] [(.ref b), (.ref b)]))
  obtain ⟨T73, X73, e73, st73⟩ := getF X72 hx hZ hown (host := "") (Or.inl (wd hw 39 rfl)) Via.refl e72 F_value_b (g := (mkF m 19 #[.val (.ref b), .val (.int (Int32.ofNat k)), .val (.int (34 : Int32))] [(.ref b), (.ref b)])) rfl rfl (hb hby d_j68_m9_19)
  refine go st73 ?_
  show Run p e below _ (T73.setTop (mkF m 22 #[.val (.ref b), .val (.int (Int32.ofNat k)), .val (.int (34 : Int32))] [(.ref da), (.ref b)]))
  refine go (fun _ => XS.aloadN X73.here hx rfl (hb hby d_j68_m9_22) rfl rfl) ?_
  show Run p e below _ (T73.setTop (mkF m 23 #[.val (.ref b), .val (.int (Int32.ofNat k)), .val (.int (34 : Int32))] [(.ref b), (.ref da), (.ref b)]))
  refine go (fun _ => XS.iloadN X73.here hx rfl (hb hby d_j68_m9_23) rfl) ?_
  show Run p e below _ (T73.setTop (mkF m 24 #[.val (.ref b), .val (.int (Int32.ofNat k)), .val (.int (34 : Int32))] [(.int (Int32.ofNat k)), (.ref b), (.ref da), (.ref b)]))
  refine callVi X73 hx hZ hown (wd hw 79 rfl) (own_decl (wd hw 80 rfl) (wd hw 83 rfl)) (notFace_of_selects (args := #[]) (mvT hZ (wd hw 82 rfl))) (wd hw 82 rfl) (wd hw 80 rfl) (wd hw 83 rfl) (wd hw 33 rfl) (by decide) e73 E_b (argsL := [(.int (Int32.ofNat k))]) (rest := [(.ref da), (.ref b)]) (rm_nc_34 l Z a0 hw [] b da kd cs k h0 n0 O0 E_b F_value_b F_coder_b F_count_b V_da E_da g_b g_da hk h1 h2) (W := 2) (by decide) (by decide) (by decide) (by decide) (by rw [hml]; rfl) (lenOf pd_9 rfl) rfl (Nat.le_of_eq rfl) (hb hby d_j68_m9_24) ?_
  intro v74 T74 L74 h74 X74 e74 q74
  obtain ⟨rv, n74, k74⟩ := q74
  replace rv : v74 = some (.int (70 : Int32)) := rv
  subst rv
  have e74 := e74.trans k74
  have N74 := Fr.app N0 n74
  show Run p e below _ (T74.setTop (mkF m 27 #[.val (.ref b), .val (.int (Int32.ofNat k)), .val (.int (34 : Int32))] [(.int (70 : Int32)), (.ref da), (.ref b)]))
  refine go (fun _ => XS.aloadN X74.here hx rfl (hb hby d_j68_m9_27) rfl rfl) ?_
  show Run p e below _ (T74.setTop (mkF m 28 #[.val (.ref b), .val (.int (Int32.ofNat k)), .val (.int (34 : Int32))] [(.ref b), (.int (70 : Int32)), (.ref da), (.ref b)]))
  obtain ⟨T75, X75, e75, st75⟩ := getF X74 hx hZ hown (host := "") (Or.inl (wd hw 41 rfl)) Via.refl e74 F_coder_b (g := (mkF m 28 #[.val (.ref b), .val (.int (Int32.ofNat k)), .val (.int (34 : Int32))] [(.ref b), (.int (70 : Int32)), (.ref da), (.ref b)])) rfl rfl (hb hby d_j68_m9_28)
  refine go st75 ?_
  show Run p e below _ (T75.setTop (mkF m 31 #[.val (.ref b), .val (.int (Int32.ofNat k)), .val (.int (34 : Int32))] [(.int (0 : Int32)), (.int (70 : Int32)), (.ref da), (.ref b)]))
  refine go (fun _ => XS.ishl X75.here hx rfl (hb hby d_j68_m9_31) rfl) ?_
  rw [own_shl0]
  show Run p e below _ (T75.setTop (mkF m 32 #[.val (.ref b), .val (.int (Int32.ofNat k)), .val (.int (34 : Int32))] [(.int (70 : Int32)), (.ref da), (.ref b)]))
  refine callSt X75 hx hZ hown (wd hw 94 rfl) (wd hw 95 rfl) (wd hw 96 rfl) (wd hw 97 rfl) (by decide) e75 (argsL := [(.ref da), (.int (70 : Int32))]) (rest := [(.ref b)]) (rm_co_34 l Z a0 hw [] da kd cs h0 n0 O0 V_da E_da hcs) (W := 1) (by decide) (by decide) (by decide) (by decide) (by rw [hml]; rfl) (lenOf pd_10 rfl) rfl (Nat.le_of_eq rfl) (hb hby d_j68_m9_32) ?_
  intro v76 T76 L76 h76 X76 e76 q76
  have lt77_b := E_b.lt
  have lt77_da := V_da.lt
  obtain ⟨d76, kd76, rfl, n76, K76, sb76, g_d76, E_d76, V_d76⟩ := q76
  have szq76 := K0.1
  have ne_b_d76 : b ≠ d76 := Nat.ne_of_lt (Nat.lt_of_lt_of_le lt77_b sb76)
  have ne_da_d76 : da ≠ d76 := Nat.ne_of_lt (Nat.lt_of_lt_of_le lt77_da sb76)
  have sz_d76 : h0.size ≤ d76 := Nat.le_trans szq76 sb76
  have O0 := O0.keep K76 all0
  have E_b := E_b.keep K76
  have F_value_b := F_value_b.keep K76 nin0
  have F_coder_b := F_coder_b.keep K76 nin0
  have F_count_b := F_count_b.keep K76 nin0
  have V_da := V_da.keep K76 nin0
  have E_da := E_da.keep K76
  have K0 := K0.trans K76 all0
  have N76 := Fr.app N74 n76
  show Run p e below _ (T76.setTop (mkF m 35 #[.val (.ref b), .val (.int (Int32.ofNat k)), .val (.int (34 : Int32))] [(.ref d76), (.ref b)]))
  obtain ⟨T78, h78, X78, e78, W78, st78⟩ := putF X76 hx hZ hown (host := "") (Or.inl (wd hw 39 rfl)) Via.refl e76 F_value_b E_b (Or.inl (wd hw 40 rfl)) (wd hw 24 rfl) (ty := (.array .byte)) (by decide) rfl rfl (g := (mkF m 35 #[.val (.ref b), .val (.int (Int32.ofNat k)), .val (.int (34 : Int32))] [(.ref d76), (.ref b)])) rfl rfl (hb hby d_j68_m9_35)
  have ne_da_b : da ≠ b := ne_exa E_da E_b (by decide)
  have O0 := O0.wr W78 g_b
  have E_b := E_b.wr W78
  have F_value_b := F_value_b.same W78
  have F_coder_b := F_coder_b.other W78 (Or.inr (slot_ne (Or.inl (wd hw 42 rfl)) (Or.inl (wd hw 40 rfl)) (by decide) (t := .byte) (t' := (.array .byte)) (by decide) (by decide)))
  have F_count_b := F_count_b.other W78 (Or.inr (slot_ne (Or.inl (wd hw 73 rfl)) (Or.inl (wd hw 40 rfl)) (by decide) (t := .int) (t' := (.array .byte)) (by decide) (by decide)))
  have V_da := V_da.other W78 ne_da_b
  have E_da := E_da.wr W78
  have K0 := K0.wr W78 (Or.inl (by simp))
  have E_d76 := E_d76.wr W78
  have V_d76 := V_d76.other W78 (Ne.symm ne_b_d76)
  have N78 := Fr.snoc X78 N76 g_b
  refine go st78 ?_
  show Run p e below _ (T78.setTop (mkF m 38 #[.val (.ref b), .val (.int (Int32.ofNat k)), .val (.int (34 : Int32))] []))
  exact endV X78 hx hlk hret (hb hby d_j68_m9_38) (by rw [e78]; exact ⟨d76, _, rfl, N78, K0, sz_d76, g_d76, E_d76, F_value_b, F_coder_b, F_count_b, V_d76⟩) (by decide) (by decide)
theorem d_j68_m71_0 : decode jdk_68_method_71_code 0 = .ok (.getstatic 18, 3) := by decide +kernel
theorem d_j68_m71_3 : decode jdk_68_method_71_code 3 = .ok (.ifCond .eq 18, 3) := by decide +kernel
theorem d_j68_m71_6 : decode jdk_68_method_71_code 6 = .ok (.aload_n 0, 1) := by decide +kernel
theorem d_j68_m71_7 : decode jdk_68_method_71_code 7 = .ok (.getfield 22, 3) := by decide +kernel
theorem d_j68_m71_10 : decode jdk_68_method_71_code 10 = .ok (.aload_n 1, 1) := by decide +kernel
theorem d_j68_m71_11 : decode jdk_68_method_71_code 11 = .ok (.invokevirtual 40, 3) := by decide +kernel
theorem d_j68_m71_14 : decode jdk_68_method_71_code 14 = .ok (.if_icmp .eq 7, 3) := by decide +kernel
theorem d_j68_m71_21 : decode jdk_68_method_71_code 21 = .ok (.return_, 1) := by decide +kernel
def Q_rm_inf (zc : Int32) (b da : Addr) (kd : ClassId) (z : Int32) (cs : List Int32) (x t : Addr) (kb : ClassId) (ds : List Int32) (h0 : Heap) (n0 : Nat) (v : Option Value) (h : Heap) (L : List Loc) : Prop := v = none ∧ Fr n0 L ∧ h = h0
set_option maxRecDepth 65536 in
set_option maxHeartbeats 40000000 in
theorem rm_inf (l : Launch) (Z : State) (a0 : Array Value) (hw : ∀ d ∈ tables_1, d.before a0 Z = true) (ws : List Jvm.Cond) (zc : Int32) (b da : Addr) (kd : ClassId) (z : Int32) (cs : List Int32) (x t : Addr) (kb : ClassId) (ds : List Int32) (h0 : Heap) (n0 : Nat) (O0 : Old Z n0 h0) (S_COMPACT_STRINGS : Sta Z Z.heap "java/lang/String" "COMPACT_STRINGS" "Z" (.int zc)) (hzc : ¬ zc = 0) (E_b : Exa Z h0 b "java/lang/StringBuilder") (F_value_b : Fld Z h0 b "java/lang/AbstractStringBuilder" "value" "[B" (.ref da)) (F_coder_b : Fld Z h0 b "java/lang/AbstractStringBuilder" "coder" "B" (.int (0 : Int32))) (F_count_b : Fld Z h0 b "java/lang/AbstractStringBuilder" "count" "I" (.int (Int32.ofNat (cs).length))) (V_da : Arv Z h0 da kd .byte z (BY cs) (.int 0)) (E_da : Exa Z h0 da "[B") (g_b : n0 ≤ b) (g_da : n0 ≤ da) (T_x : Str Z h0 x t kb ds) :
    Meets l (⟨"java/lang/AbstractStringBuilder", "inflateIfNeededFor", "(Ljava/lang/String;)V"⟩ : MethodName) jdk_68_method_71_code 2 none ws ({ frames := 1, cells := 0, slots := 0, locals := 13 } : Room) Z #[(.ref b), (.ref x)] h0 (Q_rm_inf zc b da kd z cs x t kb ds h0 n0) 0 0 := by
  refine enter (Ls := #[.val (.ref b), .val (.ref x)]) (plainFor_of_name pn_2) (fun m => by first | (simp [entryFrame, mkF, argsToLocals, Value.category]; done) | rfl) ?_
  intro p e s m below meth c T0 hx hby hml hown hnm hret hlk hZ X0 e0
  have N0 := Fr.nil n0
  replace hown : s.vm.findClass "java/lang/AbstractStringBuilder" = some m.cls := hown
  show Run p e below _ (T0.setTop (mkF m 0 #[.val (.ref b), .val (.ref x)] []))
  obtain ⟨T79, X79, e79, st79⟩ := getS2 X0 hx hZ hown (host := "") (Or.inl (wd hw 36 rfl)) Via.refl e0 (S_COMPACT_STRINGS.ext O0.2) (g := (mkF m 0 #[.val (.ref b), .val (.ref x)] [])) rfl (hb hby d_j68_m71_0)
  refine go st79 ?_
  show Run p e below _ (T79.setTop (mkF m 3 #[.val (.ref b), .val (.ref x)] [(.int zc)]))
  refine go (fun _ => XS.ifNo X79.here hx rfl (hb hby d_j68_m71_3) rfl ((if0 _ _).trans (feq hzc).1)) ?_
  show Run p e below _ (T79.setTop (mkF m 6 #[.val (.ref b), .val (.ref x)] []))
  refine go (fun _ => XS.aloadN X79.here hx rfl (hb hby d_j68_m71_6) rfl rfl) ?_
  show Run p e below _ (T79.setTop (mkF m 7 #[.val (.ref b), .val (.ref x)] [(.ref b)]))
  obtain ⟨T80, X80, e80, st80⟩ := getF X79 hx hZ hown (host := "") (Or.inl (wd hw 41 rfl)) Via.refl e79 F_coder_b (g := (mkF m 7 #[.val (.ref b), .val (.ref x)] [(.ref b)])) rfl rfl (hb hby d_j68_m71_7)
  refine go st80 ?_
  show Run p e below _ (T80.setTop (mkF m 10 #[.val (.ref b), .val (.ref x)] [(.int (0 : Int32))]))
  refine go (fun _ => XS.aloadN X80.here hx rfl (hb hby d_j68_m71_10) rfl rfl) ?_
  show Run p e below _ (T80.setTop (mkF m 11 #[.val (.ref b), .val (.ref x)] [(.ref x), (.int (0 : Int32))]))
  refine callVi X80 hx hZ hown (wd hw 115 rfl) (wd hw 66 rfl) (notFace_of_selects (args := #[]) (mvT hZ (wd hw 68 rfl))) (wd hw 68 rfl) (wd hw 67 rfl) (wd hw 69 rfl) (wd hw 37 rfl) (by decide) e80 T_x.1 (argsL := []) (rest := [(.int (0 : Int32))]) (rm_cod l Z a0 hw [] zc x t kb ds h0 n0 O0 S_COMPACT_STRINGS hzc T_x) (W := 1) (by decide) (by decide) (by decide) (by decide) (by rw [hml]; rfl) (lenOf pd_2 rfl) rfl (Nat.le_of_eq rfl) (hb hby d_j68_m71_11) ?_
  intro v81 T81 L81 h81 X81 e81 q81
  obtain ⟨rv, n81, k81⟩ := q81
  replace rv : v81 = some (.int (0 : Int32)) := rv
  subst rv
  have e81 := e81.trans k81
  have N81 := Fr.app N0 n81
  show Run p e below _ (T81.setTop (mkF m 14 #[.val (.ref b), .val (.ref x)] [(.int (0 : Int32)), (.int (0 : Int32))]))
  refine go (fun _ => XS.icmpYes X81.here hx rfl (pc0 := 14) (pc' := 21) rfl (hb hby d_j68_m71_14) rfl (teq (by decide : (0 : Int32) = 0)).1 (by decide) (by decide)) ?_
  show Run p e below _ (T81.setTop (mkF m 21 #[.val (.ref b), .val (.ref x)] []))
  exact endV X81 hx hlk hret (hb hby d_j68_m71_21) (⟨rfl, N81, e81⟩) (by decide) (by decide)
theorem d_j42_m147_0 : decode jdk_42_method_147_code 0 = .ok (.aload_n 0, 1) := by decide +kernel
theorem d_j42_m147_1 : decode jdk_42_method_147_code 1 = .ok (.invokevirtual 335, 3) := by decide +kernel
theorem d_j42_m147_4 : decode jdk_42_method_147_code 4 = .ok (.iload_n 3, 1) := by decide +kernel
theorem d_j42_m147_5 : decode jdk_42_method_147_code 5 = .ok (.if_icmp .ne 23, 3) := by decide +kernel
theorem d_j42_m147_8 : decode jdk_42_method_147_code 8 = .ok (.aload_n 0, 1) := by decide +kernel
theorem d_j42_m147_9 : decode jdk_42_method_147_code 9 = .ok (.getfield 9, 3) := by decide +kernel
theorem d_j42_m147_12 : decode jdk_42_method_147_code 12 = .ok (.iconst 0, 1) := by decide +kernel
theorem d_j42_m147_13 : decode jdk_42_method_147_code 13 = .ok (.aload_n 1, 1) := by decide +kernel
theorem d_j42_m147_14 : decode jdk_42_method_147_code 14 = .ok (.iload_n 2, 1) := by decide +kernel
theorem d_j42_m147_15 : decode jdk_42_method_147_code 15 = .ok (.iload_n 3, 1) := by decide +kernel
theorem d_j42_m147_16 : decode jdk_42_method_147_code 16 = .ok (.ishl, 1) := by decide +kernel
theorem d_j42_m147_17 : decode jdk_42_method_147_code 17 = .ok (.aload_n 0, 1) := by decide +kernel
theorem d_j42_m147_18 : decode jdk_42_method_147_code 18 = .ok (.getfield 9, 3) := by decide +kernel
theorem d_j42_m147_21 : decode jdk_42_method_147_code 21 = .ok (.arraylength, 1) := by decide +kernel
theorem d_j42_m147_22 : decode jdk_42_method_147_code 22 = .ok (.invokestatic 212, 3) := by decide +kernel
theorem d_j42_m147_25 : decode jdk_42_method_147_code 25 = .ok (.goto 18, 3) := by decide +kernel
theorem d_j42_m147_43 : decode jdk_42_method_147_code 43 = .ok (.return_, 1) := by decide +kernel
def Q_rm_gb (Z : State) (zc : Int32) (da : Addr) (kd : ClassId) (z : Int32) (cs : List Int32) (x t : Addr) (kb : ClassId) (ds : List Int32) (h0 : Heap) (n0 : Nat) (v : Option Value) (h : Heap) (L : List Loc) : Prop := v = none ∧ Fr n0 L ∧ Keep h0 h [da] ∧ Arv Z h da kd .byte z (BY (cs ++ ds)) (.int 0)
set_option maxRecDepth 65536 in
set_option maxHeartbeats 40000000 in
theorem rm_gb (l : Launch) (Z : State) (a0 : Array Value) (hw : ∀ d ∈ tables_1, d.before a0 Z = true) (ws : List Jvm.Cond) (zc : Int32) (da : Addr) (kd : ClassId) (z : Int32) (cs : List Int32) (x t : Addr) (kb : ClassId) (ds : List Int32) (h0 : Heap) (n0 : Nat) (O0 : Old Z n0 h0) (S_COMPACT_STRINGS : Sta Z Z.heap "java/lang/String" "COMPACT_STRINGS" "Z" (.int zc)) (hzc : ¬ zc = 0) (V_da : Arv Z h0 da kd .byte z (BY cs) (.int 0)) (E_da : Exa Z h0 da "[B") (g_da : n0 ≤ da) (T_x : Str Z h0 x t kb ds) (ne_da_t : da ≠ t) (hbd : cs.length + ds.length ≤ z.toNatClampNeg) (hcl : cs.length < 1000) (hdl : ds.length < 1000) :
    Meets l (⟨"java/lang/String", "getBytes", "([BIB)V"⟩ : MethodName) jdk_42_method_147_code 4 none ws ({ frames := 1, cells := 0, slots := 0, locals := 40 } : Room) Z #[(.ref x), (.ref da), (.int (Int32.ofNat (cs).length)), (.int (0 : Int32))] h0 (Q_rm_gb Z zc da kd z cs x t kb ds h0 n0) 0 0 := by
  refine enter (Ls := #[.val (.ref x), .val (.ref da), .val (.int (Int32.ofNat (cs).length)), .val (.int (0 : Int32))]) (plainFor_of_name pn_6) (fun m => by first | (simp [entryFrame, mkF, argsToLocals, Value.category]; done) | rfl) ?_
  intro p e s m below meth c T0 hx hby hml hown hnm hret hlk hZ X0 e0
  have N0 := Fr.nil n0
  replace hown : s.vm.findClass "java/lang/String" = some m.cls := hown
  show Run p e below _ (T0.setTop (mkF m 0 #[.val (.ref x), .val (.ref da), .val (.int (Int32.ofNat (cs).length)), .val (.int (0 : Int32))] []))
  have K0 := Keep.refl h0 [da]
  refine go (fun _ => XS.aloadN X0.here hx rfl (hb hby d_j42_m147_0) rfl rfl) ?_
  show Run p e below _ (T0.setTop (mkF m 1 #[.val (.ref x), .val (.ref da), .val (.int (Int32.ofNat (cs).length)), .val (.int (0 : Int32))] [(.ref x)]))
  refine callVi X0 hx hZ hown (wd hw 65 rfl) (wd hw 66 rfl) (notFace_of_selects (args := #[]) (mvT hZ (wd hw 68 rfl))) (wd hw 68 rfl) (wd hw 67 rfl) (wd hw 69 rfl) (wd hw 37 rfl) (by decide) e0 T_x.1 (argsL := []) (rest := []) (rm_cod l Z a0 hw [] zc x t kb ds h0 n0 O0 S_COMPACT_STRINGS hzc T_x) (W := 0) (by decide) (by decide) (by decide) (by decide) (by rw [hml]; rfl) (lenOf pd_2 rfl) rfl (Nat.le_of_eq rfl) (hb hby d_j42_m147_1) ?_
  intro v82 T82 L82 h82 X82 e82 q82
  obtain ⟨rv, n82, k82⟩ := q82
  replace rv : v82 = some (.int (0 : Int32)) := rv
  subst rv
  have e82 := e82.trans k82
  have N82 := Fr.app N0 n82
  show Run p e below _ (T82.setTop (mkF m 4 #[.val (.ref x), .val (.ref da), .val (.int (Int32.ofNat (cs).length)), .val (.int (0 : Int32))] [(.int (0 : Int32))]))
  refine go (fun _ => XS.iloadN X82.here hx rfl (hb hby d_j42_m147_4) rfl) ?_
  show Run p e below _ (T82.setTop (mkF m 5 #[.val (.ref x), .val (.ref da), .val (.int (Int32.ofNat (cs).length)), .val (.int (0 : Int32))] [(.int (0 : Int32)), (.int (0 : Int32))]))
  refine go (fun _ => XS.icmpNo X82.here hx rfl (hb hby d_j42_m147_5) rfl (teq (by decide : (0 : Int32) = 0)).2) ?_
  show Run p e below _ (T82.setTop (mkF m 8 #[.val (.ref x), .val (.ref da), .val (.int (Int32.ofNat (cs).length)), .val (.int (0 : Int32))] []))
  refine go (fun _ => XS.aloadN X82.here hx rfl (hb hby d_j42_m147_8) rfl rfl) ?_
  show Run p e below _ (T82.setTop (mkF m 9 #[.val (.ref x), .val (.ref da), .val (.int (Int32.ofNat (cs).length)), .val (.int (0 : Int32))] [(.ref x)]))
  obtain ⟨T83, X83, e83, st83⟩ := getF X82 hx hZ hown (host := "") (Or.inl (wd hw 64 rfl)) Via.refl e82 T_x.2.1 (g := (mkF m 9 #[.val (.ref x), .val (.ref da), .val (.int (Int32.ofNat (cs).length)), .val (.int (0 : Int32))] [(.ref x)])) rfl rfl (hb hby d_j42_m147_9)
  refine go st83 ?_
  show Run p e below _ (T83.setTop (mkF m 12 #[.val (.ref x), .val (.ref da), .val (.int (Int32.ofNat (cs).length)), .val (.int (0 : Int32))] [(.ref t)]))
  refine go (fun _ => XS.iconst X83.here hx rfl (hb hby d_j42_m147_12)) ?_
  show Run p e below _ (T83.setTop (mkF m 13 #[.val (.ref x), .val (.ref da), .val (.int (Int32.ofNat (cs).length)), .val (.int (0 : Int32))] [(.int (0 : Int32)), (.ref t)]))
  refine go (fun _ => XS.aloadN X83.here hx rfl (hb hby d_j42_m147_13) rfl rfl) ?_
  show Run p e below _ (T83.setTop (mkF m 14 #[.val (.ref x), .val (.ref da), .val (.int (Int32.ofNat (cs).length)), .val (.int (0 : Int32))] [(.ref da), (.int (0 : Int32)), (.ref t)]))
  refine go (fun _ => XS.iloadN X83.here hx rfl (hb hby d_j42_m147_14) rfl) ?_
  show Run p e below _ (T83.setTop (mkF m 15 #[.val (.ref x), .val (.ref da), .val (.int (Int32.ofNat (cs).length)), .val (.int (0 : Int32))] [(.int (Int32.ofNat (cs).length)), (.ref da), (.int (0 : Int32)), (.ref t)]))
  refine go (fun _ => XS.iloadN X83.here hx rfl (hb hby d_j42_m147_15) rfl) ?_
  show Run p e below _ (T83.setTop (mkF m 16 #[.val (.ref x), .val (.ref da), .val (.int (Int32.ofNat (cs).length)), .val (.int (0 : Int32))] [(.int (0 : Int32)), (.int (Int32.ofNat (cs).length)), (.ref da), (.int (0 : Int32)), (.ref t)]))
  refine go (fun _ => XS.ishl X83.here hx rfl (hb hby d_j42_m147_16) rfl) ?_
  rw [own_shl0]
  show Run p e below _ (T83.setTop (mkF m 17 #[.val (.ref x), .val (.ref da), .val (.int (Int32.ofNat (cs).length)), .val (.int (0 : Int32))] [(.int (Int32.ofNat (cs).length)), (.ref da), (.int (0 : Int32)), (.ref t)]))
  refine go (fun _ => XS.aloadN X83.here hx rfl (hb hby d_j42_m147_17) rfl rfl) ?_
  show Run p e below _ (T83.setTop (mkF m 18 #[.val (.ref x), .val (.ref da), .val (.int (Int32.ofNat (cs).length)), .val (.int (0 : Int32))] [(.ref x), (.int (Int32.ofNat (cs).length)), (.ref da), (.int (0 : Int32)), (.ref t)]))
  obtain ⟨T84, X84, e84, st84⟩ := getF X83 hx hZ hown (host := "") (Or.inl (wd hw 64 rfl)) Via.refl e83 T_x.2.1 (g := (mkF m 18 #[.val (.ref x), .val (.ref da), .val (.int (Int32.ofNat (cs).length)), .val (.int (0 : Int32))] [(.ref x), (.int (Int32.ofNat (cs).length)), (.ref da), (.int (0 : Int32)), (.ref t)])) rfl rfl (hb hby d_j42_m147_18)
  refine go st84 ?_
  show Run p e below _ (T84.setTop (mkF m 21 #[.val (.ref x), .val (.ref da), .val (.int (Int32.ofNat (cs).length)), .val (.int (0 : Int32))] [(.ref t), (.int (Int32.ofNat (cs).length)), (.ref da), (.int (0 : Int32)), (.ref t)]))
  obtain ⟨cl85, Ar85, ak85, as85, an85, ah85, ag85⟩ := id T_x.2.2.2
  refine go (fun _ => X84.arraylength hx (by rw [e84]; exact Ar85.1) (State.isArrayOf_alike hZ.alike Ar85.2.1) (g := (mkF m 21 #[.val (.ref x), .val (.ref da), .val (.int (Int32.ofNat (cs).length)), .val (.int (0 : Int32))] [(.ref t), (.int (Int32.ofNat (cs).length)), (.ref da), (.int (0 : Int32)), (.ref t)])) rfl rfl (hb hby d_j42_m147_21) _) ?_
  rw [len_of as85 an85]
  show Run p e below _ (T84.setTop (mkF m 22 #[.val (.ref x), .val (.ref da), .val (.int (Int32.ofNat (cs).length)), .val (.int (0 : Int32))] [(.int (Int32.ofNat (ds).length)), (.int (Int32.ofNat (cs).length)), (.ref da), (.int (0 : Int32)), (.ref t)]))
  have ne_x_da : x ≠ da := ne_exa T_x.1 E_da (by decide)
  have lt87_da := V_da.lt
  have lt87_x := T_x.1.lt
  have lt87_t := T_x.2.2.2.lt
  obtain ⟨T86, h86, L86, X86, e86, N86, K86, V_da, st86⟩ := cpB X84 hx hZ hown (wd hw 121 rfl) (wd hw 104 rfl) (wd hw 102 rfl) (wd hw 103 rfl) e84 (us := ds) (cs := cs) T_x.2.2.2 V_da (dp := (Int32.ofNat (cs).length)) (nn := (Int32.ofNat (ds).length)) (own_cl (by omega)) (own_nn (by omega)) (own_nn (by omega)) (by rw [own_cl (by omega)]; exact Nat.le_refl _) (Nat.le_refl _) (by rw [own_cl (by omega)]; exact hbd) N82 g_da (g := (mkF m 22 #[.val (.ref x), .val (.ref da), .val (.int (Int32.ofNat (cs).length)), .val (.int (0 : Int32))] [(.int (Int32.ofNat (ds).length)), (.int (Int32.ofNat (cs).length)), (.ref da), (.int (0 : Int32)), (.ref t)])) rfl (by rw [hml]; rfl) rfl (hb hby d_j42_m147_22) (by decide) (W := 0) (Nat.le_of_eq rfl) (by decide)
  have O0 := O0.keep K86 (allS g_da all0)
  have E_da := E_da.keep K86
  have T_x := T_x.keep K86 (ninS ne_x_da nin0) (ninS (Ne.symm ne_da_t) nin0)
  have K0 := K0.trans K86 (allS (Or.inl (by simp)) all0)
  refine go st86 ?_
  show Run p e below _ (T86.setTop (mkF m 25 #[.val (.ref x), .val (.ref da), .val (.int (Int32.ofNat (cs).length)), .val (.int (0 : Int32))] []))
  refine go (fun _ => XS.goto X86.here hx rfl (pc0 := 25) (pc' := 43) rfl (hb hby d_j42_m147_25) (by decide) (by decide)) ?_
  show Run p e below _ (T86.setTop (mkF m 43 #[.val (.ref x), .val (.ref da), .val (.int (Int32.ofNat (cs).length)), .val (.int (0 : Int32))] []))
  exact endV X86 hx hlk hret (hb hby d_j42_m147_43) (by rw [e86]; exact ⟨rfl, N86, K0, V_da⟩) (by decide) (by decide)
theorem d_j68_m73_0 : decode jdk_68_method_73_code 0 = .ok (.aload_n 0, 1) := by decide +kernel
theorem d_j68_m73_1 : decode jdk_68_method_73_code 1 = .ok (.aload_n 2, 1) := by decide +kernel
theorem d_j68_m73_2 : decode jdk_68_method_73_code 2 = .ok (.invokevirtual 397, 3) := by decide +kernel
theorem pd_11 : parseMethodDescriptor "(Ljava/lang/String;)V" = some ⟨[(.object "java/lang/String")], none⟩ := by decide +kernel
theorem d_j68_m73_5 : decode jdk_68_method_73_code 5 = .ok (.aload_n 2, 1) := by decide +kernel
theorem d_j68_m73_6 : decode jdk_68_method_73_code 6 = .ok (.aload_n 0, 1) := by decide +kernel
theorem d_j68_m73_7 : decode jdk_68_method_73_code 7 = .ok (.getfield 15, 3) := by decide +kernel
theorem d_j68_m73_10 : decode jdk_68_method_73_code 10 = .ok (.iload_n 1, 1) := by decide +kernel
theorem d_j68_m73_11 : decode jdk_68_method_73_code 11 = .ok (.aload_n 0, 1) := by decide +kernel
theorem d_j68_m73_12 : decode jdk_68_method_73_code 12 = .ok (.getfield 22, 3) := by decide +kernel
theorem d_j68_m73_15 : decode jdk_68_method_73_code 15 = .ok (.invokevirtual 399, 3) := by decide +kernel
theorem pd_12 : parseMethodDescriptor "([BIB)V" = some ⟨[(.array .byte), .int, .byte], none⟩ := by decide +kernel
theorem d_j68_m73_18 : decode jdk_68_method_73_code 18 = .ok (.return_, 1) := by decide +kernel
def Q_rm_psa (Z : State) (zc : Int32) (b da : Addr) (kd : ClassId) (z : Int32) (cs : List Int32) (x t : Addr) (kb : ClassId) (ds : List Int32) (h0 : Heap) (n0 : Nat) (v : Option Value) (h : Heap) (L : List Loc) : Prop := v = none ∧ Fr n0 L ∧ Keep h0 h [da] ∧ Arv Z h da kd .byte z (BY (cs ++ ds)) (.int 0)
set_option maxRecDepth 65536 in
set_option maxHeartbeats 40000000 in
theorem rm_psa (l : Launch) (Z : State) (a0 : Array Value) (hw : ∀ d ∈ tables_1, d.before a0 Z = true) (ws : List Jvm.Cond) (zc : Int32) (b da : Addr) (kd : ClassId) (z : Int32) (cs : List Int32) (x t : Addr) (kb : ClassId) (ds : List Int32) (h0 : Heap) (n0 : Nat) (O0 : Old Z n0 h0) (S_COMPACT_STRINGS : Sta Z Z.heap "java/lang/String" "COMPACT_STRINGS" "Z" (.int zc)) (hzc : ¬ zc = 0) (E_b : Exa Z h0 b "java/lang/StringBuilder") (F_value_b : Fld Z h0 b "java/lang/AbstractStringBuilder" "value" "[B" (.ref da)) (F_coder_b : Fld Z h0 b "java/lang/AbstractStringBuilder" "coder" "B" (.int (0 : Int32))) (F_count_b : Fld Z h0 b "java/lang/AbstractStringBuilder" "count" "I" (.int (Int32.ofNat (cs).length))) (V_da : Arv Z h0 da kd .byte z (BY cs) (.int 0)) (E_da : Exa Z h0 da "[B") (g_b : n0 ≤ b) (g_da : n0 ≤ da) (T_x : Str Z h0 x t kb ds) (ne_da_t : da ≠ t) (hbd : cs.length + ds.length ≤ z.toNatClampNeg) (hcl : cs.length < 1000) (hdl : ds.length < 1000) :
    Meets l (⟨"java/lang/AbstractStringBuilder", "putStringAt", "(ILjava/lang/String;)V"⟩ : MethodName) jdk_68_method_73_code 3 none ws ({ frames := 2, cells := 0, slots := 0, locals := 55 } : Room) Z #[(.ref b), (.int (Int32.ofNat (cs).length)), (.ref x)] h0 (Q_rm_psa Z zc b da kd z cs x t kb ds h0 n0) 0 0 := by
  refine enter (Ls := #[.val (.ref b), .val (.int (Int32.ofNat (cs).length)), .val (.ref x)]) (plainFor_of_name pn_2) (fun m => by first | (simp [entryFrame, mkF, argsToLocals, Value.category]; done) | rfl) ?_
  intro p e s m below meth c T0 hx hby hml hown hnm hret hlk hZ X0 e0
  have N0 := Fr.nil n0
  replace hown : s.vm.findClass "java/lang/AbstractStringBuilder" = some m.cls := hown
  show Run p e below _ (T0.setTop (mkF m 0 #[.val (.ref b), .val (.int (Int32.ofNat (cs).length)), .val (.ref x)] []))
  have K0 := Keep.refl h0 [da]
  refine go (fun _ => XS.aloadN X0.here hx rfl (hb hby d_j68_m73_0) rfl rfl) ?_
  show Run p e below _ (T0.setTop (mkF m 1 #[.val (.ref b), .val (.int (Int32.ofNat (cs).length)), .val (.ref x)] [(.ref b)]))
  refine go (fun _ => XS.aloadN X0.here hx rfl (hb hby d_j68_m73_1) rfl rfl) ?_
  show Run p e below _ (T0.setTop (mkF m 2 #[.val (.ref b), .val (.int (Int32.ofNat (cs).length)), .val (.ref x)] [(.ref x), (.ref b)]))
  refine callVi X0 hx hZ hown (wd hw 110 rfl) (own_decl (wd hw 111 rfl) (wd hw 114 rfl)) (notFace_of_selects (args := #[]) (mvT hZ (wd hw 113 rfl))) (wd hw 113 rfl) (wd hw 111 rfl) (wd hw 114 rfl) (wd hw 33 rfl) (by decide) e0 E_b (argsL := [(.ref x)]) (rest := []) (rm_inf l Z a0 hw [] zc b da kd z cs x t kb ds h0 n0 O0 S_COMPACT_STRINGS hzc E_b F_value_b F_coder_b F_count_b V_da E_da g_b g_da T_x) (W := 0) (by decide) (by decide) (by decide) (by decide) (by rw [hml]; rfl) (lenOf pd_11 rfl) rfl (Nat.le_of_eq rfl) (hb hby d_j68_m73_2) ?_
  intro v88 T88 L88 h88 X88 e88 q88
  obtain ⟨rfl, n88, k88⟩ := q88
  have e88 := e88.trans k88
  have N88 := Fr.app N0 n88
  show Run p e below _ (T88.setTop (mkF m 5 #[.val (.ref b), .val (.int (Int32.ofNat (cs).length)), .val (.ref x)] []))
  refine go (fun _ => XS.aloadN X88.here hx rfl (hb hby d_j68_m73_5) rfl rfl) ?_
  show Run p e below _ (T88.setTop (mkF m 6 #[.val (.ref b), .val (.int (Int32.ofNat (cs).length)), .val (.ref x)] [(.ref x)]))
  refine go (fun _ => XS.aloadN X88.here hx rfl (hb hby d_j68_m73_6) rfl rfl) ?_
  show Run p e below _ (T88.setTop (mkF m 7 #[.val (.ref b), .val (.int (Int32.ofNat (cs).length)), .val (.ref x)] [(.ref b), (.ref x)]))
  obtain ⟨T89, X89, e89, st89⟩ := getF X88 hx hZ hown (host := "") (Or.inl (wd hw 39 rfl)) Via.refl e88 F_value_b (g := (mkF m 7 #[.val (.ref b), .val (.int (Int32.ofNat (cs).length)), .val (.ref x)] [(.ref b), (.ref x)])) rfl rfl (hb hby d_j68_m73_7)
  refine go st89 ?_
  show Run p e below _ (T89.setTop (mkF m 10 #[.val (.ref b), .val (.int (Int32.ofNat (cs).length)), .val (.ref x)] [(.ref da), (.ref x)]))
  refine go (fun _ => XS.iloadN X89.here hx rfl (hb hby d_j68_m73_10) rfl) ?_
  show Run p e below _ (T89.setTop (mkF m 11 #[.val (.ref b), .val (.int (Int32.ofNat (cs).length)), .val (.ref x)] [(.int (Int32.ofNat (cs).length)), (.ref da), (.ref x)]))
  refine go (fun _ => XS.aloadN X89.here hx rfl (hb hby d_j68_m73_11) rfl rfl) ?_
  show Run p e below _ (T89.setTop (mkF m 12 #[.val (.ref b), .val (.int (Int32.ofNat (cs).length)), .val (.ref x)] [(.ref b), (.int (Int32.ofNat (cs).length)), (.ref da), (.ref x)]))
  obtain ⟨T90, X90, e90, st90⟩ := getF X89 hx hZ hown (host := "") (Or.inl (wd hw 41 rfl)) Via.refl e89 F_coder_b (g := (mkF m 12 #[.val (.ref b), .val (.int (Int32.ofNat (cs).length)), .val (.ref x)] [(.ref b), (.int (Int32.ofNat (cs).length)), (.ref da), (.ref x)])) rfl rfl (hb hby d_j68_m73_12)
  refine go st90 ?_
  show Run p e below _ (T90.setTop (mkF m 15 #[.val (.ref b), .val (.int (Int32.ofNat (cs).length)), .val (.ref x)] [(.int (0 : Int32)), (.int (Int32.ofNat (cs).length)), (.ref da), (.ref x)]))
  refine callVi X90 hx hZ hown (wd hw 116 rfl) (wd hw 117 rfl) (notFace_of_selects (args := #[]) (mvT hZ (wd hw 119 rfl))) (wd hw 119 rfl) (wd hw 118 rfl) (wd hw 120 rfl) (wd hw 37 rfl) (by decide) e90 T_x.1 (argsL := [(.ref da), (.int (Int32.ofNat (cs).length)), (.int (0 : Int32))]) (rest := []) (rm_gb l Z a0 hw [] zc da kd z cs x t kb ds h0 n0 O0 S_COMPACT_STRINGS hzc V_da E_da g_da T_x ne_da_t hbd hcl hdl) (W := 0) (by decide) (by decide) (by decide) (by decide) (by rw [hml]; rfl) (lenOf pd_12 rfl) rfl (Nat.le_of_eq rfl) (hb hby d_j68_m73_15) ?_
  intro v91 T91 L91 h91 X91 e91 q91
  have ne_b_da : b ≠ da := ne_exa E_b E_da (by decide)
  have ne_x_da : x ≠ da := ne_exa T_x.1 E_da (by decide)
  obtain ⟨rfl, n91, K91, V_da⟩ := q91
  have O0 := O0.keep K91 (allS g_da all0)
  have E_b := E_b.keep K91
  have F_value_b := F_value_b.keep K91 (ninS ne_b_da nin0)
  have F_coder_b := F_coder_b.keep K91 (ninS ne_b_da nin0)
  have F_count_b := F_count_b.keep K91 (ninS ne_b_da nin0)
  have E_da := E_da.keep K91
  have T_x := T_x.keep K91 (ninS ne_x_da nin0) (ninS (Ne.symm ne_da_t) nin0)
  have K0 := K0.trans K91 (allS (Or.inl (by simp)) all0)
  have N91 := Fr.app N88 n91
  show Run p e below _ (T91.setTop (mkF m 18 #[.val (.ref b), .val (.int (Int32.ofNat (cs).length)), .val (.ref x)] []))
  exact endV X91 hx hlk hret (hb hby d_j68_m73_18) (by rw [e91]; exact ⟨rfl, N91, K0, V_da⟩) (by decide) (by decide)
theorem d_j68_m22_0 : decode jdk_68_method_22_code 0 = .ok (.aload_n 1, 1) := by decide +kernel
theorem d_j68_m22_1 : decode jdk_68_method_22_code 1 = .ok (.ifnonnull 8, 3) := by decide +kernel
theorem d_j68_m22_9 : decode jdk_68_method_22_code 9 = .ok (.aload_n 1, 1) := by decide +kernel
theorem d_j68_m22_10 : decode jdk_68_method_22_code 10 = .ok (.invokevirtual 32, 3) := by decide +kernel
theorem pd_13 : parseMethodDescriptor "()I" = some ⟨[], some .int⟩ := by decide +kernel
theorem d_j68_m22_13 : decode jdk_68_method_22_code 13 = .ok (.istore_n 2, 1) := by decide +kernel
theorem d_j68_m22_14 : decode jdk_68_method_22_code 14 = .ok (.aload_n 0, 1) := by decide +kernel
theorem d_j68_m22_15 : decode jdk_68_method_22_code 15 = .ok (.aload_n 0, 1) := by decide +kernel
theorem d_j68_m22_16 : decode jdk_68_method_22_code 16 = .ok (.getfield 79, 3) := by decide +kernel
theorem d_j68_m22_19 : decode jdk_68_method_22_code 19 = .ok (.iload_n 2, 1) := by decide +kernel
theorem d_j68_m22_20 : decode jdk_68_method_22_code 20 = .ok (.iadd, 1) := by decide +kernel
theorem d_j68_m22_21 : decode jdk_68_method_22_code 21 = .ok (.invokevirtual 100, 3) := by decide +kernel
theorem d_j68_m22_24 : decode jdk_68_method_22_code 24 = .ok (.aload_n 0, 1) := by decide +kernel
theorem d_j68_m22_25 : decode jdk_68_method_22_code 25 = .ok (.aload_n 0, 1) := by decide +kernel
theorem d_j68_m22_26 : decode jdk_68_method_22_code 26 = .ok (.getfield 79, 3) := by decide +kernel
theorem d_j68_m22_29 : decode jdk_68_method_22_code 29 = .ok (.aload_n 1, 1) := by decide +kernel
theorem d_j68_m22_30 : decode jdk_68_method_22_code 30 = .ok (.invokevirtual 208, 3) := by decide +kernel
theorem pd_14 : parseMethodDescriptor "(ILjava/lang/String;)V" = some ⟨[.int, (.object "java/lang/String")], none⟩ := by decide +kernel
theorem d_j68_m22_33 : decode jdk_68_method_22_code 33 = .ok (.aload_n 0, 1) := by decide +kernel
theorem d_j68_m22_34 : decode jdk_68_method_22_code 34 = .ok (.dup, 1) := by decide +kernel
theorem d_j68_m22_35 : decode jdk_68_method_22_code 35 = .ok (.getfield 79, 3) := by decide +kernel
theorem d_j68_m22_38 : decode jdk_68_method_22_code 38 = .ok (.iload_n 2, 1) := by decide +kernel
theorem d_j68_m22_39 : decode jdk_68_method_22_code 39 = .ok (.iadd, 1) := by decide +kernel
theorem d_j68_m22_40 : decode jdk_68_method_22_code 40 = .ok (.putfield 79, 3) := by decide +kernel
theorem d_j68_m22_43 : decode jdk_68_method_22_code 43 = .ok (.aload_n 0, 1) := by decide +kernel
theorem d_j68_m22_44 : decode jdk_68_method_22_code 44 = .ok (.areturn, 1) := by decide +kernel
def Q_rm_as0_16 (Z : State) (zc : Int32) (b da : Addr) (kd : ClassId) (cs : List Int32) (x t : Addr) (kb : ClassId) (ds : List Int32) (h0 : Heap) (n0 : Nat) (v : Option Value) (h : Heap) (L : List Loc) : Prop := v = some (.ref b) ∧ Fr n0 L ∧ Keep h0 h [b, da] ∧ Fld Z h b "java/lang/AbstractStringBuilder" "value" "[B" (.ref da) ∧ Fld Z h b "java/lang/AbstractStringBuilder" "coder" "B" (.int (0 : Int32)) ∧ Fld Z h b "java/lang/AbstractStringBuilder" "count" "I" (.int (Int32.ofNat ((cs ++ ds)).length)) ∧ Arv Z h da kd .byte (16 : Int32) (BY (cs ++ ds)) (.int 0)
set_option maxRecDepth 65536 in
set_option maxHeartbeats 40000000 in
theorem rm_as0_16 (l : Launch) (Z : State) (a0 : Array Value) (hw : ∀ d ∈ tables_1, d.before a0 Z = true) (ws : List Jvm.Cond) (zc : Int32) (b da : Addr) (kd : ClassId) (cs : List Int32) (x t : Addr) (kb : ClassId) (ds : List Int32) (h0 : Heap) (n0 : Nat) (O0 : Old Z n0 h0) (S_COMPACT_STRINGS : Sta Z Z.heap "java/lang/String" "COMPACT_STRINGS" "Z" (.int zc)) (hzc : ¬ zc = 0) (E_b : Exa Z h0 b "java/lang/StringBuilder") (F_value_b : Fld Z h0 b "java/lang/AbstractStringBuilder" "value" "[B" (.ref da)) (F_coder_b : Fld Z h0 b "java/lang/AbstractStringBuilder" "coder" "B" (.int (0 : Int32))) (F_count_b : Fld Z h0 b "java/lang/AbstractStringBuilder" "count" "I" (.int (Int32.ofNat (cs).length))) (V_da : Arv Z h0 da kd .byte (16 : Int32) (BY cs) (.int 0)) (E_da : Exa Z h0 da "[B") (g_b : n0 ≤ b) (g_da : n0 ≤ da) (T_x : Str Z h0 x t kb ds) (ne_da_t : da ≠ t) (Hx : In8 ds) (hcs : cs.length ≤ 16) (h1 : cs.length + ds.length ≤ 16) :
    Meets l (⟨"java/lang/AbstractStringBuilder", "append", "(Ljava/lang/String;)Ljava/lang/AbstractStringBuilder;"⟩ : MethodName) jdk_68_method_22_code 3 (some (.object "java/lang/AbstractStringBuilder")) ws ({ frames := 3, cells := 0, slots := 0, locals := 69 } : Room) Z #[(.ref b), (.ref x)] h0 (Q_rm_as0_16 Z zc b da kd cs x t kb ds h0 n0) 0 0 := by
  refine enter (Ls := #[.val (.ref b), .val (.ref x), .unset]) (plainFor_of_name pn_2) (fun m => by first | (simp [entryFrame, mkF, argsToLocals, Value.category]; done) | rfl) ?_
  intro p e s m below meth c T0 hx hby hml hown hnm hret hlk hZ X0 e0
  have N0 := Fr.nil n0
  replace hown : s.vm.findClass "java/lang/AbstractStringBuilder" = some m.cls := hown
  show Run p e below _ (T0.setTop (mkF m 0 #[.val (.ref b), .val (.ref x), .unset] []))
  have K0 := Keep.refl h0 [b, da]
  refine go (fun _ => XS.aloadN X0.here hx rfl (hb hby d_j68_m22_0) rfl rfl) ?_
  show Run p e below _ (T0.setTop (mkF m 1 #[.val (.ref b), .val (.ref x), .unset] [(.ref x)]))
  refine go (fun _ => XS.ifnonnullYes X0.here hx rfl (pc0 := 1) (pc' := 9) rfl (hb hby d_j68_m22_1) rfl (by decide) (by decide)) ?_
  show Run p e below _ (T0.setTop (mkF m 9 #[.val (.ref b), .val (.ref x), .unset] []))
  refine go (fun _ => XS.aloadN X0.here hx rfl (hb hby d_j68_m22_9) rfl rfl) ?_
  show Run p e below _ (T0.setTop (mkF m 10 #[.val (.ref b), .val (.ref x), .unset] [(.ref x)]))
  refine callVi X0 hx hZ hown (wd hw 59 rfl) (wd hw 60 rfl) (notFace_of_selects (args := #[]) (mvT hZ (wd hw 62 rfl))) (wd hw 62 rfl) (wd hw 61 rfl) (wd hw 63 rfl) (wd hw 37 rfl) (by decide) e0 T_x.1 (argsL := []) (rest := []) (rm_len l Z a0 hw [] zc x t kb ds h0 n0 O0 S_COMPACT_STRINGS hzc T_x) (W := 0) (by decide) (by decide) (by decide) (by decide) (by rw [hml]; rfl) (lenOf pd_13 rfl) rfl (Nat.le_of_eq rfl) (hb hby d_j68_m22_10) ?_
  intro v92 T92 L92 h92 X92 e92 q92
  obtain ⟨rv, n92, k92⟩ := q92
  replace rv : v92 = some (.int (Int32.ofNat (ds).length)) := rv
  subst rv
  have e92 := e92.trans k92
  have N92 := Fr.app N0 n92
  show Run p e below _ (T92.setTop (mkF m 13 #[.val (.ref b), .val (.ref x), .unset] [(.int (Int32.ofNat (ds).length))]))
  refine go (fun _ => XS.istoreN X92.here hx rfl (hb hby d_j68_m22_13) rfl (l' := #[.val (.ref b), .val (.ref x), .val (.int (Int32.ofNat (ds).length))]) rfl) ?_
  show Run p e below _ (T92.setTop (mkF m 14 #[.val (.ref b), .val (.ref x), .val (.int (Int32.ofNat (ds).length))] []))
  refine go (fun _ => XS.aloadN X92.here hx rfl (hb hby d_j68_m22_14) rfl rfl) ?_
  show Run p e below _ (T92.setTop (mkF m 15 #[.val (.ref b), .val (.ref x), .val (.int (Int32.ofNat (ds).length))] [(.ref b)]))
  refine go (fun _ => XS.aloadN X92.here hx rfl (hb hby d_j68_m22_15) rfl rfl) ?_
  show Run p e below _ (T92.setTop (mkF m 16 #[.val (.ref b), .val (.ref x), .val (.int (Int32.ofNat (ds).length))] [(.ref b), (.ref b)]))
  obtain ⟨T93, X93, e93, st93⟩ := getF X92 hx hZ hown (host := "") (Or.inl (wd hw 72 rfl)) Via.refl e92 F_count_b (g := (mkF m 16 #[.val (.ref b), .val (.ref x), .val (.int (Int32.ofNat (ds).length))] [(.ref b), (.ref b)])) rfl rfl (hb hby d_j68_m22_16)
  refine go st93 ?_
  show Run p e below _ (T93.setTop (mkF m 19 #[.val (.ref b), .val (.ref x), .val (.int (Int32.ofNat (ds).length))] [(.int (Int32.ofNat (cs).length)), (.ref b)]))
  refine go (fun _ => XS.iloadN X93.here hx rfl (hb hby d_j68_m22_19) rfl) ?_
  show Run p e below _ (T93.setTop (mkF m 20 #[.val (.ref b), .val (.ref x), .val (.int (Int32.ofNat (ds).length))] [(.int (Int32.ofNat (ds).length)), (.int (Int32.ofNat (cs).length)), (.ref b)]))
  refine go (fun _ => XS.iadd X93.here hx rfl (hb hby d_j68_m22_20) rfl) ?_
  rw [own_add]
  show Run p e below _ (T93.setTop (mkF m 21 #[.val (.ref b), .val (.ref x), .val (.int (Int32.ofNat (ds).length))] [(.int (Int32.ofNat ((cs).length + (ds).length))), (.ref b)]))
  refine callVi X93 hx hZ hown (wd hw 74 rfl) (own_decl (wd hw 75 rfl) (wd hw 78 rfl)) (notFace_of_selects (args := #[]) (mvT hZ (wd hw 77 rfl))) (wd hw 77 rfl) (wd hw 75 rfl) (wd hw 78 rfl) (wd hw 33 rfl) (by decide) e93 E_b (argsL := [(.int (Int32.ofNat ((cs).length + (ds).length)))]) (rest := []) (rm_en0_16 l Z a0 hw [] b da kd cs (cs.length + ds.length) h0 n0 O0 E_b F_value_b F_coder_b F_count_b V_da E_da g_b g_da (by omega) (by have k1_ : (16 : Int32).toInt = 16 := (by decide); have k2_ : (18 : Int32).toInt = 18 := (by decide); omega)) (W := 0) (by decide) (by decide) (by decide) (by decide) (by rw [hml]; rfl) (lenOf pd_1 rfl) rfl (Nat.le_of_eq rfl) (hb hby d_j68_m22_21) ?_
  intro v94 T94 L94 h94 X94 e94 q94
  obtain ⟨rfl, n94, k94⟩ := q94
  have e94 := e94.trans k94
  have N94 := Fr.app N92 n94
  show Run p e below _ (T94.setTop (mkF m 24 #[.val (.ref b), .val (.ref x), .val (.int (Int32.ofNat (ds).length))] []))
  refine go (fun _ => XS.aloadN X94.here hx rfl (hb hby d_j68_m22_24) rfl rfl) ?_
  show Run p e below _ (T94.setTop (mkF m 25 #[.val (.ref b), .val (.ref x), .val (.int (Int32.ofNat (ds).length))] [(.ref b)]))
  refine go (fun _ => XS.aloadN X94.here hx rfl (hb hby d_j68_m22_25) rfl rfl) ?_
  show Run p e below _ (T94.setTop (mkF m 26 #[.val (.ref b), .val (.ref x), .val (.int (Int32.ofNat (ds).length))] [(.ref b), (.ref b)]))
  obtain ⟨T95, X95, e95, st95⟩ := getF X94 hx hZ hown (host := "") (Or.inl (wd hw 72 rfl)) Via.refl e94 F_count_b (g := (mkF m 26 #[.val (.ref b), .val (.ref x), .val (.int (Int32.ofNat (ds).length))] [(.ref b), (.ref b)])) rfl rfl (hb hby d_j68_m22_26)
  refine go st95 ?_
  show Run p e below _ (T95.setTop (mkF m 29 #[.val (.ref b), .val (.ref x), .val (.int (Int32.ofNat (ds).length))] [(.int (Int32.ofNat (cs).length)), (.ref b)]))
  refine go (fun _ => XS.aloadN X95.here hx rfl (hb hby d_j68_m22_29) rfl rfl) ?_
  show Run p e below _ (T95.setTop (mkF m 30 #[.val (.ref b), .val (.ref x), .val (.int (Int32.ofNat (ds).length))] [(.ref x), (.int (Int32.ofNat (cs).length)), (.ref b)]))
  refine callVi X95 hx hZ hown (wd hw 105 rfl) (own_decl (wd hw 106 rfl) (wd hw 109 rfl)) (notFace_of_selects (args := #[]) (mvT hZ (wd hw 108 rfl))) (wd hw 108 rfl) (wd hw 106 rfl) (wd hw 109 rfl) (wd hw 33 rfl) (by decide) e95 E_b (argsL := [(.int (Int32.ofNat (cs).length)), (.ref x)]) (rest := []) (rm_psa l Z a0 hw [] zc b da kd (16 : Int32) cs x t kb ds h0 n0 O0 S_COMPACT_STRINGS hzc E_b F_value_b F_coder_b F_count_b V_da E_da g_b g_da T_x ne_da_t (by show _ ≤ 16; omega) (by omega) (by omega)) (W := 0) (by decide) (by decide) (by decide) (by decide) (by rw [hml]; rfl) (lenOf pd_14 rfl) rfl (Nat.le_of_eq rfl) (hb hby d_j68_m22_30) ?_
  intro v96 T96 L96 h96 X96 e96 q96
  have ne_b_da : b ≠ da := ne_exa E_b E_da (by decide)
  have ne_x_da : x ≠ da := ne_exa T_x.1 E_da (by decide)
  obtain ⟨rfl, n96, K96, V_da⟩ := q96
  have O0 := O0.keep K96 (allS g_da all0)
  have E_b := E_b.keep K96
  have F_value_b := F_value_b.keep K96 (ninS ne_b_da nin0)
  have F_coder_b := F_coder_b.keep K96 (ninS ne_b_da nin0)
  have F_count_b := F_count_b.keep K96 (ninS ne_b_da nin0)
  have E_da := E_da.keep K96
  have T_x := T_x.keep K96 (ninS ne_x_da nin0) (ninS (Ne.symm ne_da_t) nin0)
  have K0 := K0.trans K96 (allS (Or.inl (by simp)) all0)
  have N96 := Fr.app N94 n96
  show Run p e below _ (T96.setTop (mkF m 33 #[.val (.ref b), .val (.ref x), .val (.int (Int32.ofNat (ds).length))] []))
  refine go (fun _ => XS.aloadN X96.here hx rfl (hb hby d_j68_m22_33) rfl rfl) ?_
  show Run p e below _ (T96.setTop (mkF m 34 #[.val (.ref b), .val (.ref x), .val (.int (Int32.ofNat (ds).length))] [(.ref b)]))
  refine go (fun _ => XS.dup X96.here hx rfl (hb hby d_j68_m22_34) rfl rfl) ?_
  show Run p e below _ (T96.setTop (mkF m 35 #[.val (.ref b), .val (.ref x), .val (.int (Int32.ofNat (ds).length))] [(.ref b), (.ref b)]))
  obtain ⟨T97, X97, e97, st97⟩ := getF X96 hx hZ hown (host := "") (Or.inl (wd hw 72 rfl)) Via.refl e96 F_count_b (g := (mkF m 35 #[.val (.ref b), .val (.ref x), .val (.int (Int32.ofNat (ds).length))] [(.ref b), (.ref b)])) rfl rfl (hb hby d_j68_m22_35)
  refine go st97 ?_
  show Run p e below _ (T97.setTop (mkF m 38 #[.val (.ref b), .val (.ref x), .val (.int (Int32.ofNat (ds).length))] [(.int (Int32.ofNat (cs).length)), (.ref b)]))
  refine go (fun _ => XS.iloadN X97.here hx rfl (hb hby d_j68_m22_38) rfl) ?_
  show Run p e below _ (T97.setTop (mkF m 39 #[.val (.ref b), .val (.ref x), .val (.int (Int32.ofNat (ds).length))] [(.int (Int32.ofNat (ds).length)), (.int (Int32.ofNat (cs).length)), (.ref b)]))
  refine go (fun _ => XS.iadd X97.here hx rfl (hb hby d_j68_m22_39) rfl) ?_
  rw [own_add]
  show Run p e below _ (T97.setTop (mkF m 40 #[.val (.ref b), .val (.ref x), .val (.int (Int32.ofNat (ds).length))] [(.int (Int32.ofNat ((cs).length + (ds).length))), (.ref b)]))
  obtain ⟨T98, h98, X98, e98, W98, st98⟩ := putF X97 hx hZ hown (host := "") (Or.inl (wd hw 72 rfl)) Via.refl e97 F_count_b E_b (Or.inl (wd hw 73 rfl)) (wd hw 24 rfl) (ty := .int) (by decide) rfl rfl (g := (mkF m 40 #[.val (.ref b), .val (.ref x), .val (.int (Int32.ofNat (ds).length))] [(.int (Int32.ofNat ((cs).length + (ds).length))), (.ref b)])) rfl rfl (hb hby d_j68_m22_40)
  have ne_x_b : x ≠ b := ne_exa T_x.1 E_b (by decide)
  have ne_t_b : t ≠ b := Ne.symm (Exa.neArv E_b T_x.2.2.2 (wd hw 24 rfl))
  have O0 := O0.wr W98 g_b
  have E_b := E_b.wr W98
  have F_value_b := F_value_b.other W98 (Or.inr (slot_ne (Or.inl (wd hw 40 rfl)) (Or.inl (wd hw 73 rfl)) (by decide) (t := (.array .byte)) (t' := .int) (by decide) (by decide)))
  have F_coder_b := F_coder_b.other W98 (Or.inr (slot_ne (Or.inl (wd hw 42 rfl)) (Or.inl (wd hw 73 rfl)) (by decide) (t := .byte) (t' := .int) (by decide) (by decide)))
  have F_count_b := F_count_b.same W98
  have E_da := E_da.wr W98
  have T_x := T_x.other W98 ne_x_b ne_t_b
  have K0 := K0.wr W98 (Or.inl (by simp))
  have V_da := V_da.other W98 (Ne.symm ne_b_da)
  have N98 := Fr.snoc X98 N96 g_b
  refine go st98 ?_
  show Run p e below _ (T98.setTop (mkF m 43 #[.val (.ref b), .val (.ref x), .val (.int (Int32.ofNat (ds).length))] []))
  refine go (fun _ => XS.aloadN X98.here hx rfl (hb hby d_j68_m22_43) rfl rfl) ?_
  show Run p e below _ (T98.setTop (mkF m 44 #[.val (.ref b), .val (.ref x), .val (.int (Int32.ofNat (ds).length))] [(.ref b)]))
  have F_count_b := (show Fld Z _ b "java/lang/AbstractStringBuilder" "count" "I" (.int (Int32.ofNat (cs ++ ds).length)) by rw [List.length_append]; exact F_count_b)
  exact endA X98 hx hlk (w := (.ref b)) hret rfl rfl (hb hby d_j68_m22_44) (by rw [e98]; exact ⟨rfl, N98, K0, F_value_b, F_coder_b, F_count_b, V_da⟩) (by decide) (by decide)
theorem d_j67_m7_0 : decode jdk_67_method_7_code 0 = .ok (.aload_n 0, 1) := by decide +kernel
theorem d_j67_m7_1 : decode jdk_67_method_7_code 1 = .ok (.aload_n 1, 1) := by decide +kernel
theorem d_j67_m7_2 : decode jdk_67_method_7_code 2 = .ok (.invokespecial 29, 3) := by decide +kernel
theorem pd_15 : parseMethodDescriptor "(Ljava/lang/String;)Ljava/lang/AbstractStringBuilder;" = some ⟨[(.object "java/lang/String")], some (.object "java/lang/AbstractStringBuilder")⟩ := by decide +kernel
theorem d_j67_m7_5 : decode jdk_67_method_7_code 5 = .ok (.pop, 1) := by decide +kernel
theorem d_j67_m7_6 : decode jdk_67_method_7_code 6 = .ok (.aload_n 0, 1) := by decide +kernel
theorem d_j67_m7_7 : decode jdk_67_method_7_code 7 = .ok (.areturn, 1) := by decide +kernel
def Q_rm_sa0_16 (Z : State) (zc : Int32) (b da : Addr) (kd : ClassId) (cs : List Int32) (x t : Addr) (kb : ClassId) (ds : List Int32) (h0 : Heap) (n0 : Nat) (v : Option Value) (h : Heap) (L : List Loc) : Prop := v = some (.ref b) ∧ Fr n0 L ∧ Keep h0 h [b, da] ∧ Fld Z h b "java/lang/AbstractStringBuilder" "value" "[B" (.ref da) ∧ Fld Z h b "java/lang/AbstractStringBuilder" "coder" "B" (.int (0 : Int32)) ∧ Fld Z h b "java/lang/AbstractStringBuilder" "count" "I" (.int (Int32.ofNat ((cs ++ ds)).length)) ∧ Arv Z h da kd .byte (16 : Int32) (BY (cs ++ ds)) (.int 0)
set_option maxRecDepth 65536 in
set_option maxHeartbeats 40000000 in
theorem rm_sa0_16 (l : Launch) (Z : State) (a0 : Array Value) (hw : ∀ d ∈ tables_1, d.before a0 Z = true) (ws : List Jvm.Cond) (zc : Int32) (b da : Addr) (kd : ClassId) (cs : List Int32) (x t : Addr) (kb : ClassId) (ds : List Int32) (h0 : Heap) (n0 : Nat) (O0 : Old Z n0 h0) (S_COMPACT_STRINGS : Sta Z Z.heap "java/lang/String" "COMPACT_STRINGS" "Z" (.int zc)) (hzc : ¬ zc = 0) (E_b : Exa Z h0 b "java/lang/StringBuilder") (F_value_b : Fld Z h0 b "java/lang/AbstractStringBuilder" "value" "[B" (.ref da)) (F_coder_b : Fld Z h0 b "java/lang/AbstractStringBuilder" "coder" "B" (.int (0 : Int32))) (F_count_b : Fld Z h0 b "java/lang/AbstractStringBuilder" "count" "I" (.int (Int32.ofNat (cs).length))) (V_da : Arv Z h0 da kd .byte (16 : Int32) (BY cs) (.int 0)) (E_da : Exa Z h0 da "[B") (g_b : n0 ≤ b) (g_da : n0 ≤ da) (T_x : Str Z h0 x t kb ds) (ne_da_t : da ≠ t) (Hx : In8 ds) (hcs : cs.length ≤ 16) (h1 : cs.length + ds.length ≤ 16) :
    Meets l (⟨"java/lang/StringBuilder", "append", "(Ljava/lang/String;)Ljava/lang/StringBuilder;"⟩ : MethodName) jdk_67_method_7_code 2 (some (.object "java/lang/StringBuilder")) ws ({ frames := 4, cells := 0, slots := 0, locals := 83 } : Room) Z #[(.ref b), (.ref x)] h0 (Q_rm_sa0_16 Z zc b da kd cs x t kb ds h0 n0) 0 0 := by
  refine enter (Ls := #[.val (.ref b), .val (.ref x)]) (plainFor_of_name pn_3) (fun m => by first | (simp [entryFrame, mkF, argsToLocals, Value.category]; done) | rfl) ?_
  intro p e s m below meth c T0 hx hby hml hown hnm hret hlk hZ X0 e0
  have N0 := Fr.nil n0
  replace hown : s.vm.findClass "java/lang/StringBuilder" = some m.cls := hown
  show Run p e below _ (T0.setTop (mkF m 0 #[.val (.ref b), .val (.ref x)] []))
  have K0 := Keep.refl h0 [b, da]
  refine go (fun _ => XS.aloadN X0.here hx rfl (hb hby d_j67_m7_0) rfl rfl) ?_
  show Run p e below _ (T0.setTop (mkF m 1 #[.val (.ref b), .val (.ref x)] [(.ref b)]))
  refine go (fun _ => XS.aloadN X0.here hx rfl (hb hby d_j67_m7_1) rfl rfl) ?_
  show Run p e below _ (T0.setTop (mkF m 2 #[.val (.ref b), .val (.ref x)] [(.ref x), (.ref b)]))
  refine callUp X0 hx hZ hown (wd hw 54 rfl) (wd hw 55 rfl) (wd hw 56 rfl) (wd hw 58 rfl) (wd hw 33 rfl) (own_nf (wd hw 77 rfl) rfl) (by decide) (by decide) e0 (Ins.self E_b) (argsL := [(.ref x)]) (rest := []) (rm_as0_16 l Z a0 hw [] zc b da kd cs x t kb ds h0 n0 O0 S_COMPACT_STRINGS hzc E_b F_value_b F_coder_b F_count_b V_da E_da g_b g_da T_x ne_da_t Hx hcs h1) (W := 0) (by decide) (by decide) (by decide) (by decide) (by rw [hml]; rfl) (lenOf pd_15 rfl) rfl (Nat.le_of_eq rfl) (hb hby d_j67_m7_2) ?_
  intro v99 T99 L99 h99 X99 e99 q99
  have ne_x_b : x ≠ b := ne_exa T_x.1 E_b (by decide)
  have ne_t_b : t ≠ b := Ne.symm (Exa.neArv E_b T_x.2.2.2 (wd hw 24 rfl))
  have ne_x_da : x ≠ da := ne_exa T_x.1 E_da (by decide)
  obtain ⟨rfl, n99, K99, F_value_b, F_coder_b, F_count_b, V_da⟩ := q99
  have O0 := O0.keep K99 (allS g_b (allS g_da all0))
  have E_b := E_b.keep K99
  have E_da := E_da.keep K99
  have T_x := T_x.keep K99 (ninS ne_x_b (ninS ne_x_da nin0)) (ninS ne_t_b (ninS (Ne.symm ne_da_t) nin0))
  have K0 := K0.trans K99 (allS (Or.inl (by simp)) (allS (Or.inl (by simp)) all0))
  have N99 := Fr.app N0 n99
  show Run p e below _ (T99.setTop (mkF m 5 #[.val (.ref b), .val (.ref x)] [(.ref b)]))
  refine go (fun _ => XS.pop X99.here hx rfl (hb hby d_j67_m7_5) rfl rfl) ?_
  show Run p e below _ (T99.setTop (mkF m 6 #[.val (.ref b), .val (.ref x)] []))
  refine go (fun _ => XS.aloadN X99.here hx rfl (hb hby d_j67_m7_6) rfl rfl) ?_
  show Run p e below _ (T99.setTop (mkF m 7 #[.val (.ref b), .val (.ref x)] [(.ref b)]))
  exact endA X99 hx hlk (w := (.ref b)) hret rfl rfl (hb hby d_j67_m7_7) (by rw [e99]; exact ⟨rfl, N99, K0, F_value_b, F_coder_b, F_count_b, V_da⟩) (by decide) (by decide)
def Q_rm_as1_16 (Z : State) (zc : Int32) (b da : Addr) (kd : ClassId) (cs : List Int32) (x t : Addr) (kb : ClassId) (ds : List Int32) (h0 : Heap) (n0 : Nat) (v : Option Value) (h : Heap) (L : List Loc) : Prop := ∃ (d2 : Addr) (k2 : ClassId), v = some (.ref b) ∧ Fr n0 L ∧ Keep h0 h [b] ∧ h0.size ≤ d2 ∧ n0 ≤ d2 ∧ Exa Z h d2 "[B" ∧ Fld Z h b "java/lang/AbstractStringBuilder" "value" "[B" (.ref d2) ∧ Fld Z h b "java/lang/AbstractStringBuilder" "coder" "B" (.int (0 : Int32)) ∧ Fld Z h b "java/lang/AbstractStringBuilder" "count" "I" (.int (Int32.ofNat ((cs ++ ds)).length)) ∧ Arv Z h d2 k2 .byte (34 : Int32) (BY (cs ++ ds)) (.int 0)
set_option maxRecDepth 65536 in
set_option maxHeartbeats 40000000 in
theorem rm_as1_16 (l : Launch) (Z : State) (a0 : Array Value) (hw : ∀ d ∈ tables_1, d.before a0 Z = true) (ws : List Jvm.Cond) (zc : Int32) (b da : Addr) (kd : ClassId) (cs : List Int32) (x t : Addr) (kb : ClassId) (ds : List Int32) (h0 : Heap) (n0 : Nat) (O0 : Old Z n0 h0) (S_COMPACT_STRINGS : Sta Z Z.heap "java/lang/String" "COMPACT_STRINGS" "Z" (.int zc)) (hzc : ¬ zc = 0) (E_b : Exa Z h0 b "java/lang/StringBuilder") (F_value_b : Fld Z h0 b "java/lang/AbstractStringBuilder" "value" "[B" (.ref da)) (F_coder_b : Fld Z h0 b "java/lang/AbstractStringBuilder" "coder" "B" (.int (0 : Int32))) (F_count_b : Fld Z h0 b "java/lang/AbstractStringBuilder" "count" "I" (.int (Int32.ofNat (cs).length))) (V_da : Arv Z h0 da kd .byte (16 : Int32) (BY cs) (.int 0)) (E_da : Exa Z h0 da "[B") (g_b : n0 ≤ b) (g_da : n0 ≤ da) (T_x : Str Z h0 x t kb ds) (ne_da_t : da ≠ t) (Hx : In8 ds) (hcs : cs.length ≤ 16) (h1 : 16 < cs.length + ds.length) (h2 : cs.length + ds.length < 34) :
    Meets l (⟨"java/lang/AbstractStringBuilder", "append", "(Ljava/lang/String;)Ljava/lang/AbstractStringBuilder;"⟩ : MethodName) jdk_68_method_22_code 3 (some (.object "java/lang/AbstractStringBuilder")) ws ({ frames := 4, cells := 1, slots := 34, locals := 69 } : Room) Z #[(.ref b), (.ref x)] h0 (Q_rm_as1_16 Z zc b da kd cs x t kb ds h0 n0) 1 34 := by
  refine enter (Ls := #[.val (.ref b), .val (.ref x), .unset]) (plainFor_of_name pn_2) (fun m => by first | (simp [entryFrame, mkF, argsToLocals, Value.category]; done) | rfl) ?_
  intro p e s m below meth c T0 hx hby hml hown hnm hret hlk hZ X0 e0
  have N0 := Fr.nil n0
  replace hown : s.vm.findClass "java/lang/AbstractStringBuilder" = some m.cls := hown
  show Run p e below _ (T0.setTop (mkF m 0 #[.val (.ref b), .val (.ref x), .unset] []))
  have K0 := Keep.refl h0 [b]
  refine go (fun _ => XS.aloadN X0.here hx rfl (hb hby d_j68_m22_0) rfl rfl) ?_
  show Run p e below _ (T0.setTop (mkF m 1 #[.val (.ref b), .val (.ref x), .unset] [(.ref x)]))
  refine go (fun _ => XS.ifnonnullYes X0.here hx rfl (pc0 := 1) (pc' := 9) rfl (hb hby d_j68_m22_1) rfl (by decide) (by decide)) ?_
  show Run p e below _ (T0.setTop (mkF m 9 #[.val (.ref b), .val (.ref x), .unset] []))
  refine go (fun _ => XS.aloadN X0.here hx rfl (hb hby d_j68_m22_9) rfl rfl) ?_
  show Run p e below _ (T0.setTop (mkF m 10 #[.val (.ref b), .val (.ref x), .unset] [(.ref x)]))
  refine callVi X0 hx hZ hown (wd hw 59 rfl) (wd hw 60 rfl) (notFace_of_selects (args := #[]) (mvT hZ (wd hw 62 rfl))) (wd hw 62 rfl) (wd hw 61 rfl) (wd hw 63 rfl) (wd hw 37 rfl) (by decide) e0 T_x.1 (argsL := []) (rest := []) (rm_len l Z a0 hw [] zc x t kb ds h0 n0 O0 S_COMPACT_STRINGS hzc T_x) (W := 0) (by decide) (by decide) (by decide) (by decide) (by rw [hml]; rfl) (lenOf pd_13 rfl) rfl (Nat.le_of_eq rfl) (hb hby d_j68_m22_10) ?_
  intro v100 T100 L100 h100 X100 e100 q100
  obtain ⟨rv, n100, k100⟩ := q100
  replace rv : v100 = some (.int (Int32.ofNat (ds).length)) := rv
  subst rv
  have e100 := e100.trans k100
  have N100 := Fr.app N0 n100
  show Run p e below _ (T100.setTop (mkF m 13 #[.val (.ref b), .val (.ref x), .unset] [(.int (Int32.ofNat (ds).length))]))
  refine go (fun _ => XS.istoreN X100.here hx rfl (hb hby d_j68_m22_13) rfl (l' := #[.val (.ref b), .val (.ref x), .val (.int (Int32.ofNat (ds).length))]) rfl) ?_
  show Run p e below _ (T100.setTop (mkF m 14 #[.val (.ref b), .val (.ref x), .val (.int (Int32.ofNat (ds).length))] []))
  refine go (fun _ => XS.aloadN X100.here hx rfl (hb hby d_j68_m22_14) rfl rfl) ?_
  show Run p e below _ (T100.setTop (mkF m 15 #[.val (.ref b), .val (.ref x), .val (.int (Int32.ofNat (ds).length))] [(.ref b)]))
  refine go (fun _ => XS.aloadN X100.here hx rfl (hb hby d_j68_m22_15) rfl rfl) ?_
  show Run p e below _ (T100.setTop (mkF m 16 #[.val (.ref b), .val (.ref x), .val (.int (Int32.ofNat (ds).length))] [(.ref b), (.ref b)]))
  obtain ⟨T101, X101, e101, st101⟩ := getF X100 hx hZ hown (host := "") (Or.inl (wd hw 72 rfl)) Via.refl e100 F_count_b (g := (mkF m 16 #[.val (.ref b), .val (.ref x), .val (.int (Int32.ofNat (ds).length))] [(.ref b), (.ref b)])) rfl rfl (hb hby d_j68_m22_16)
  refine go st101 ?_
  show Run p e below _ (T101.setTop (mkF m 19 #[.val (.ref b), .val (.ref x), .val (.int (Int32.ofNat (ds).length))] [(.int (Int32.ofNat (cs).length)), (.ref b)]))
  refine go (fun _ => XS.iloadN X101.here hx rfl (hb hby d_j68_m22_19) rfl) ?_
  show Run p e below _ (T101.setTop (mkF m 20 #[.val (.ref b), .val (.ref x), .val (.int (Int32.ofNat (ds).length))] [(.int (Int32.ofNat (ds).length)), (.int (Int32.ofNat (cs).length)), (.ref b)]))
  refine go (fun _ => XS.iadd X101.here hx rfl (hb hby d_j68_m22_20) rfl) ?_
  rw [own_add]
  show Run p e below _ (T101.setTop (mkF m 21 #[.val (.ref b), .val (.ref x), .val (.int (Int32.ofNat (ds).length))] [(.int (Int32.ofNat ((cs).length + (ds).length))), (.ref b)]))
  refine callVi X101 hx hZ hown (wd hw 74 rfl) (own_decl (wd hw 75 rfl) (wd hw 78 rfl)) (notFace_of_selects (args := #[]) (mvT hZ (wd hw 77 rfl))) (wd hw 77 rfl) (wd hw 75 rfl) (wd hw 78 rfl) (wd hw 33 rfl) (by decide) e101 E_b (argsL := [(.int (Int32.ofNat ((cs).length + (ds).length)))]) (rest := []) (rm_en1_16 l Z a0 hw [] b da kd cs (cs.length + ds.length) h0 n0 O0 E_b F_value_b F_coder_b F_count_b V_da E_da g_b g_da (by omega) (by have k1_ : (16 : Int32).toInt = 16 := (by decide); have k2_ : (18 : Int32).toInt = 18 := (by decide); omega) (by have k1_ : (16 : Int32).toInt = 16 := (by decide); have k2_ : (18 : Int32).toInt = 18 := (by decide); omega) hcs) (W := 0) (by decide) (by decide) (by decide) (by decide) (by rw [hml]; rfl) (lenOf pd_1 rfl) rfl (Nat.le_of_eq rfl) (hb hby d_j68_m22_21) ?_
  intro v102 T102 L102 h102 X102 e102 q102
  have ne_da_b : da ≠ b := ne_exa E_da E_b (by decide)
  have ne_x_b : x ≠ b := ne_exa T_x.1 E_b (by decide)
  have ne_t_b : t ≠ b := Ne.symm (Exa.neArv E_b T_x.2.2.2 (wd hw 24 rfl))
  have lt103_b := E_b.lt
  have lt103_da := V_da.lt
  have lt103_x := T_x.1.lt
  have lt103_t := T_x.2.2.2.lt
  obtain ⟨d102, kd102, rfl, n102, K102, sb102, g_d102, E_d102, F_value_b, F_coder_b, F_count_b, V_d102⟩ := q102
  have szq102 := K0.1
  have ne_b_d102 : b ≠ d102 := Nat.ne_of_lt (Nat.lt_of_lt_of_le lt103_b sb102)
  have ne_da_d102 : da ≠ d102 := Nat.ne_of_lt (Nat.lt_of_lt_of_le lt103_da sb102)
  have ne_x_d102 : x ≠ d102 := Nat.ne_of_lt (Nat.lt_of_lt_of_le lt103_x sb102)
  have ne_t_d102 : t ≠ d102 := Nat.ne_of_lt (Nat.lt_of_lt_of_le lt103_t sb102)
  have sz_d102 : h0.size ≤ d102 := Nat.le_trans szq102 sb102
  have O0 := O0.keep K102 (allS g_b all0)
  have E_b := E_b.keep K102
  have E_da := E_da.keep K102
  have T_x := T_x.keep K102 (ninS ne_x_b nin0) (ninS ne_t_b nin0)
  have K0 := K0.trans K102 (allS (Or.inl (by simp)) all0)
  have N102 := Fr.app N100 n102
  show Run p e below _ (T102.setTop (mkF m 24 #[.val (.ref b), .val (.ref x), .val (.int (Int32.ofNat (ds).length))] []))
  refine go (fun _ => XS.aloadN X102.here hx rfl (hb hby d_j68_m22_24) rfl rfl) ?_
  show Run p e below _ (T102.setTop (mkF m 25 #[.val (.ref b), .val (.ref x), .val (.int (Int32.ofNat (ds).length))] [(.ref b)]))
  refine go (fun _ => XS.aloadN X102.here hx rfl (hb hby d_j68_m22_25) rfl rfl) ?_
  show Run p e below _ (T102.setTop (mkF m 26 #[.val (.ref b), .val (.ref x), .val (.int (Int32.ofNat (ds).length))] [(.ref b), (.ref b)]))
  obtain ⟨T104, X104, e104, st104⟩ := getF X102 hx hZ hown (host := "") (Or.inl (wd hw 72 rfl)) Via.refl e102 F_count_b (g := (mkF m 26 #[.val (.ref b), .val (.ref x), .val (.int (Int32.ofNat (ds).length))] [(.ref b), (.ref b)])) rfl rfl (hb hby d_j68_m22_26)
  refine go st104 ?_
  show Run p e below _ (T104.setTop (mkF m 29 #[.val (.ref b), .val (.ref x), .val (.int (Int32.ofNat (ds).length))] [(.int (Int32.ofNat (cs).length)), (.ref b)]))
  refine go (fun _ => XS.aloadN X104.here hx rfl (hb hby d_j68_m22_29) rfl rfl) ?_
  show Run p e below _ (T104.setTop (mkF m 30 #[.val (.ref b), .val (.ref x), .val (.int (Int32.ofNat (ds).length))] [(.ref x), (.int (Int32.ofNat (cs).length)), (.ref b)]))
  refine callVi X104 hx hZ hown (wd hw 105 rfl) (own_decl (wd hw 106 rfl) (wd hw 109 rfl)) (notFace_of_selects (args := #[]) (mvT hZ (wd hw 108 rfl))) (wd hw 108 rfl) (wd hw 106 rfl) (wd hw 109 rfl) (wd hw 33 rfl) (by decide) e104 E_b (argsL := [(.int (Int32.ofNat (cs).length)), (.ref x)]) (rest := []) (rm_psa l Z a0 hw [] zc b d102 kd102 (34 : Int32) cs x t kb ds h102 n0 O0 S_COMPACT_STRINGS hzc E_b F_value_b F_coder_b F_count_b V_d102 E_d102 g_b g_d102 T_x (Ne.symm ne_t_d102) (by show _ ≤ 34; omega) (by omega) (by omega)) (W := 0) (by decide) (by decide) (by decide) (by decide) (by rw [hml]; rfl) (lenOf pd_14 rfl) rfl (Nat.le_of_eq rfl) (hb hby d_j68_m22_30) ?_
  intro v105 T105 L105 h105 X105 e105 q105
  obtain ⟨rfl, n105, K105, V_d102⟩ := q105
  have O0 := O0.keep K105 (allS g_d102 all0)
  have E_b := E_b.keep K105
  have E_da := E_da.keep K105
  have T_x := T_x.keep K105 (ninS ne_x_d102 nin0) (ninS ne_t_d102 nin0)
  have K0 := K0.trans K105 (allS (Or.inr sz_d102) all0)
  have E_d102 := E_d102.keep K105
  have F_value_b := F_value_b.keep K105 (ninS ne_b_d102 nin0)
  have F_coder_b := F_coder_b.keep K105 (ninS ne_b_d102 nin0)
  have F_count_b := F_count_b.keep K105 (ninS ne_b_d102 nin0)
  have N105 := Fr.app N102 n105
  show Run p e below _ (T105.setTop (mkF m 33 #[.val (.ref b), .val (.ref x), .val (.int (Int32.ofNat (ds).length))] []))
  refine go (fun _ => XS.aloadN X105.here hx rfl (hb hby d_j68_m22_33) rfl rfl) ?_
  show Run p e below _ (T105.setTop (mkF m 34 #[.val (.ref b), .val (.ref x), .val (.int (Int32.ofNat (ds).length))] [(.ref b)]))
  refine go (fun _ => XS.dup X105.here hx rfl (hb hby d_j68_m22_34) rfl rfl) ?_
  show Run p e below _ (T105.setTop (mkF m 35 #[.val (.ref b), .val (.ref x), .val (.int (Int32.ofNat (ds).length))] [(.ref b), (.ref b)]))
  obtain ⟨T106, X106, e106, st106⟩ := getF X105 hx hZ hown (host := "") (Or.inl (wd hw 72 rfl)) Via.refl e105 F_count_b (g := (mkF m 35 #[.val (.ref b), .val (.ref x), .val (.int (Int32.ofNat (ds).length))] [(.ref b), (.ref b)])) rfl rfl (hb hby d_j68_m22_35)
  refine go st106 ?_
  show Run p e below _ (T106.setTop (mkF m 38 #[.val (.ref b), .val (.ref x), .val (.int (Int32.ofNat (ds).length))] [(.int (Int32.ofNat (cs).length)), (.ref b)]))
  refine go (fun _ => XS.iloadN X106.here hx rfl (hb hby d_j68_m22_38) rfl) ?_
  show Run p e below _ (T106.setTop (mkF m 39 #[.val (.ref b), .val (.ref x), .val (.int (Int32.ofNat (ds).length))] [(.int (Int32.ofNat (ds).length)), (.int (Int32.ofNat (cs).length)), (.ref b)]))
  refine go (fun _ => XS.iadd X106.here hx rfl (hb hby d_j68_m22_39) rfl) ?_
  rw [own_add]
  show Run p e below _ (T106.setTop (mkF m 40 #[.val (.ref b), .val (.ref x), .val (.int (Int32.ofNat (ds).length))] [(.int (Int32.ofNat ((cs).length + (ds).length))), (.ref b)]))
  obtain ⟨T107, h107, X107, e107, W107, st107⟩ := putF X106 hx hZ hown (host := "") (Or.inl (wd hw 72 rfl)) Via.refl e106 F_count_b E_b (Or.inl (wd hw 73 rfl)) (wd hw 24 rfl) (ty := .int) (by decide) rfl rfl (g := (mkF m 40 #[.val (.ref b), .val (.ref x), .val (.int (Int32.ofNat (ds).length))] [(.int (Int32.ofNat ((cs).length + (ds).length))), (.ref b)])) rfl rfl (hb hby d_j68_m22_40)
  have O0 := O0.wr W107 g_b
  have E_b := E_b.wr W107
  have E_da := E_da.wr W107
  have T_x := T_x.other W107 ne_x_b ne_t_b
  have K0 := K0.wr W107 (Or.inl (by simp))
  have E_d102 := E_d102.wr W107
  have F_value_b := F_value_b.other W107 (Or.inr (slot_ne (Or.inl (wd hw 40 rfl)) (Or.inl (wd hw 73 rfl)) (by decide) (t := (.array .byte)) (t' := .int) (by decide) (by decide)))
  have F_coder_b := F_coder_b.other W107 (Or.inr (slot_ne (Or.inl (wd hw 42 rfl)) (Or.inl (wd hw 73 rfl)) (by decide) (t := .byte) (t' := .int) (by decide) (by decide)))
  have F_count_b := F_count_b.same W107
  have V_d102 := V_d102.other W107 (Ne.symm ne_b_d102)
  have N107 := Fr.snoc X107 N105 g_b
  refine go st107 ?_
  show Run p e below _ (T107.setTop (mkF m 43 #[.val (.ref b), .val (.ref x), .val (.int (Int32.ofNat (ds).length))] []))
  refine go (fun _ => XS.aloadN X107.here hx rfl (hb hby d_j68_m22_43) rfl rfl) ?_
  show Run p e below _ (T107.setTop (mkF m 44 #[.val (.ref b), .val (.ref x), .val (.int (Int32.ofNat (ds).length))] [(.ref b)]))
  have F_count_b := (show Fld Z _ b "java/lang/AbstractStringBuilder" "count" "I" (.int (Int32.ofNat (cs ++ ds).length)) by rw [List.length_append]; exact F_count_b)
  exact endA X107 hx hlk (w := (.ref b)) hret rfl rfl (hb hby d_j68_m22_44) (by rw [e107]; exact ⟨d102, _, rfl, N107, K0, sz_d102, g_d102, E_d102, F_value_b, F_coder_b, F_count_b, V_d102⟩) (by decide) (by decide)
def Q_rm_sa1_16 (Z : State) (zc : Int32) (b da : Addr) (kd : ClassId) (cs : List Int32) (x t : Addr) (kb : ClassId) (ds : List Int32) (h0 : Heap) (n0 : Nat) (v : Option Value) (h : Heap) (L : List Loc) : Prop := ∃ (d2 : Addr) (k2 : ClassId), v = some (.ref b) ∧ Fr n0 L ∧ Keep h0 h [b] ∧ h0.size ≤ d2 ∧ n0 ≤ d2 ∧ Exa Z h d2 "[B" ∧ Fld Z h b "java/lang/AbstractStringBuilder" "value" "[B" (.ref d2) ∧ Fld Z h b "java/lang/AbstractStringBuilder" "coder" "B" (.int (0 : Int32)) ∧ Fld Z h b "java/lang/AbstractStringBuilder" "count" "I" (.int (Int32.ofNat ((cs ++ ds)).length)) ∧ Arv Z h d2 k2 .byte (34 : Int32) (BY (cs ++ ds)) (.int 0)
set_option maxRecDepth 65536 in
set_option maxHeartbeats 40000000 in
theorem rm_sa1_16 (l : Launch) (Z : State) (a0 : Array Value) (hw : ∀ d ∈ tables_1, d.before a0 Z = true) (ws : List Jvm.Cond) (zc : Int32) (b da : Addr) (kd : ClassId) (cs : List Int32) (x t : Addr) (kb : ClassId) (ds : List Int32) (h0 : Heap) (n0 : Nat) (O0 : Old Z n0 h0) (S_COMPACT_STRINGS : Sta Z Z.heap "java/lang/String" "COMPACT_STRINGS" "Z" (.int zc)) (hzc : ¬ zc = 0) (E_b : Exa Z h0 b "java/lang/StringBuilder") (F_value_b : Fld Z h0 b "java/lang/AbstractStringBuilder" "value" "[B" (.ref da)) (F_coder_b : Fld Z h0 b "java/lang/AbstractStringBuilder" "coder" "B" (.int (0 : Int32))) (F_count_b : Fld Z h0 b "java/lang/AbstractStringBuilder" "count" "I" (.int (Int32.ofNat (cs).length))) (V_da : Arv Z h0 da kd .byte (16 : Int32) (BY cs) (.int 0)) (E_da : Exa Z h0 da "[B") (g_b : n0 ≤ b) (g_da : n0 ≤ da) (T_x : Str Z h0 x t kb ds) (ne_da_t : da ≠ t) (Hx : In8 ds) (hcs : cs.length ≤ 16) (h1 : 16 < cs.length + ds.length) (h2 : cs.length + ds.length < 34) :
    Meets l (⟨"java/lang/StringBuilder", "append", "(Ljava/lang/String;)Ljava/lang/StringBuilder;"⟩ : MethodName) jdk_67_method_7_code 2 (some (.object "java/lang/StringBuilder")) ws ({ frames := 5, cells := 1, slots := 34, locals := 83 } : Room) Z #[(.ref b), (.ref x)] h0 (Q_rm_sa1_16 Z zc b da kd cs x t kb ds h0 n0) 1 34 := by
  refine enter (Ls := #[.val (.ref b), .val (.ref x)]) (plainFor_of_name pn_3) (fun m => by first | (simp [entryFrame, mkF, argsToLocals, Value.category]; done) | rfl) ?_
  intro p e s m below meth c T0 hx hby hml hown hnm hret hlk hZ X0 e0
  have N0 := Fr.nil n0
  replace hown : s.vm.findClass "java/lang/StringBuilder" = some m.cls := hown
  show Run p e below _ (T0.setTop (mkF m 0 #[.val (.ref b), .val (.ref x)] []))
  have K0 := Keep.refl h0 [b]
  refine go (fun _ => XS.aloadN X0.here hx rfl (hb hby d_j67_m7_0) rfl rfl) ?_
  show Run p e below _ (T0.setTop (mkF m 1 #[.val (.ref b), .val (.ref x)] [(.ref b)]))
  refine go (fun _ => XS.aloadN X0.here hx rfl (hb hby d_j67_m7_1) rfl rfl) ?_
  show Run p e below _ (T0.setTop (mkF m 2 #[.val (.ref b), .val (.ref x)] [(.ref x), (.ref b)]))
  refine callUp X0 hx hZ hown (wd hw 54 rfl) (wd hw 55 rfl) (wd hw 56 rfl) (wd hw 58 rfl) (wd hw 33 rfl) (own_nf (wd hw 77 rfl) rfl) (by decide) (by decide) e0 (Ins.self E_b) (argsL := [(.ref x)]) (rest := []) (rm_as1_16 l Z a0 hw [] zc b da kd cs x t kb ds h0 n0 O0 S_COMPACT_STRINGS hzc E_b F_value_b F_coder_b F_count_b V_da E_da g_b g_da T_x ne_da_t Hx hcs h1 h2) (W := 0) (by decide) (by decide) (by decide) (by decide) (by rw [hml]; rfl) (lenOf pd_15 rfl) rfl (Nat.le_of_eq rfl) (hb hby d_j67_m7_2) ?_
  intro v108 T108 L108 h108 X108 e108 q108
  have ne_da_b : da ≠ b := ne_exa E_da E_b (by decide)
  have ne_x_b : x ≠ b := ne_exa T_x.1 E_b (by decide)
  have ne_t_b : t ≠ b := Ne.symm (Exa.neArv E_b T_x.2.2.2 (wd hw 24 rfl))
  have lt109_b := E_b.lt
  have lt109_da := V_da.lt
  have lt109_x := T_x.1.lt
  have lt109_t := T_x.2.2.2.lt
  obtain ⟨d108, kd108, rfl, n108, K108, sb108, g_d108, E_d108, F_value_b, F_coder_b, F_count_b, V_d108⟩ := q108
  have szq108 := K0.1
  have ne_b_d108 : b ≠ d108 := Nat.ne_of_lt (Nat.lt_of_lt_of_le lt109_b sb108)
  have ne_da_d108 : da ≠ d108 := Nat.ne_of_lt (Nat.lt_of_lt_of_le lt109_da sb108)
  have ne_x_d108 : x ≠ d108 := Nat.ne_of_lt (Nat.lt_of_lt_of_le lt109_x sb108)
  have ne_t_d108 : t ≠ d108 := Nat.ne_of_lt (Nat.lt_of_lt_of_le lt109_t sb108)
  have sz_d108 : h0.size ≤ d108 := Nat.le_trans szq108 sb108
  have O0 := O0.keep K108 (allS g_b all0)
  have E_b := E_b.keep K108
  have E_da := E_da.keep K108
  have T_x := T_x.keep K108 (ninS ne_x_b nin0) (ninS ne_t_b nin0)
  have K0 := K0.trans K108 (allS (Or.inl (by simp)) all0)
  have N108 := Fr.app N0 n108
  show Run p e below _ (T108.setTop (mkF m 5 #[.val (.ref b), .val (.ref x)] [(.ref b)]))
  refine go (fun _ => XS.pop X108.here hx rfl (hb hby d_j67_m7_5) rfl rfl) ?_
  show Run p e below _ (T108.setTop (mkF m 6 #[.val (.ref b), .val (.ref x)] []))
  refine go (fun _ => XS.aloadN X108.here hx rfl (hb hby d_j67_m7_6) rfl rfl) ?_
  show Run p e below _ (T108.setTop (mkF m 7 #[.val (.ref b), .val (.ref x)] [(.ref b)]))
  exact endA X108 hx hlk (w := (.ref b)) hret rfl rfl (hb hby d_j67_m7_7) (by rw [e108]; exact ⟨d108, _, rfl, N108, K0, sz_d108, g_d108, E_d108, F_value_b, F_coder_b, F_count_b, V_d108⟩) (by decide) (by decide)
def Q_rm_as0_34 (Z : State) (zc : Int32) (b da : Addr) (kd : ClassId) (cs : List Int32) (x t : Addr) (kb : ClassId) (ds : List Int32) (h0 : Heap) (n0 : Nat) (v : Option Value) (h : Heap) (L : List Loc) : Prop := v = some (.ref b) ∧ Fr n0 L ∧ Keep h0 h [b, da] ∧ Fld Z h b "java/lang/AbstractStringBuilder" "value" "[B" (.ref da) ∧ Fld Z h b "java/lang/AbstractStringBuilder" "coder" "B" (.int (0 : Int32)) ∧ Fld Z h b "java/lang/AbstractStringBuilder" "count" "I" (.int (Int32.ofNat ((cs ++ ds)).length)) ∧ Arv Z h da kd .byte (34 : Int32) (BY (cs ++ ds)) (.int 0)
set_option maxRecDepth 65536 in
set_option maxHeartbeats 40000000 in
theorem rm_as0_34 (l : Launch) (Z : State) (a0 : Array Value) (hw : ∀ d ∈ tables_1, d.before a0 Z = true) (ws : List Jvm.Cond) (zc : Int32) (b da : Addr) (kd : ClassId) (cs : List Int32) (x t : Addr) (kb : ClassId) (ds : List Int32) (h0 : Heap) (n0 : Nat) (O0 : Old Z n0 h0) (S_COMPACT_STRINGS : Sta Z Z.heap "java/lang/String" "COMPACT_STRINGS" "Z" (.int zc)) (hzc : ¬ zc = 0) (E_b : Exa Z h0 b "java/lang/StringBuilder") (F_value_b : Fld Z h0 b "java/lang/AbstractStringBuilder" "value" "[B" (.ref da)) (F_coder_b : Fld Z h0 b "java/lang/AbstractStringBuilder" "coder" "B" (.int (0 : Int32))) (F_count_b : Fld Z h0 b "java/lang/AbstractStringBuilder" "count" "I" (.int (Int32.ofNat (cs).length))) (V_da : Arv Z h0 da kd .byte (34 : Int32) (BY cs) (.int 0)) (E_da : Exa Z h0 da "[B") (g_b : n0 ≤ b) (g_da : n0 ≤ da) (T_x : Str Z h0 x t kb ds) (ne_da_t : da ≠ t) (Hx : In8 ds) (hcs : cs.length ≤ 34) (h1 : cs.length + ds.length ≤ 34) :
    Meets l (⟨"java/lang/AbstractStringBuilder", "append", "(Ljava/lang/String;)Ljava/lang/AbstractStringBuilder;"⟩ : MethodName) jdk_68_method_22_code 3 (some (.object "java/lang/AbstractStringBuilder")) ws ({ frames := 3, cells := 0, slots := 0, locals := 69 } : Room) Z #[(.ref b), (.ref x)] h0 (Q_rm_as0_34 Z zc b da kd cs x t kb ds h0 n0) 0 0 := by
  refine enter (Ls := #[.val (.ref b), .val (.ref x), .unset]) (plainFor_of_name pn_2) (fun m => by first | (simp [entryFrame, mkF, argsToLocals, Value.category]; done) | rfl) ?_
  intro p e s m below meth c T0 hx hby hml hown hnm hret hlk hZ X0 e0
  have N0 := Fr.nil n0
  replace hown : s.vm.findClass "java/lang/AbstractStringBuilder" = some m.cls := hown
  show Run p e below _ (T0.setTop (mkF m 0 #[.val (.ref b), .val (.ref x), .unset] []))
  have K0 := Keep.refl h0 [b, da]
  refine go (fun _ => XS.aloadN X0.here hx rfl (hb hby d_j68_m22_0) rfl rfl) ?_
  show Run p e below _ (T0.setTop (mkF m 1 #[.val (.ref b), .val (.ref x), .unset] [(.ref x)]))
  refine go (fun _ => XS.ifnonnullYes X0.here hx rfl (pc0 := 1) (pc' := 9) rfl (hb hby d_j68_m22_1) rfl (by decide) (by decide)) ?_
  show Run p e below _ (T0.setTop (mkF m 9 #[.val (.ref b), .val (.ref x), .unset] []))
  refine go (fun _ => XS.aloadN X0.here hx rfl (hb hby d_j68_m22_9) rfl rfl) ?_
  show Run p e below _ (T0.setTop (mkF m 10 #[.val (.ref b), .val (.ref x), .unset] [(.ref x)]))
  refine callVi X0 hx hZ hown (wd hw 59 rfl) (wd hw 60 rfl) (notFace_of_selects (args := #[]) (mvT hZ (wd hw 62 rfl))) (wd hw 62 rfl) (wd hw 61 rfl) (wd hw 63 rfl) (wd hw 37 rfl) (by decide) e0 T_x.1 (argsL := []) (rest := []) (rm_len l Z a0 hw [] zc x t kb ds h0 n0 O0 S_COMPACT_STRINGS hzc T_x) (W := 0) (by decide) (by decide) (by decide) (by decide) (by rw [hml]; rfl) (lenOf pd_13 rfl) rfl (Nat.le_of_eq rfl) (hb hby d_j68_m22_10) ?_
  intro v110 T110 L110 h110 X110 e110 q110
  obtain ⟨rv, n110, k110⟩ := q110
  replace rv : v110 = some (.int (Int32.ofNat (ds).length)) := rv
  subst rv
  have e110 := e110.trans k110
  have N110 := Fr.app N0 n110
  show Run p e below _ (T110.setTop (mkF m 13 #[.val (.ref b), .val (.ref x), .unset] [(.int (Int32.ofNat (ds).length))]))
  refine go (fun _ => XS.istoreN X110.here hx rfl (hb hby d_j68_m22_13) rfl (l' := #[.val (.ref b), .val (.ref x), .val (.int (Int32.ofNat (ds).length))]) rfl) ?_
  show Run p e below _ (T110.setTop (mkF m 14 #[.val (.ref b), .val (.ref x), .val (.int (Int32.ofNat (ds).length))] []))
  refine go (fun _ => XS.aloadN X110.here hx rfl (hb hby d_j68_m22_14) rfl rfl) ?_
  show Run p e below _ (T110.setTop (mkF m 15 #[.val (.ref b), .val (.ref x), .val (.int (Int32.ofNat (ds).length))] [(.ref b)]))
  refine go (fun _ => XS.aloadN X110.here hx rfl (hb hby d_j68_m22_15) rfl rfl) ?_
  show Run p e below _ (T110.setTop (mkF m 16 #[.val (.ref b), .val (.ref x), .val (.int (Int32.ofNat (ds).length))] [(.ref b), (.ref b)]))
  obtain ⟨T111, X111, e111, st111⟩ := getF X110 hx hZ hown (host := "") (Or.inl (wd hw 72 rfl)) Via.refl e110 F_count_b (g := (mkF m 16 #[.val (.ref b), .val (.ref x), .val (.int (Int32.ofNat (ds).length))] [(.ref b), (.ref b)])) rfl rfl (hb hby d_j68_m22_16)
  refine go st111 ?_
  show Run p e below _ (T111.setTop (mkF m 19 #[.val (.ref b), .val (.ref x), .val (.int (Int32.ofNat (ds).length))] [(.int (Int32.ofNat (cs).length)), (.ref b)]))
  refine go (fun _ => XS.iloadN X111.here hx rfl (hb hby d_j68_m22_19) rfl) ?_
  show Run p e below _ (T111.setTop (mkF m 20 #[.val (.ref b), .val (.ref x), .val (.int (Int32.ofNat (ds).length))] [(.int (Int32.ofNat (ds).length)), (.int (Int32.ofNat (cs).length)), (.ref b)]))
  refine go (fun _ => XS.iadd X111.here hx rfl (hb hby d_j68_m22_20) rfl) ?_
  rw [own_add]
  show Run p e below _ (T111.setTop (mkF m 21 #[.val (.ref b), .val (.ref x), .val (.int (Int32.ofNat (ds).length))] [(.int (Int32.ofNat ((cs).length + (ds).length))), (.ref b)]))
  refine callVi X111 hx hZ hown (wd hw 74 rfl) (own_decl (wd hw 75 rfl) (wd hw 78 rfl)) (notFace_of_selects (args := #[]) (mvT hZ (wd hw 77 rfl))) (wd hw 77 rfl) (wd hw 75 rfl) (wd hw 78 rfl) (wd hw 33 rfl) (by decide) e111 E_b (argsL := [(.int (Int32.ofNat ((cs).length + (ds).length)))]) (rest := []) (rm_en0_34 l Z a0 hw [] b da kd cs (cs.length + ds.length) h0 n0 O0 E_b F_value_b F_coder_b F_count_b V_da E_da g_b g_da (by omega) (by have k1_ : (34 : Int32).toInt = 34 := (by decide); have k2_ : (36 : Int32).toInt = 36 := (by decide); omega)) (W := 0) (by decide) (by decide) (by decide) (by decide) (by rw [hml]; rfl) (lenOf pd_1 rfl) rfl (Nat.le_of_eq rfl) (hb hby d_j68_m22_21) ?_
  intro v112 T112 L112 h112 X112 e112 q112
  obtain ⟨rfl, n112, k112⟩ := q112
  have e112 := e112.trans k112
  have N112 := Fr.app N110 n112
  show Run p e below _ (T112.setTop (mkF m 24 #[.val (.ref b), .val (.ref x), .val (.int (Int32.ofNat (ds).length))] []))
  refine go (fun _ => XS.aloadN X112.here hx rfl (hb hby d_j68_m22_24) rfl rfl) ?_
  show Run p e below _ (T112.setTop (mkF m 25 #[.val (.ref b), .val (.ref x), .val (.int (Int32.ofNat (ds).length))] [(.ref b)]))
  refine go (fun _ => XS.aloadN X112.here hx rfl (hb hby d_j68_m22_25) rfl rfl) ?_
  show Run p e below _ (T112.setTop (mkF m 26 #[.val (.ref b), .val (.ref x), .val (.int (Int32.ofNat (ds).length))] [(.ref b), (.ref b)]))
  obtain ⟨T113, X113, e113, st113⟩ := getF X112 hx hZ hown (host := "") (Or.inl (wd hw 72 rfl)) Via.refl e112 F_count_b (g := (mkF m 26 #[.val (.ref b), .val (.ref x), .val (.int (Int32.ofNat (ds).length))] [(.ref b), (.ref b)])) rfl rfl (hb hby d_j68_m22_26)
  refine go st113 ?_
  show Run p e below _ (T113.setTop (mkF m 29 #[.val (.ref b), .val (.ref x), .val (.int (Int32.ofNat (ds).length))] [(.int (Int32.ofNat (cs).length)), (.ref b)]))
  refine go (fun _ => XS.aloadN X113.here hx rfl (hb hby d_j68_m22_29) rfl rfl) ?_
  show Run p e below _ (T113.setTop (mkF m 30 #[.val (.ref b), .val (.ref x), .val (.int (Int32.ofNat (ds).length))] [(.ref x), (.int (Int32.ofNat (cs).length)), (.ref b)]))
  refine callVi X113 hx hZ hown (wd hw 105 rfl) (own_decl (wd hw 106 rfl) (wd hw 109 rfl)) (notFace_of_selects (args := #[]) (mvT hZ (wd hw 108 rfl))) (wd hw 108 rfl) (wd hw 106 rfl) (wd hw 109 rfl) (wd hw 33 rfl) (by decide) e113 E_b (argsL := [(.int (Int32.ofNat (cs).length)), (.ref x)]) (rest := []) (rm_psa l Z a0 hw [] zc b da kd (34 : Int32) cs x t kb ds h0 n0 O0 S_COMPACT_STRINGS hzc E_b F_value_b F_coder_b F_count_b V_da E_da g_b g_da T_x ne_da_t (by show _ ≤ 34; omega) (by omega) (by omega)) (W := 0) (by decide) (by decide) (by decide) (by decide) (by rw [hml]; rfl) (lenOf pd_14 rfl) rfl (Nat.le_of_eq rfl) (hb hby d_j68_m22_30) ?_
  intro v114 T114 L114 h114 X114 e114 q114
  have ne_b_da : b ≠ da := ne_exa E_b E_da (by decide)
  have ne_x_da : x ≠ da := ne_exa T_x.1 E_da (by decide)
  obtain ⟨rfl, n114, K114, V_da⟩ := q114
  have O0 := O0.keep K114 (allS g_da all0)
  have E_b := E_b.keep K114
  have F_value_b := F_value_b.keep K114 (ninS ne_b_da nin0)
  have F_coder_b := F_coder_b.keep K114 (ninS ne_b_da nin0)
  have F_count_b := F_count_b.keep K114 (ninS ne_b_da nin0)
  have E_da := E_da.keep K114
  have T_x := T_x.keep K114 (ninS ne_x_da nin0) (ninS (Ne.symm ne_da_t) nin0)
  have K0 := K0.trans K114 (allS (Or.inl (by simp)) all0)
  have N114 := Fr.app N112 n114
  show Run p e below _ (T114.setTop (mkF m 33 #[.val (.ref b), .val (.ref x), .val (.int (Int32.ofNat (ds).length))] []))
  refine go (fun _ => XS.aloadN X114.here hx rfl (hb hby d_j68_m22_33) rfl rfl) ?_
  show Run p e below _ (T114.setTop (mkF m 34 #[.val (.ref b), .val (.ref x), .val (.int (Int32.ofNat (ds).length))] [(.ref b)]))
  refine go (fun _ => XS.dup X114.here hx rfl (hb hby d_j68_m22_34) rfl rfl) ?_
  show Run p e below _ (T114.setTop (mkF m 35 #[.val (.ref b), .val (.ref x), .val (.int (Int32.ofNat (ds).length))] [(.ref b), (.ref b)]))
  obtain ⟨T115, X115, e115, st115⟩ := getF X114 hx hZ hown (host := "") (Or.inl (wd hw 72 rfl)) Via.refl e114 F_count_b (g := (mkF m 35 #[.val (.ref b), .val (.ref x), .val (.int (Int32.ofNat (ds).length))] [(.ref b), (.ref b)])) rfl rfl (hb hby d_j68_m22_35)
  refine go st115 ?_
  show Run p e below _ (T115.setTop (mkF m 38 #[.val (.ref b), .val (.ref x), .val (.int (Int32.ofNat (ds).length))] [(.int (Int32.ofNat (cs).length)), (.ref b)]))
  refine go (fun _ => XS.iloadN X115.here hx rfl (hb hby d_j68_m22_38) rfl) ?_
  show Run p e below _ (T115.setTop (mkF m 39 #[.val (.ref b), .val (.ref x), .val (.int (Int32.ofNat (ds).length))] [(.int (Int32.ofNat (ds).length)), (.int (Int32.ofNat (cs).length)), (.ref b)]))
  refine go (fun _ => XS.iadd X115.here hx rfl (hb hby d_j68_m22_39) rfl) ?_
  rw [own_add]
  show Run p e below _ (T115.setTop (mkF m 40 #[.val (.ref b), .val (.ref x), .val (.int (Int32.ofNat (ds).length))] [(.int (Int32.ofNat ((cs).length + (ds).length))), (.ref b)]))
  obtain ⟨T116, h116, X116, e116, W116, st116⟩ := putF X115 hx hZ hown (host := "") (Or.inl (wd hw 72 rfl)) Via.refl e115 F_count_b E_b (Or.inl (wd hw 73 rfl)) (wd hw 24 rfl) (ty := .int) (by decide) rfl rfl (g := (mkF m 40 #[.val (.ref b), .val (.ref x), .val (.int (Int32.ofNat (ds).length))] [(.int (Int32.ofNat ((cs).length + (ds).length))), (.ref b)])) rfl rfl (hb hby d_j68_m22_40)
  have ne_x_b : x ≠ b := ne_exa T_x.1 E_b (by decide)
  have ne_t_b : t ≠ b := Ne.symm (Exa.neArv E_b T_x.2.2.2 (wd hw 24 rfl))
  have O0 := O0.wr W116 g_b
  have E_b := E_b.wr W116
  have F_value_b := F_value_b.other W116 (Or.inr (slot_ne (Or.inl (wd hw 40 rfl)) (Or.inl (wd hw 73 rfl)) (by decide) (t := (.array .byte)) (t' := .int) (by decide) (by decide)))
  have F_coder_b := F_coder_b.other W116 (Or.inr (slot_ne (Or.inl (wd hw 42 rfl)) (Or.inl (wd hw 73 rfl)) (by decide) (t := .byte) (t' := .int) (by decide) (by decide)))
  have F_count_b := F_count_b.same W116
  have E_da := E_da.wr W116
  have T_x := T_x.other W116 ne_x_b ne_t_b
  have K0 := K0.wr W116 (Or.inl (by simp))
  have V_da := V_da.other W116 (Ne.symm ne_b_da)
  have N116 := Fr.snoc X116 N114 g_b
  refine go st116 ?_
  show Run p e below _ (T116.setTop (mkF m 43 #[.val (.ref b), .val (.ref x), .val (.int (Int32.ofNat (ds).length))] []))
  refine go (fun _ => XS.aloadN X116.here hx rfl (hb hby d_j68_m22_43) rfl rfl) ?_
  show Run p e below _ (T116.setTop (mkF m 44 #[.val (.ref b), .val (.ref x), .val (.int (Int32.ofNat (ds).length))] [(.ref b)]))
  have F_count_b := (show Fld Z _ b "java/lang/AbstractStringBuilder" "count" "I" (.int (Int32.ofNat (cs ++ ds).length)) by rw [List.length_append]; exact F_count_b)
  exact endA X116 hx hlk (w := (.ref b)) hret rfl rfl (hb hby d_j68_m22_44) (by rw [e116]; exact ⟨rfl, N116, K0, F_value_b, F_coder_b, F_count_b, V_da⟩) (by decide) (by decide)
def Q_rm_sa0_34 (Z : State) (zc : Int32) (b da : Addr) (kd : ClassId) (cs : List Int32) (x t : Addr) (kb : ClassId) (ds : List Int32) (h0 : Heap) (n0 : Nat) (v : Option Value) (h : Heap) (L : List Loc) : Prop := v = some (.ref b) ∧ Fr n0 L ∧ Keep h0 h [b, da] ∧ Fld Z h b "java/lang/AbstractStringBuilder" "value" "[B" (.ref da) ∧ Fld Z h b "java/lang/AbstractStringBuilder" "coder" "B" (.int (0 : Int32)) ∧ Fld Z h b "java/lang/AbstractStringBuilder" "count" "I" (.int (Int32.ofNat ((cs ++ ds)).length)) ∧ Arv Z h da kd .byte (34 : Int32) (BY (cs ++ ds)) (.int 0)
set_option maxRecDepth 65536 in
set_option maxHeartbeats 40000000 in
theorem rm_sa0_34 (l : Launch) (Z : State) (a0 : Array Value) (hw : ∀ d ∈ tables_1, d.before a0 Z = true) (ws : List Jvm.Cond) (zc : Int32) (b da : Addr) (kd : ClassId) (cs : List Int32) (x t : Addr) (kb : ClassId) (ds : List Int32) (h0 : Heap) (n0 : Nat) (O0 : Old Z n0 h0) (S_COMPACT_STRINGS : Sta Z Z.heap "java/lang/String" "COMPACT_STRINGS" "Z" (.int zc)) (hzc : ¬ zc = 0) (E_b : Exa Z h0 b "java/lang/StringBuilder") (F_value_b : Fld Z h0 b "java/lang/AbstractStringBuilder" "value" "[B" (.ref da)) (F_coder_b : Fld Z h0 b "java/lang/AbstractStringBuilder" "coder" "B" (.int (0 : Int32))) (F_count_b : Fld Z h0 b "java/lang/AbstractStringBuilder" "count" "I" (.int (Int32.ofNat (cs).length))) (V_da : Arv Z h0 da kd .byte (34 : Int32) (BY cs) (.int 0)) (E_da : Exa Z h0 da "[B") (g_b : n0 ≤ b) (g_da : n0 ≤ da) (T_x : Str Z h0 x t kb ds) (ne_da_t : da ≠ t) (Hx : In8 ds) (hcs : cs.length ≤ 34) (h1 : cs.length + ds.length ≤ 34) :
    Meets l (⟨"java/lang/StringBuilder", "append", "(Ljava/lang/String;)Ljava/lang/StringBuilder;"⟩ : MethodName) jdk_67_method_7_code 2 (some (.object "java/lang/StringBuilder")) ws ({ frames := 4, cells := 0, slots := 0, locals := 83 } : Room) Z #[(.ref b), (.ref x)] h0 (Q_rm_sa0_34 Z zc b da kd cs x t kb ds h0 n0) 0 0 := by
  refine enter (Ls := #[.val (.ref b), .val (.ref x)]) (plainFor_of_name pn_3) (fun m => by first | (simp [entryFrame, mkF, argsToLocals, Value.category]; done) | rfl) ?_
  intro p e s m below meth c T0 hx hby hml hown hnm hret hlk hZ X0 e0
  have N0 := Fr.nil n0
  replace hown : s.vm.findClass "java/lang/StringBuilder" = some m.cls := hown
  show Run p e below _ (T0.setTop (mkF m 0 #[.val (.ref b), .val (.ref x)] []))
  have K0 := Keep.refl h0 [b, da]
  refine go (fun _ => XS.aloadN X0.here hx rfl (hb hby d_j67_m7_0) rfl rfl) ?_
  show Run p e below _ (T0.setTop (mkF m 1 #[.val (.ref b), .val (.ref x)] [(.ref b)]))
  refine go (fun _ => XS.aloadN X0.here hx rfl (hb hby d_j67_m7_1) rfl rfl) ?_
  show Run p e below _ (T0.setTop (mkF m 2 #[.val (.ref b), .val (.ref x)] [(.ref x), (.ref b)]))
  refine callUp X0 hx hZ hown (wd hw 54 rfl) (wd hw 55 rfl) (wd hw 56 rfl) (wd hw 58 rfl) (wd hw 33 rfl) (own_nf (wd hw 77 rfl) rfl) (by decide) (by decide) e0 (Ins.self E_b) (argsL := [(.ref x)]) (rest := []) (rm_as0_34 l Z a0 hw [] zc b da kd cs x t kb ds h0 n0 O0 S_COMPACT_STRINGS hzc E_b F_value_b F_coder_b F_count_b V_da E_da g_b g_da T_x ne_da_t Hx hcs h1) (W := 0) (by decide) (by decide) (by decide) (by decide) (by rw [hml]; rfl) (lenOf pd_15 rfl) rfl (Nat.le_of_eq rfl) (hb hby d_j67_m7_2) ?_
  intro v117 T117 L117 h117 X117 e117 q117
  have ne_x_b : x ≠ b := ne_exa T_x.1 E_b (by decide)
  have ne_t_b : t ≠ b := Ne.symm (Exa.neArv E_b T_x.2.2.2 (wd hw 24 rfl))
  have ne_x_da : x ≠ da := ne_exa T_x.1 E_da (by decide)
  obtain ⟨rfl, n117, K117, F_value_b, F_coder_b, F_count_b, V_da⟩ := q117
  have O0 := O0.keep K117 (allS g_b (allS g_da all0))
  have E_b := E_b.keep K117
  have E_da := E_da.keep K117
  have T_x := T_x.keep K117 (ninS ne_x_b (ninS ne_x_da nin0)) (ninS ne_t_b (ninS (Ne.symm ne_da_t) nin0))
  have K0 := K0.trans K117 (allS (Or.inl (by simp)) (allS (Or.inl (by simp)) all0))
  have N117 := Fr.app N0 n117
  show Run p e below _ (T117.setTop (mkF m 5 #[.val (.ref b), .val (.ref x)] [(.ref b)]))
  refine go (fun _ => XS.pop X117.here hx rfl (hb hby d_j67_m7_5) rfl rfl) ?_
  show Run p e below _ (T117.setTop (mkF m 6 #[.val (.ref b), .val (.ref x)] []))
  refine go (fun _ => XS.aloadN X117.here hx rfl (hb hby d_j67_m7_6) rfl rfl) ?_
  show Run p e below _ (T117.setTop (mkF m 7 #[.val (.ref b), .val (.ref x)] [(.ref b)]))
  exact endA X117 hx hlk (w := (.ref b)) hret rfl rfl (hb hby d_j67_m7_7) (by rw [e117]; exact ⟨rfl, N117, K0, F_value_b, F_coder_b, F_count_b, V_da⟩) (by decide) (by decide)
def Q_rm_as1_34 (Z : State) (zc : Int32) (b da : Addr) (kd : ClassId) (cs : List Int32) (x t : Addr) (kb : ClassId) (ds : List Int32) (h0 : Heap) (n0 : Nat) (v : Option Value) (h : Heap) (L : List Loc) : Prop := ∃ (d2 : Addr) (k2 : ClassId), v = some (.ref b) ∧ Fr n0 L ∧ Keep h0 h [b] ∧ h0.size ≤ d2 ∧ n0 ≤ d2 ∧ Exa Z h d2 "[B" ∧ Fld Z h b "java/lang/AbstractStringBuilder" "value" "[B" (.ref d2) ∧ Fld Z h b "java/lang/AbstractStringBuilder" "coder" "B" (.int (0 : Int32)) ∧ Fld Z h b "java/lang/AbstractStringBuilder" "count" "I" (.int (Int32.ofNat ((cs ++ ds)).length)) ∧ Arv Z h d2 k2 .byte (70 : Int32) (BY (cs ++ ds)) (.int 0)
set_option maxRecDepth 65536 in
set_option maxHeartbeats 40000000 in
theorem rm_as1_34 (l : Launch) (Z : State) (a0 : Array Value) (hw : ∀ d ∈ tables_1, d.before a0 Z = true) (ws : List Jvm.Cond) (zc : Int32) (b da : Addr) (kd : ClassId) (cs : List Int32) (x t : Addr) (kb : ClassId) (ds : List Int32) (h0 : Heap) (n0 : Nat) (O0 : Old Z n0 h0) (S_COMPACT_STRINGS : Sta Z Z.heap "java/lang/String" "COMPACT_STRINGS" "Z" (.int zc)) (hzc : ¬ zc = 0) (E_b : Exa Z h0 b "java/lang/StringBuilder") (F_value_b : Fld Z h0 b "java/lang/AbstractStringBuilder" "value" "[B" (.ref da)) (F_coder_b : Fld Z h0 b "java/lang/AbstractStringBuilder" "coder" "B" (.int (0 : Int32))) (F_count_b : Fld Z h0 b "java/lang/AbstractStringBuilder" "count" "I" (.int (Int32.ofNat (cs).length))) (V_da : Arv Z h0 da kd .byte (34 : Int32) (BY cs) (.int 0)) (E_da : Exa Z h0 da "[B") (g_b : n0 ≤ b) (g_da : n0 ≤ da) (T_x : Str Z h0 x t kb ds) (ne_da_t : da ≠ t) (Hx : In8 ds) (hcs : cs.length ≤ 34) (h1 : 34 < cs.length + ds.length) (h2 : cs.length + ds.length < 70) :
    Meets l (⟨"java/lang/AbstractStringBuilder", "append", "(Ljava/lang/String;)Ljava/lang/AbstractStringBuilder;"⟩ : MethodName) jdk_68_method_22_code 3 (some (.object "java/lang/AbstractStringBuilder")) ws ({ frames := 4, cells := 1, slots := 70, locals := 69 } : Room) Z #[(.ref b), (.ref x)] h0 (Q_rm_as1_34 Z zc b da kd cs x t kb ds h0 n0) 1 70 := by
  refine enter (Ls := #[.val (.ref b), .val (.ref x), .unset]) (plainFor_of_name pn_2) (fun m => by first | (simp [entryFrame, mkF, argsToLocals, Value.category]; done) | rfl) ?_
  intro p e s m below meth c T0 hx hby hml hown hnm hret hlk hZ X0 e0
  have N0 := Fr.nil n0
  replace hown : s.vm.findClass "java/lang/AbstractStringBuilder" = some m.cls := hown
  show Run p e below _ (T0.setTop (mkF m 0 #[.val (.ref b), .val (.ref x), .unset] []))
  have K0 := Keep.refl h0 [b]
  refine go (fun _ => XS.aloadN X0.here hx rfl (hb hby d_j68_m22_0) rfl rfl) ?_
  show Run p e below _ (T0.setTop (mkF m 1 #[.val (.ref b), .val (.ref x), .unset] [(.ref x)]))
  refine go (fun _ => XS.ifnonnullYes X0.here hx rfl (pc0 := 1) (pc' := 9) rfl (hb hby d_j68_m22_1) rfl (by decide) (by decide)) ?_
  show Run p e below _ (T0.setTop (mkF m 9 #[.val (.ref b), .val (.ref x), .unset] []))
  refine go (fun _ => XS.aloadN X0.here hx rfl (hb hby d_j68_m22_9) rfl rfl) ?_
  show Run p e below _ (T0.setTop (mkF m 10 #[.val (.ref b), .val (.ref x), .unset] [(.ref x)]))
  refine callVi X0 hx hZ hown (wd hw 59 rfl) (wd hw 60 rfl) (notFace_of_selects (args := #[]) (mvT hZ (wd hw 62 rfl))) (wd hw 62 rfl) (wd hw 61 rfl) (wd hw 63 rfl) (wd hw 37 rfl) (by decide) e0 T_x.1 (argsL := []) (rest := []) (rm_len l Z a0 hw [] zc x t kb ds h0 n0 O0 S_COMPACT_STRINGS hzc T_x) (W := 0) (by decide) (by decide) (by decide) (by decide) (by rw [hml]; rfl) (lenOf pd_13 rfl) rfl (Nat.le_of_eq rfl) (hb hby d_j68_m22_10) ?_
  intro v118 T118 L118 h118 X118 e118 q118
  obtain ⟨rv, n118, k118⟩ := q118
  replace rv : v118 = some (.int (Int32.ofNat (ds).length)) := rv
  subst rv
  have e118 := e118.trans k118
  have N118 := Fr.app N0 n118
  show Run p e below _ (T118.setTop (mkF m 13 #[.val (.ref b), .val (.ref x), .unset] [(.int (Int32.ofNat (ds).length))]))
  refine go (fun _ => XS.istoreN X118.here hx rfl (hb hby d_j68_m22_13) rfl (l' := #[.val (.ref b), .val (.ref x), .val (.int (Int32.ofNat (ds).length))]) rfl) ?_
  show Run p e below _ (T118.setTop (mkF m 14 #[.val (.ref b), .val (.ref x), .val (.int (Int32.ofNat (ds).length))] []))
  refine go (fun _ => XS.aloadN X118.here hx rfl (hb hby d_j68_m22_14) rfl rfl) ?_
  show Run p e below _ (T118.setTop (mkF m 15 #[.val (.ref b), .val (.ref x), .val (.int (Int32.ofNat (ds).length))] [(.ref b)]))
  refine go (fun _ => XS.aloadN X118.here hx rfl (hb hby d_j68_m22_15) rfl rfl) ?_
  show Run p e below _ (T118.setTop (mkF m 16 #[.val (.ref b), .val (.ref x), .val (.int (Int32.ofNat (ds).length))] [(.ref b), (.ref b)]))
  obtain ⟨T119, X119, e119, st119⟩ := getF X118 hx hZ hown (host := "") (Or.inl (wd hw 72 rfl)) Via.refl e118 F_count_b (g := (mkF m 16 #[.val (.ref b), .val (.ref x), .val (.int (Int32.ofNat (ds).length))] [(.ref b), (.ref b)])) rfl rfl (hb hby d_j68_m22_16)
  refine go st119 ?_
  show Run p e below _ (T119.setTop (mkF m 19 #[.val (.ref b), .val (.ref x), .val (.int (Int32.ofNat (ds).length))] [(.int (Int32.ofNat (cs).length)), (.ref b)]))
  refine go (fun _ => XS.iloadN X119.here hx rfl (hb hby d_j68_m22_19) rfl) ?_
  show Run p e below _ (T119.setTop (mkF m 20 #[.val (.ref b), .val (.ref x), .val (.int (Int32.ofNat (ds).length))] [(.int (Int32.ofNat (ds).length)), (.int (Int32.ofNat (cs).length)), (.ref b)]))
  refine go (fun _ => XS.iadd X119.here hx rfl (hb hby d_j68_m22_20) rfl) ?_
  rw [own_add]
  show Run p e below _ (T119.setTop (mkF m 21 #[.val (.ref b), .val (.ref x), .val (.int (Int32.ofNat (ds).length))] [(.int (Int32.ofNat ((cs).length + (ds).length))), (.ref b)]))
  refine callVi X119 hx hZ hown (wd hw 74 rfl) (own_decl (wd hw 75 rfl) (wd hw 78 rfl)) (notFace_of_selects (args := #[]) (mvT hZ (wd hw 77 rfl))) (wd hw 77 rfl) (wd hw 75 rfl) (wd hw 78 rfl) (wd hw 33 rfl) (by decide) e119 E_b (argsL := [(.int (Int32.ofNat ((cs).length + (ds).length)))]) (rest := []) (rm_en1_34 l Z a0 hw [] b da kd cs (cs.length + ds.length) h0 n0 O0 E_b F_value_b F_coder_b F_count_b V_da E_da g_b g_da (by omega) (by have k1_ : (34 : Int32).toInt = 34 := (by decide); have k2_ : (36 : Int32).toInt = 36 := (by decide); omega) (by have k1_ : (34 : Int32).toInt = 34 := (by decide); have k2_ : (36 : Int32).toInt = 36 := (by decide); omega) hcs) (W := 0) (by decide) (by decide) (by decide) (by decide) (by rw [hml]; rfl) (lenOf pd_1 rfl) rfl (Nat.le_of_eq rfl) (hb hby d_j68_m22_21) ?_
  intro v120 T120 L120 h120 X120 e120 q120
  have ne_da_b : da ≠ b := ne_exa E_da E_b (by decide)
  have ne_x_b : x ≠ b := ne_exa T_x.1 E_b (by decide)
  have ne_t_b : t ≠ b := Ne.symm (Exa.neArv E_b T_x.2.2.2 (wd hw 24 rfl))
  have lt121_b := E_b.lt
  have lt121_da := V_da.lt
  have lt121_x := T_x.1.lt
  have lt121_t := T_x.2.2.2.lt
  obtain ⟨d120, kd120, rfl, n120, K120, sb120, g_d120, E_d120, F_value_b, F_coder_b, F_count_b, V_d120⟩ := q120
  have szq120 := K0.1
  have ne_b_d120 : b ≠ d120 := Nat.ne_of_lt (Nat.lt_of_lt_of_le lt121_b sb120)
  have ne_da_d120 : da ≠ d120 := Nat.ne_of_lt (Nat.lt_of_lt_of_le lt121_da sb120)
  have ne_x_d120 : x ≠ d120 := Nat.ne_of_lt (Nat.lt_of_lt_of_le lt121_x sb120)
  have ne_t_d120 : t ≠ d120 := Nat.ne_of_lt (Nat.lt_of_lt_of_le lt121_t sb120)
  have sz_d120 : h0.size ≤ d120 := Nat.le_trans szq120 sb120
  have O0 := O0.keep K120 (allS g_b all0)
  have E_b := E_b.keep K120
  have E_da := E_da.keep K120
  have T_x := T_x.keep K120 (ninS ne_x_b nin0) (ninS ne_t_b nin0)
  have K0 := K0.trans K120 (allS (Or.inl (by simp)) all0)
  have N120 := Fr.app N118 n120
  show Run p e below _ (T120.setTop (mkF m 24 #[.val (.ref b), .val (.ref x), .val (.int (Int32.ofNat (ds).length))] []))
  refine go (fun _ => XS.aloadN X120.here hx rfl (hb hby d_j68_m22_24) rfl rfl) ?_
  show Run p e below _ (T120.setTop (mkF m 25 #[.val (.ref b), .val (.ref x), .val (.int (Int32.ofNat (ds).length))] [(.ref b)]))
  refine go (fun _ => XS.aloadN X120.here hx rfl (hb hby d_j68_m22_25) rfl rfl) ?_
  show Run p e below _ (T120.setTop (mkF m 26 #[.val (.ref b), .val (.ref x), .val (.int (Int32.ofNat (ds).length))] [(.ref b), (.ref b)]))
  obtain ⟨T122, X122, e122, st122⟩ := getF X120 hx hZ hown (host := "") (Or.inl (wd hw 72 rfl)) Via.refl e120 F_count_b (g := (mkF m 26 #[.val (.ref b), .val (.ref x), .val (.int (Int32.ofNat (ds).length))] [(.ref b), (.ref b)])) rfl rfl (hb hby d_j68_m22_26)
  refine go st122 ?_
  show Run p e below _ (T122.setTop (mkF m 29 #[.val (.ref b), .val (.ref x), .val (.int (Int32.ofNat (ds).length))] [(.int (Int32.ofNat (cs).length)), (.ref b)]))
  refine go (fun _ => XS.aloadN X122.here hx rfl (hb hby d_j68_m22_29) rfl rfl) ?_
  show Run p e below _ (T122.setTop (mkF m 30 #[.val (.ref b), .val (.ref x), .val (.int (Int32.ofNat (ds).length))] [(.ref x), (.int (Int32.ofNat (cs).length)), (.ref b)]))
  refine callVi X122 hx hZ hown (wd hw 105 rfl) (own_decl (wd hw 106 rfl) (wd hw 109 rfl)) (notFace_of_selects (args := #[]) (mvT hZ (wd hw 108 rfl))) (wd hw 108 rfl) (wd hw 106 rfl) (wd hw 109 rfl) (wd hw 33 rfl) (by decide) e122 E_b (argsL := [(.int (Int32.ofNat (cs).length)), (.ref x)]) (rest := []) (rm_psa l Z a0 hw [] zc b d120 kd120 (70 : Int32) cs x t kb ds h120 n0 O0 S_COMPACT_STRINGS hzc E_b F_value_b F_coder_b F_count_b V_d120 E_d120 g_b g_d120 T_x (Ne.symm ne_t_d120) (by show _ ≤ 70; omega) (by omega) (by omega)) (W := 0) (by decide) (by decide) (by decide) (by decide) (by rw [hml]; rfl) (lenOf pd_14 rfl) rfl (Nat.le_of_eq rfl) (hb hby d_j68_m22_30) ?_
  intro v123 T123 L123 h123 X123 e123 q123
  obtain ⟨rfl, n123, K123, V_d120⟩ := q123
  have O0 := O0.keep K123 (allS g_d120 all0)
  have E_b := E_b.keep K123
  have E_da := E_da.keep K123
  have T_x := T_x.keep K123 (ninS ne_x_d120 nin0) (ninS ne_t_d120 nin0)
  have K0 := K0.trans K123 (allS (Or.inr sz_d120) all0)
  have E_d120 := E_d120.keep K123
  have F_value_b := F_value_b.keep K123 (ninS ne_b_d120 nin0)
  have F_coder_b := F_coder_b.keep K123 (ninS ne_b_d120 nin0)
  have F_count_b := F_count_b.keep K123 (ninS ne_b_d120 nin0)
  have N123 := Fr.app N120 n123
  show Run p e below _ (T123.setTop (mkF m 33 #[.val (.ref b), .val (.ref x), .val (.int (Int32.ofNat (ds).length))] []))
  refine go (fun _ => XS.aloadN X123.here hx rfl (hb hby d_j68_m22_33) rfl rfl) ?_
  show Run p e below _ (T123.setTop (mkF m 34 #[.val (.ref b), .val (.ref x), .val (.int (Int32.ofNat (ds).length))] [(.ref b)]))
  refine go (fun _ => XS.dup X123.here hx rfl (hb hby d_j68_m22_34) rfl rfl) ?_
  show Run p e below _ (T123.setTop (mkF m 35 #[.val (.ref b), .val (.ref x), .val (.int (Int32.ofNat (ds).length))] [(.ref b), (.ref b)]))
  obtain ⟨T124, X124, e124, st124⟩ := getF X123 hx hZ hown (host := "") (Or.inl (wd hw 72 rfl)) Via.refl e123 F_count_b (g := (mkF m 35 #[.val (.ref b), .val (.ref x), .val (.int (Int32.ofNat (ds).length))] [(.ref b), (.ref b)])) rfl rfl (hb hby d_j68_m22_35)
  refine go st124 ?_
  show Run p e below _ (T124.setTop (mkF m 38 #[.val (.ref b), .val (.ref x), .val (.int (Int32.ofNat (ds).length))] [(.int (Int32.ofNat (cs).length)), (.ref b)]))
  refine go (fun _ => XS.iloadN X124.here hx rfl (hb hby d_j68_m22_38) rfl) ?_
  show Run p e below _ (T124.setTop (mkF m 39 #[.val (.ref b), .val (.ref x), .val (.int (Int32.ofNat (ds).length))] [(.int (Int32.ofNat (ds).length)), (.int (Int32.ofNat (cs).length)), (.ref b)]))
  refine go (fun _ => XS.iadd X124.here hx rfl (hb hby d_j68_m22_39) rfl) ?_
  rw [own_add]
  show Run p e below _ (T124.setTop (mkF m 40 #[.val (.ref b), .val (.ref x), .val (.int (Int32.ofNat (ds).length))] [(.int (Int32.ofNat ((cs).length + (ds).length))), (.ref b)]))
  obtain ⟨T125, h125, X125, e125, W125, st125⟩ := putF X124 hx hZ hown (host := "") (Or.inl (wd hw 72 rfl)) Via.refl e124 F_count_b E_b (Or.inl (wd hw 73 rfl)) (wd hw 24 rfl) (ty := .int) (by decide) rfl rfl (g := (mkF m 40 #[.val (.ref b), .val (.ref x), .val (.int (Int32.ofNat (ds).length))] [(.int (Int32.ofNat ((cs).length + (ds).length))), (.ref b)])) rfl rfl (hb hby d_j68_m22_40)
  have O0 := O0.wr W125 g_b
  have E_b := E_b.wr W125
  have E_da := E_da.wr W125
  have T_x := T_x.other W125 ne_x_b ne_t_b
  have K0 := K0.wr W125 (Or.inl (by simp))
  have E_d120 := E_d120.wr W125
  have F_value_b := F_value_b.other W125 (Or.inr (slot_ne (Or.inl (wd hw 40 rfl)) (Or.inl (wd hw 73 rfl)) (by decide) (t := (.array .byte)) (t' := .int) (by decide) (by decide)))
  have F_coder_b := F_coder_b.other W125 (Or.inr (slot_ne (Or.inl (wd hw 42 rfl)) (Or.inl (wd hw 73 rfl)) (by decide) (t := .byte) (t' := .int) (by decide) (by decide)))
  have F_count_b := F_count_b.same W125
  have V_d120 := V_d120.other W125 (Ne.symm ne_b_d120)
  have N125 := Fr.snoc X125 N123 g_b
  refine go st125 ?_
  show Run p e below _ (T125.setTop (mkF m 43 #[.val (.ref b), .val (.ref x), .val (.int (Int32.ofNat (ds).length))] []))
  refine go (fun _ => XS.aloadN X125.here hx rfl (hb hby d_j68_m22_43) rfl rfl) ?_
  show Run p e below _ (T125.setTop (mkF m 44 #[.val (.ref b), .val (.ref x), .val (.int (Int32.ofNat (ds).length))] [(.ref b)]))
  have F_count_b := (show Fld Z _ b "java/lang/AbstractStringBuilder" "count" "I" (.int (Int32.ofNat (cs ++ ds).length)) by rw [List.length_append]; exact F_count_b)
  exact endA X125 hx hlk (w := (.ref b)) hret rfl rfl (hb hby d_j68_m22_44) (by rw [e125]; exact ⟨d120, _, rfl, N125, K0, sz_d120, g_d120, E_d120, F_value_b, F_coder_b, F_count_b, V_d120⟩) (by decide) (by decide)
def Q_rm_sa1_34 (Z : State) (zc : Int32) (b da : Addr) (kd : ClassId) (cs : List Int32) (x t : Addr) (kb : ClassId) (ds : List Int32) (h0 : Heap) (n0 : Nat) (v : Option Value) (h : Heap) (L : List Loc) : Prop := ∃ (d2 : Addr) (k2 : ClassId), v = some (.ref b) ∧ Fr n0 L ∧ Keep h0 h [b] ∧ h0.size ≤ d2 ∧ n0 ≤ d2 ∧ Exa Z h d2 "[B" ∧ Fld Z h b "java/lang/AbstractStringBuilder" "value" "[B" (.ref d2) ∧ Fld Z h b "java/lang/AbstractStringBuilder" "coder" "B" (.int (0 : Int32)) ∧ Fld Z h b "java/lang/AbstractStringBuilder" "count" "I" (.int (Int32.ofNat ((cs ++ ds)).length)) ∧ Arv Z h d2 k2 .byte (70 : Int32) (BY (cs ++ ds)) (.int 0)
set_option maxRecDepth 65536 in
set_option maxHeartbeats 40000000 in
theorem rm_sa1_34 (l : Launch) (Z : State) (a0 : Array Value) (hw : ∀ d ∈ tables_1, d.before a0 Z = true) (ws : List Jvm.Cond) (zc : Int32) (b da : Addr) (kd : ClassId) (cs : List Int32) (x t : Addr) (kb : ClassId) (ds : List Int32) (h0 : Heap) (n0 : Nat) (O0 : Old Z n0 h0) (S_COMPACT_STRINGS : Sta Z Z.heap "java/lang/String" "COMPACT_STRINGS" "Z" (.int zc)) (hzc : ¬ zc = 0) (E_b : Exa Z h0 b "java/lang/StringBuilder") (F_value_b : Fld Z h0 b "java/lang/AbstractStringBuilder" "value" "[B" (.ref da)) (F_coder_b : Fld Z h0 b "java/lang/AbstractStringBuilder" "coder" "B" (.int (0 : Int32))) (F_count_b : Fld Z h0 b "java/lang/AbstractStringBuilder" "count" "I" (.int (Int32.ofNat (cs).length))) (V_da : Arv Z h0 da kd .byte (34 : Int32) (BY cs) (.int 0)) (E_da : Exa Z h0 da "[B") (g_b : n0 ≤ b) (g_da : n0 ≤ da) (T_x : Str Z h0 x t kb ds) (ne_da_t : da ≠ t) (Hx : In8 ds) (hcs : cs.length ≤ 34) (h1 : 34 < cs.length + ds.length) (h2 : cs.length + ds.length < 70) :
    Meets l (⟨"java/lang/StringBuilder", "append", "(Ljava/lang/String;)Ljava/lang/StringBuilder;"⟩ : MethodName) jdk_67_method_7_code 2 (some (.object "java/lang/StringBuilder")) ws ({ frames := 5, cells := 1, slots := 70, locals := 83 } : Room) Z #[(.ref b), (.ref x)] h0 (Q_rm_sa1_34 Z zc b da kd cs x t kb ds h0 n0) 1 70 := by
  refine enter (Ls := #[.val (.ref b), .val (.ref x)]) (plainFor_of_name pn_3) (fun m => by first | (simp [entryFrame, mkF, argsToLocals, Value.category]; done) | rfl) ?_
  intro p e s m below meth c T0 hx hby hml hown hnm hret hlk hZ X0 e0
  have N0 := Fr.nil n0
  replace hown : s.vm.findClass "java/lang/StringBuilder" = some m.cls := hown
  show Run p e below _ (T0.setTop (mkF m 0 #[.val (.ref b), .val (.ref x)] []))
  have K0 := Keep.refl h0 [b]
  refine go (fun _ => XS.aloadN X0.here hx rfl (hb hby d_j67_m7_0) rfl rfl) ?_
  show Run p e below _ (T0.setTop (mkF m 1 #[.val (.ref b), .val (.ref x)] [(.ref b)]))
  refine go (fun _ => XS.aloadN X0.here hx rfl (hb hby d_j67_m7_1) rfl rfl) ?_
  show Run p e below _ (T0.setTop (mkF m 2 #[.val (.ref b), .val (.ref x)] [(.ref x), (.ref b)]))
  refine callUp X0 hx hZ hown (wd hw 54 rfl) (wd hw 55 rfl) (wd hw 56 rfl) (wd hw 58 rfl) (wd hw 33 rfl) (own_nf (wd hw 77 rfl) rfl) (by decide) (by decide) e0 (Ins.self E_b) (argsL := [(.ref x)]) (rest := []) (rm_as1_34 l Z a0 hw [] zc b da kd cs x t kb ds h0 n0 O0 S_COMPACT_STRINGS hzc E_b F_value_b F_coder_b F_count_b V_da E_da g_b g_da T_x ne_da_t Hx hcs h1 h2) (W := 0) (by decide) (by decide) (by decide) (by decide) (by rw [hml]; rfl) (lenOf pd_15 rfl) rfl (Nat.le_of_eq rfl) (hb hby d_j67_m7_2) ?_
  intro v126 T126 L126 h126 X126 e126 q126
  have ne_da_b : da ≠ b := ne_exa E_da E_b (by decide)
  have ne_x_b : x ≠ b := ne_exa T_x.1 E_b (by decide)
  have ne_t_b : t ≠ b := Ne.symm (Exa.neArv E_b T_x.2.2.2 (wd hw 24 rfl))
  have lt127_b := E_b.lt
  have lt127_da := V_da.lt
  have lt127_x := T_x.1.lt
  have lt127_t := T_x.2.2.2.lt
  obtain ⟨d126, kd126, rfl, n126, K126, sb126, g_d126, E_d126, F_value_b, F_coder_b, F_count_b, V_d126⟩ := q126
  have szq126 := K0.1
  have ne_b_d126 : b ≠ d126 := Nat.ne_of_lt (Nat.lt_of_lt_of_le lt127_b sb126)
  have ne_da_d126 : da ≠ d126 := Nat.ne_of_lt (Nat.lt_of_lt_of_le lt127_da sb126)
  have ne_x_d126 : x ≠ d126 := Nat.ne_of_lt (Nat.lt_of_lt_of_le lt127_x sb126)
  have ne_t_d126 : t ≠ d126 := Nat.ne_of_lt (Nat.lt_of_lt_of_le lt127_t sb126)
  have sz_d126 : h0.size ≤ d126 := Nat.le_trans szq126 sb126
  have O0 := O0.keep K126 (allS g_b all0)
  have E_b := E_b.keep K126
  have E_da := E_da.keep K126
  have T_x := T_x.keep K126 (ninS ne_x_b nin0) (ninS ne_t_b nin0)
  have K0 := K0.trans K126 (allS (Or.inl (by simp)) all0)
  have N126 := Fr.app N0 n126
  show Run p e below _ (T126.setTop (mkF m 5 #[.val (.ref b), .val (.ref x)] [(.ref b)]))
  refine go (fun _ => XS.pop X126.here hx rfl (hb hby d_j67_m7_5) rfl rfl) ?_
  show Run p e below _ (T126.setTop (mkF m 6 #[.val (.ref b), .val (.ref x)] []))
  refine go (fun _ => XS.aloadN X126.here hx rfl (hb hby d_j67_m7_6) rfl rfl) ?_
  show Run p e below _ (T126.setTop (mkF m 7 #[.val (.ref b), .val (.ref x)] [(.ref b)]))
  exact endA X126 hx hlk (w := (.ref b)) hret rfl rfl (hb hby d_j67_m7_7) (by rw [e126]; exact ⟨d126, _, rfl, N126, K0, sz_d126, g_d126, E_d126, F_value_b, F_coder_b, F_count_b, V_d126⟩) (by decide) (by decide)
theorem d_j68_m68_0 : decode jdk_68_method_68_code 0 = .ok (.getstatic 18, 3) := by decide +kernel
theorem d_j68_m68_3 : decode jdk_68_method_68_code 3 = .ok (.ifCond .eq 14, 3) := by decide +kernel
theorem d_j68_m68_6 : decode jdk_68_method_68_code 6 = .ok (.aload_n 0, 1) := by decide +kernel
theorem d_j68_m68_7 : decode jdk_68_method_68_code 7 = .ok (.getfield 22, 3) := by decide +kernel
theorem d_j68_m68_10 : decode jdk_68_method_68_code 10 = .ok (.ifCond .ne 7, 3) := by decide +kernel
theorem d_j68_m68_13 : decode jdk_68_method_68_code 13 = .ok (.iconst 1, 1) := by decide +kernel
theorem d_j68_m68_14 : decode jdk_68_method_68_code 14 = .ok (.goto 4, 3) := by decide +kernel
theorem d_j68_m68_18 : decode jdk_68_method_68_code 18 = .ok (.ireturn, 1) := by decide +kernel
def Q_rm_il (zc : Int32) (b : Addr) (h0 : Heap) (n0 : Nat) (v : Option Value) (h : Heap) (L : List Loc) : Prop := v = some (.int 1) ∧ Fr n0 L ∧ h = h0
set_option maxRecDepth 65536 in
set_option maxHeartbeats 40000000 in
theorem rm_il (l : Launch) (Z : State) (a0 : Array Value) (hw : ∀ d ∈ tables_1, d.before a0 Z = true) (ws : List Jvm.Cond) (zc : Int32) (b : Addr) (h0 : Heap) (n0 : Nat) (O0 : Old Z n0 h0) (S_COMPACT_STRINGS : Sta Z Z.heap "java/lang/String" "COMPACT_STRINGS" "Z" (.int zc)) (hzc : ¬ zc = 0) (F_coder_b : Fld Z h0 b "java/lang/AbstractStringBuilder" "coder" "B" (.int (0 : Int32))) :
    Meets l (⟨"java/lang/AbstractStringBuilder", "isLatin1", "()Z"⟩ : MethodName) jdk_68_method_68_code 1 (some .boolean) ws ({ frames := 0, cells := 0, slots := 0, locals := 0 } : Room) Z #[(.ref b)] h0 (Q_rm_il zc b h0 n0) 0 0 := by
  refine enter (Ls := #[.val (.ref b)]) (plainFor_of_name pn_2) (fun m => by first | (simp [entryFrame, mkF, argsToLocals, Value.category]; done) | rfl) ?_
  intro p e s m below meth c T0 hx hby hml hown hnm hret hlk hZ X0 e0
  have N0 := Fr.nil n0
  replace hown : s.vm.findClass "java/lang/AbstractStringBuilder" = some m.cls := hown
  show Run p e below _ (T0.setTop (mkF m 0 #[.val (.ref b)] []))
  obtain ⟨T128, X128, e128, st128⟩ := getS2 X0 hx hZ hown (host := "") (Or.inl (wd hw 36 rfl)) Via.refl e0 (S_COMPACT_STRINGS.ext O0.2) (g := (mkF m 0 #[.val (.ref b)] [])) rfl (hb hby d_j68_m68_0)
  refine go st128 ?_
  show Run p e below _ (T128.setTop (mkF m 3 #[.val (.ref b)] [(.int zc)]))
  refine go (fun _ => XS.ifNo X128.here hx rfl (hb hby d_j68_m68_3) rfl ((if0 _ _).trans (feq hzc).1)) ?_
  show Run p e below _ (T128.setTop (mkF m 6 #[.val (.ref b)] []))
  refine go (fun _ => XS.aloadN X128.here hx rfl (hb hby d_j68_m68_6) rfl rfl) ?_
  show Run p e below _ (T128.setTop (mkF m 7 #[.val (.ref b)] [(.ref b)]))
  obtain ⟨T129, X129, e129, st129⟩ := getF X128 hx hZ hown (host := "") (Or.inl (wd hw 41 rfl)) Via.refl e128 F_coder_b (g := (mkF m 7 #[.val (.ref b)] [(.ref b)])) rfl rfl (hb hby d_j68_m68_7)
  refine go st129 ?_
  show Run p e below _ (T129.setTop (mkF m 10 #[.val (.ref b)] [(.int (0 : Int32))]))
  refine go (fun _ => XS.ifNo X129.here hx rfl (hb hby d_j68_m68_10) rfl ((if0 _ _).trans (teq (by decide : (0 : Int32) = 0)).2)) ?_
  show Run p e below _ (T129.setTop (mkF m 13 #[.val (.ref b)] []))
  refine go (fun _ => XS.iconst X129.here hx rfl (hb hby d_j68_m68_13)) ?_
  show Run p e below _ (T129.setTop (mkF m 14 #[.val (.ref b)] [(.int (1 : Int32))]))
  refine go (fun _ => XS.goto X129.here hx rfl (pc0 := 14) (pc' := 18) rfl (hb hby d_j68_m68_14) (by decide) (by decide)) ?_
  show Run p e below _ (T129.setTop (mkF m 18 #[.val (.ref b)] [(.int (1 : Int32))]))
  exact endN X129 hx hlk (t := .boolean) hret (by simp) (hb hby d_j68_m68_18) (⟨rfl, N0, e129⟩) (by decide) (by decide)
theorem own_gcB : jdk_33_method_12_code = SBG.GetChars.gcB := rfl
theorem own_ssB : jdk_33_method_13_code = SBG.StrSize.ssB := rfl
theorem d_j68_m32_0 : decode jdk_68_method_32_code 0 = .ok (.aload_n 0, 1) := by decide +kernel
theorem d_j68_m32_1 : decode jdk_68_method_32_code 1 = .ok (.getfield 79, 3) := by decide +kernel
theorem d_j68_m32_4 : decode jdk_68_method_32_code 4 = .ok (.istore_n 2, 1) := by decide +kernel
theorem d_j68_m32_5 : decode jdk_68_method_32_code 5 = .ok (.iload_n 2, 1) := by decide +kernel
theorem d_j68_m32_6 : decode jdk_68_method_32_code 6 = .ok (.iload_n 1, 1) := by decide +kernel
theorem d_j68_m32_7 : decode jdk_68_method_32_code 7 = .ok (.invokestatic 245, 3) := by decide +kernel
theorem d_j68_m32_10 : decode jdk_68_method_32_code 10 = .ok (.iadd, 1) := by decide +kernel
theorem d_j68_m32_11 : decode jdk_68_method_32_code 11 = .ok (.istore_n 3, 1) := by decide +kernel
theorem d_j68_m32_12 : decode jdk_68_method_32_code 12 = .ok (.aload_n 0, 1) := by decide +kernel
theorem d_j68_m32_13 : decode jdk_68_method_32_code 13 = .ok (.iload_n 3, 1) := by decide +kernel
theorem d_j68_m32_14 : decode jdk_68_method_32_code 14 = .ok (.invokevirtual 100, 3) := by decide +kernel
theorem d_j68_m32_17 : decode jdk_68_method_32_code 17 = .ok (.aload_n 0, 1) := by decide +kernel
theorem d_j68_m32_18 : decode jdk_68_method_32_code 18 = .ok (.invokevirtual 83, 3) := by decide +kernel
theorem d_j68_m32_21 : decode jdk_68_method_32_code 21 = .ok (.ifCond .eq 16, 3) := by decide +kernel
theorem d_j68_m32_24 : decode jdk_68_method_32_code 24 = .ok (.iload_n 1, 1) := by decide +kernel
theorem d_j68_m32_25 : decode jdk_68_method_32_code 25 = .ok (.iload_n 3, 1) := by decide +kernel
theorem d_j68_m32_26 : decode jdk_68_method_32_code 26 = .ok (.aload_n 0, 1) := by decide +kernel
theorem d_j68_m32_27 : decode jdk_68_method_32_code 27 = .ok (.getfield 15, 3) := by decide +kernel
theorem d_j68_m32_30 : decode jdk_68_method_32_code 30 = .ok (.invokestatic 248, 3) := by decide +kernel
theorem pd_16 : parseMethodDescriptor "(II[B)I" = some ⟨[.int, .int, (.array .byte)], some .int⟩ := by decide +kernel
theorem d_j68_m32_33 : decode jdk_68_method_32_code 33 = .ok (.pop, 1) := by decide +kernel
theorem d_j68_m32_34 : decode jdk_68_method_32_code 34 = .ok (.goto 14, 3) := by decide +kernel
theorem d_j68_m32_48 : decode jdk_68_method_32_code 48 = .ok (.aload_n 0, 1) := by decide +kernel
theorem d_j68_m32_49 : decode jdk_68_method_32_code 49 = .ok (.iload_n 3, 1) := by decide +kernel
theorem d_j68_m32_50 : decode jdk_68_method_32_code 50 = .ok (.putfield 79, 3) := by decide +kernel
theorem d_j68_m32_53 : decode jdk_68_method_32_code 53 = .ok (.aload_n 0, 1) := by decide +kernel
theorem d_j68_m32_54 : decode jdk_68_method_32_code 54 = .ok (.areturn, 1) := by decide +kernel
def Q_rm_aI_16 (Z : State) (zc : Int32) (b da : Addr) (kd : ClassId) (cs : List Int32) (p1 : Int32) (n : Nat) (st d1 : Addr) (D1 : Cell) (d2 : Addr) (D2 : Cell) (h0 : Heap) (n0 : Nat) (v : Option Value) (h : Heap) (L : List Loc) : Prop := v = some (.ref b) ∧ Fr n0 L ∧ Keep h0 h [b, da] ∧ Fld Z h b "java/lang/AbstractStringBuilder" "value" "[B" (.ref da) ∧ Fld Z h b "java/lang/AbstractStringBuilder" "coder" "B" (.int (0 : Int32)) ∧ Fld Z h b "java/lang/AbstractStringBuilder" "count" "I" (.int (Int32.ofNat ((cs ++ decI p1 n)).length)) ∧ Arv Z h da kd .byte (16 : Int32) (BY (cs ++ decI p1 n)) (.int 0)
set_option maxRecDepth 65536 in
set_option maxHeartbeats 40000000 in
theorem rm_aI_16 (l : Launch) (Z : State) (a0 : Array Value) (hw : ∀ d ∈ tables_1, d.before a0 Z = true) (ws : List Jvm.Cond) (zc : Int32) (b da : Addr) (kd : ClassId) (cs : List Int32) (p1 : Int32) (n : Nat) (st d1 : Addr) (D1 : Cell) (d2 : Addr) (D2 : Cell) (h0 : Heap) (n0 : Nat) (O0 : Old Z n0 h0) (S_COMPACT_STRINGS : Sta Z Z.heap "java/lang/String" "COMPACT_STRINGS" "Z" (.int zc)) (hzc : ¬ zc = 0) (E_b : Exa Z h0 b "java/lang/StringBuilder") (F_value_b : Fld Z h0 b "java/lang/AbstractStringBuilder" "value" "[B" (.ref da)) (F_coder_b : Fld Z h0 b "java/lang/AbstractStringBuilder" "coder" "B" (.int (0 : Int32))) (F_count_b : Fld Z h0 b "java/lang/AbstractStringBuilder" "count" "I" (.int (Int32.ofNat (cs).length))) (V_da : Arv Z h0 da kd .byte (16 : Int32) (BY cs) (.int 0)) (E_da : Exa Z h0 da "[B") (g_b : n0 ≤ b) (g_da : n0 ≤ da) (hn : n ≤ 2 ^ 31) (hx1 : (if p1 < 0 then p1 else -p1) = SBG.negI n) (D : Dg Z st d1 D1 d2 D2) (hr : cs.length + (SBG.digits n + SBG.GetChars.sgn p1) ≤ 16) :
    Meets l (⟨"java/lang/AbstractStringBuilder", "append", "(I)Ljava/lang/AbstractStringBuilder;"⟩ : MethodName) jdk_68_method_32_code 4 (some (.object "java/lang/AbstractStringBuilder")) ws ({ frames := 2, cells := 0, slots := 0, locals := 78 } : Room) Z #[(.ref b), (.int p1)] h0 (Q_rm_aI_16 Z zc b da kd cs p1 n st d1 D1 d2 D2 h0 n0) 0 0 := by
  refine enter (Ls := #[.val (.ref b), .val (.int p1), .unset, .unset]) (plainFor_of_name pn_2) (fun m => by first | (simp [entryFrame, mkF, argsToLocals, Value.category]; done) | rfl) ?_
  intro p e s m below meth c T0 hx hby hml hown hnm hret hlk hZ X0 e0
  have N0 := Fr.nil n0
  replace hown : s.vm.findClass "java/lang/AbstractStringBuilder" = some m.cls := hown
  show Run p e below _ (T0.setTop (mkF m 0 #[.val (.ref b), .val (.int p1), .unset, .unset] []))
  have K0 := Keep.refl h0 [b, da]
  have ne_b_da : b ≠ da := ne_exa E_b E_da (by decide)
  refine go (fun _ => XS.aloadN X0.here hx rfl (hb hby d_j68_m32_0) rfl rfl) ?_
  show Run p e below _ (T0.setTop (mkF m 1 #[.val (.ref b), .val (.int p1), .unset, .unset] [(.ref b)]))
  obtain ⟨T130, X130, e130, st130⟩ := getF X0 hx hZ hown (host := "") (Or.inl (wd hw 72 rfl)) Via.refl e0 F_count_b (g := (mkF m 1 #[.val (.ref b), .val (.int p1), .unset, .unset] [(.ref b)])) rfl rfl (hb hby d_j68_m32_1)
  refine go st130 ?_
  show Run p e below _ (T130.setTop (mkF m 4 #[.val (.ref b), .val (.int p1), .unset, .unset] [(.int (Int32.ofNat (cs).length))]))
  refine go (fun _ => XS.istoreN X130.here hx rfl (hb hby d_j68_m32_4) rfl (l' := #[.val (.ref b), .val (.int p1), .val (.int (Int32.ofNat (cs).length)), .unset]) rfl) ?_
  show Run p e below _ (T130.setTop (mkF m 5 #[.val (.ref b), .val (.int p1), .val (.int (Int32.ofNat (cs).length)), .unset] []))
  refine go (fun _ => XS.iloadN X130.here hx rfl (hb hby d_j68_m32_5) rfl) ?_
  show Run p e below _ (T130.setTop (mkF m 6 #[.val (.ref b), .val (.int p1), .val (.int (Int32.ofNat (cs).length)), .unset] [(.int (Int32.ofNat (cs).length))]))
  refine go (fun _ => XS.iloadN X130.here hx rfl (hb hby d_j68_m32_6) rfl) ?_
  show Run p e below _ (T130.setTop (mkF m 7 #[.val (.ref b), .val (.int p1), .val (.int (Int32.ofNat (cs).length)), .unset] [(.int p1), (.int (Int32.ofNat (cs).length))]))
  refine callStK X130 hx hZ hown (wd hw 131 rfl) (wd hw 132 rfl) (wd hw 133 rfl) (wd hw 134 rfl) (by decide) e130 (argsL := [(.int p1)]) (rest := [(.int (Int32.ofNat (cs).length))]) (W := 1) (paySS (n0 := n0) hZ (own_ssB ▸ (wd hw 134 rfl)) (wd hw 133 rfl) hn hx1 (by decide) (by decide)) (by decide) (by decide) (by rw [hml]; rfl) (lenOf pd_9 rfl) rfl (Nat.le_of_eq rfl) (hb hby d_j68_m32_7) ?_
  intro v131 T131 L131 h131 X131 e131 q131
  obtain ⟨rv, n131, k131⟩ := q131
  replace rv : v131 = some (.int (Int32.ofNat (SBG.digits n + SBG.GetChars.sgn p1))) := rv
  subst rv
  have e131 := e131.trans k131
  have N131 := Fr.app N0 n131
  show Run p e below _ (T131.setTop (mkF m 10 #[.val (.ref b), .val (.int p1), .val (.int (Int32.ofNat (cs).length)), .unset] [(.int (Int32.ofNat (SBG.digits n + SBG.GetChars.sgn p1))), (.int (Int32.ofNat (cs).length))]))
  refine go (fun _ => XS.iadd X131.here hx rfl (hb hby d_j68_m32_10) rfl) ?_
  rw [own_add]
  show Run p e below _ (T131.setTop (mkF m 11 #[.val (.ref b), .val (.int p1), .val (.int (Int32.ofNat (cs).length)), .unset] [(.int (Int32.ofNat ((cs).length + (SBG.digits n + SBG.GetChars.sgn p1))))]))
  refine go (fun _ => XS.istoreN X131.here hx rfl (hb hby d_j68_m32_11) rfl (l' := #[.val (.ref b), .val (.int p1), .val (.int (Int32.ofNat (cs).length)), .val (.int (Int32.ofNat ((cs).length + (SBG.digits n + SBG.GetChars.sgn p1))))]) rfl) ?_
  show Run p e below _ (T131.setTop (mkF m 12 #[.val (.ref b), .val (.int p1), .val (.int (Int32.ofNat (cs).length)), .val (.int (Int32.ofNat ((cs).length + (SBG.digits n + SBG.GetChars.sgn p1))))] []))
  refine go (fun _ => XS.aloadN X131.here hx rfl (hb hby d_j68_m32_12) rfl rfl) ?_
  show Run p e below _ (T131.setTop (mkF m 13 #[.val (.ref b), .val (.int p1), .val (.int (Int32.ofNat (cs).length)), .val (.int (Int32.ofNat ((cs).length + (SBG.digits n + SBG.GetChars.sgn p1))))] [(.ref b)]))
  refine go (fun _ => XS.iloadN X131.here hx rfl (hb hby d_j68_m32_13) rfl) ?_
  show Run p e below _ (T131.setTop (mkF m 14 #[.val (.ref b), .val (.int p1), .val (.int (Int32.ofNat (cs).length)), .val (.int (Int32.ofNat ((cs).length + (SBG.digits n + SBG.GetChars.sgn p1))))] [(.int (Int32.ofNat ((cs).length + (SBG.digits n + SBG.GetChars.sgn p1)))), (.ref b)]))
  refine callVi X131 hx hZ hown (wd hw 74 rfl) (own_decl (wd hw 75 rfl) (wd hw 78 rfl)) (notFace_of_selects (args := #[]) (mvT hZ (wd hw 77 rfl))) (wd hw 77 rfl) (wd hw 75 rfl) (wd hw 78 rfl) (wd hw 33 rfl) (by decide) e131 E_b (argsL := [(.int (Int32.ofNat ((cs).length + (SBG.digits n + SBG.GetChars.sgn p1))))]) (rest := []) (rm_en0_16 l Z a0 hw [] b da kd cs (cs.length + (SBG.digits n + SBG.GetChars.sgn p1)) h0 n0 O0 E_b F_value_b F_coder_b F_count_b V_da E_da g_b g_da (by omega) (by have k1_ : (16 : Int32).toInt = 16 := (by decide); have k2_ : (18 : Int32).toInt = 18 := (by decide); omega)) (W := 0) (by decide) (by decide) (by decide) (by decide) (by rw [hml]; rfl) (lenOf pd_1 rfl) rfl (Nat.le_of_eq rfl) (hb hby d_j68_m32_14) ?_
  intro v132 T132 L132 h132 X132 e132 q132
  obtain ⟨rfl, n132, k132⟩ := q132
  have e132 := e132.trans k132
  have N132 := Fr.app N131 n132
  show Run p e below _ (T132.setTop (mkF m 17 #[.val (.ref b), .val (.int p1), .val (.int (Int32.ofNat (cs).length)), .val (.int (Int32.ofNat ((cs).length + (SBG.digits n + SBG.GetChars.sgn p1))))] []))
  refine go (fun _ => XS.aloadN X132.here hx rfl (hb hby d_j68_m32_17) rfl rfl) ?_
  show Run p e below _ (T132.setTop (mkF m 18 #[.val (.ref b), .val (.int p1), .val (.int (Int32.ofNat (cs).length)), .val (.int (Int32.ofNat ((cs).length + (SBG.digits n + SBG.GetChars.sgn p1))))] [(.ref b)]))
  refine callVi X132 hx hZ hown (wd hw 135 rfl) (wd hw 136 rfl) (notFace_of_selects (args := #[]) (mvT hZ (wd hw 138 rfl))) (wd hw 138 rfl) (wd hw 137 rfl) (wd hw 139 rfl) (wd hw 33 rfl) (by decide) e132 E_b (argsL := []) (rest := []) (rm_il l Z a0 hw [] zc b h0 n0 O0 S_COMPACT_STRINGS hzc F_coder_b) (W := 0) (by decide) (by decide) (by decide) (by decide) (by rw [hml]; rfl) (lenOf pd_5 rfl) rfl (Nat.le_of_eq rfl) (hb hby d_j68_m32_18) ?_
  intro v133 T133 L133 h133 X133 e133 q133
  obtain ⟨rv, n133, k133⟩ := q133
  replace rv : v133 = some (.int (1 : Int32)) := rv
  subst rv
  have e133 := e133.trans k133
  have N133 := Fr.app N132 n133
  show Run p e below _ (T133.setTop (mkF m 21 #[.val (.ref b), .val (.int p1), .val (.int (Int32.ofNat (cs).length)), .val (.int (Int32.ofNat ((cs).length + (SBG.digits n + SBG.GetChars.sgn p1))))] [(.int (1 : Int32))]))
  refine go (fun _ => XS.ifNo X133.here hx rfl (hb hby d_j68_m32_21) rfl ((if0 _ _).trans (feq (by decide : ¬ ((1 : Int32) = 0))).1)) ?_
  show Run p e below _ (T133.setTop (mkF m 24 #[.val (.ref b), .val (.int p1), .val (.int (Int32.ofNat (cs).length)), .val (.int (Int32.ofNat ((cs).length + (SBG.digits n + SBG.GetChars.sgn p1))))] []))
  refine go (fun _ => XS.iloadN X133.here hx rfl (hb hby d_j68_m32_24) rfl) ?_
  show Run p e below _ (T133.setTop (mkF m 25 #[.val (.ref b), .val (.int p1), .val (.int (Int32.ofNat (cs).length)), .val (.int (Int32.ofNat ((cs).length + (SBG.digits n + SBG.GetChars.sgn p1))))] [(.int p1)]))
  refine go (fun _ => XS.iloadN X133.here hx rfl (hb hby d_j68_m32_25) rfl) ?_
  show Run p e below _ (T133.setTop (mkF m 26 #[.val (.ref b), .val (.int p1), .val (.int (Int32.ofNat (cs).length)), .val (.int (Int32.ofNat ((cs).length + (SBG.digits n + SBG.GetChars.sgn p1))))] [(.int (Int32.ofNat ((cs).length + (SBG.digits n + SBG.GetChars.sgn p1)))), (.int p1)]))
  refine go (fun _ => XS.aloadN X133.here hx rfl (hb hby d_j68_m32_26) rfl rfl) ?_
  show Run p e below _ (T133.setTop (mkF m 27 #[.val (.ref b), .val (.int p1), .val (.int (Int32.ofNat (cs).length)), .val (.int (Int32.ofNat ((cs).length + (SBG.digits n + SBG.GetChars.sgn p1))))] [(.ref b), (.int (Int32.ofNat ((cs).length + (SBG.digits n + SBG.GetChars.sgn p1)))), (.int p1)]))
  obtain ⟨T134, X134, e134, st134⟩ := getF X133 hx hZ hown (host := "") (Or.inl (wd hw 39 rfl)) Via.refl e133 F_value_b (g := (mkF m 27 #[.val (.ref b), .val (.int p1), .val (.int (Int32.ofNat (cs).length)), .val (.int (Int32.ofNat ((cs).length + (SBG.digits n + SBG.GetChars.sgn p1))))] [(.ref b), (.int (Int32.ofNat ((cs).length + (SBG.digits n + SBG.GetChars.sgn p1)))), (.int p1)])) rfl rfl (hb hby d_j68_m32_27)
  refine go st134 ?_
  show Run p e below _ (T134.setTop (mkF m 30 #[.val (.ref b), .val (.int p1), .val (.int (Int32.ofNat (cs).length)), .val (.int (Int32.ofNat ((cs).length + (SBG.digits n + SBG.GetChars.sgn p1))))] [(.ref da), (.int (Int32.ofNat ((cs).length + (SBG.digits n + SBG.GetChars.sgn p1)))), (.int p1)]))
  refine callStK X134 hx hZ hown (wd hw 140 rfl) (wd hw 141 rfl) (wd hw 133 rfl) (wd hw 142 rfl) (by decide) e134 (argsL := [(.int p1), (.int (Int32.ofNat ((cs).length + (SBG.digits n + SBG.GetChars.sgn p1)))), (.ref da)]) (rest := []) (W := 0) (payGC hZ (own_gcB ▸ (wd hw 142 rfl)) (wd hw 143 rfl) (wd hw 247 rfl) (wd hw 133 rfl) O0 g_da V_da (by show _ ≤ 16; omega) hn hx1 D (by decide) (by decide)) (by decide) (by decide) (by rw [hml]; rfl) (lenOf pd_16 rfl) rfl (Nat.le_of_eq rfl) (hb hby d_j68_m32_30) ?_
  intro v135 T135 L135 h135 X135 e135 q135
  obtain ⟨⟨r135, rfl⟩, n135, K135, V_da⟩ := q135
  have O0 := O0.keep K135 (allS g_da all0)
  have E_b := E_b.keep K135
  have F_value_b := F_value_b.keep K135 (ninS ne_b_da nin0)
  have F_coder_b := F_coder_b.keep K135 (ninS ne_b_da nin0)
  have F_count_b := F_count_b.keep K135 (ninS ne_b_da nin0)
  have E_da := E_da.keep K135
  have K0 := K0.trans K135 (allS (Or.inl (by simp)) all0)
  have N135 := Fr.app N133 n135
  show Run p e below _ (T135.setTop (mkF m 33 #[.val (.ref b), .val (.int p1), .val (.int (Int32.ofNat (cs).length)), .val (.int (Int32.ofNat ((cs).length + (SBG.digits n + SBG.GetChars.sgn p1))))] [(.int r135)]))
  refine go (fun _ => XS.pop X135.here hx rfl (hb hby d_j68_m32_33) rfl rfl) ?_
  show Run p e below _ (T135.setTop (mkF m 34 #[.val (.ref b), .val (.int p1), .val (.int (Int32.ofNat (cs).length)), .val (.int (Int32.ofNat ((cs).length + (SBG.digits n + SBG.GetChars.sgn p1))))] []))
  refine go (fun _ => XS.goto X135.here hx rfl (pc0 := 34) (pc' := 48) rfl (hb hby d_j68_m32_34) (by decide) (by decide)) ?_
  show Run p e below _ (T135.setTop (mkF m 48 #[.val (.ref b), .val (.int p1), .val (.int (Int32.ofNat (cs).length)), .val (.int (Int32.ofNat ((cs).length + (SBG.digits n + SBG.GetChars.sgn p1))))] []))
  refine go (fun _ => XS.aloadN X135.here hx rfl (hb hby d_j68_m32_48) rfl rfl) ?_
  show Run p e below _ (T135.setTop (mkF m 49 #[.val (.ref b), .val (.int p1), .val (.int (Int32.ofNat (cs).length)), .val (.int (Int32.ofNat ((cs).length + (SBG.digits n + SBG.GetChars.sgn p1))))] [(.ref b)]))
  refine go (fun _ => XS.iloadN X135.here hx rfl (hb hby d_j68_m32_49) rfl) ?_
  show Run p e below _ (T135.setTop (mkF m 50 #[.val (.ref b), .val (.int p1), .val (.int (Int32.ofNat (cs).length)), .val (.int (Int32.ofNat ((cs).length + (SBG.digits n + SBG.GetChars.sgn p1))))] [(.int (Int32.ofNat ((cs).length + (SBG.digits n + SBG.GetChars.sgn p1)))), (.ref b)]))
  obtain ⟨T136, h136, X136, e136, W136, st136⟩ := putF X135 hx hZ hown (host := "") (Or.inl (wd hw 72 rfl)) Via.refl e135 F_count_b E_b (Or.inl (wd hw 73 rfl)) (wd hw 24 rfl) (ty := .int) (by decide) rfl rfl (g := (mkF m 50 #[.val (.ref b), .val (.int p1), .val (.int (Int32.ofNat (cs).length)), .val (.int (Int32.ofNat ((cs).length + (SBG.digits n + SBG.GetChars.sgn p1))))] [(.int (Int32.ofNat ((cs).length + (SBG.digits n + SBG.GetChars.sgn p1)))), (.ref b)])) rfl rfl (hb hby d_j68_m32_50)
  have O0 := O0.wr W136 g_b
  have E_b := E_b.wr W136
  have F_value_b := F_value_b.other W136 (Or.inr (slot_ne (Or.inl (wd hw 40 rfl)) (Or.inl (wd hw 73 rfl)) (by decide) (t := (.array .byte)) (t' := .int) (by decide) (by decide)))
  have F_coder_b := F_coder_b.other W136 (Or.inr (slot_ne (Or.inl (wd hw 42 rfl)) (Or.inl (wd hw 73 rfl)) (by decide) (t := .byte) (t' := .int) (by decide) (by decide)))
  have F_count_b := F_count_b.same W136
  have E_da := E_da.wr W136
  have K0 := K0.wr W136 (Or.inl (by simp))
  have V_da := V_da.other W136 (Ne.symm ne_b_da)
  have N136 := Fr.snoc X136 N135 g_b
  refine go st136 ?_
  show Run p e below _ (T136.setTop (mkF m 53 #[.val (.ref b), .val (.int p1), .val (.int (Int32.ofNat (cs).length)), .val (.int (Int32.ofNat ((cs).length + (SBG.digits n + SBG.GetChars.sgn p1))))] []))
  refine go (fun _ => XS.aloadN X136.here hx rfl (hb hby d_j68_m32_53) rfl rfl) ?_
  show Run p e below _ (T136.setTop (mkF m 54 #[.val (.ref b), .val (.int p1), .val (.int (Int32.ofNat (cs).length)), .val (.int (Int32.ofNat ((cs).length + (SBG.digits n + SBG.GetChars.sgn p1))))] [(.ref b)]))
  have F_count_b := (show Fld Z _ b "java/lang/AbstractStringBuilder" "count" "I" (.int (Int32.ofNat (cs ++ decI p1 n).length)) by rw [List.length_append, decI_len]; exact F_count_b)
  exact endA X136 hx hlk (w := (.ref b)) hret rfl rfl (hb hby d_j68_m32_54) (by rw [e136]; exact ⟨rfl, N136, K0, F_value_b, F_coder_b, F_count_b, V_da⟩) (by decide) (by decide)
theorem d_j67_m15_0 : decode jdk_67_method_15_code 0 = .ok (.aload_n 0, 1) := by decide +kernel
theorem d_j67_m15_1 : decode jdk_67_method_15_code 1 = .ok (.iload_n 1, 1) := by decide +kernel
theorem d_j67_m15_2 : decode jdk_67_method_15_code 2 = .ok (.invokespecial 53, 3) := by decide +kernel
theorem pd_17 : parseMethodDescriptor "(I)Ljava/lang/AbstractStringBuilder;" = some ⟨[.int], some (.object "java/lang/AbstractStringBuilder")⟩ := by decide +kernel
theorem d_j67_m15_5 : decode jdk_67_method_15_code 5 = .ok (.pop, 1) := by decide +kernel
theorem d_j67_m15_6 : decode jdk_67_method_15_code 6 = .ok (.aload_n 0, 1) := by decide +kernel
theorem d_j67_m15_7 : decode jdk_67_method_15_code 7 = .ok (.areturn, 1) := by decide +kernel
def Q_rm_sI_16 (Z : State) (zc : Int32) (b da : Addr) (kd : ClassId) (cs : List Int32) (p1 : Int32) (n : Nat) (st d1 : Addr) (D1 : Cell) (d2 : Addr) (D2 : Cell) (h0 : Heap) (n0 : Nat) (v : Option Value) (h : Heap) (L : List Loc) : Prop := v = some (.ref b) ∧ Fr n0 L ∧ Keep h0 h [b, da] ∧ Fld Z h b "java/lang/AbstractStringBuilder" "value" "[B" (.ref da) ∧ Fld Z h b "java/lang/AbstractStringBuilder" "coder" "B" (.int (0 : Int32)) ∧ Fld Z h b "java/lang/AbstractStringBuilder" "count" "I" (.int (Int32.ofNat ((cs ++ decI p1 n)).length)) ∧ Arv Z h da kd .byte (16 : Int32) (BY (cs ++ decI p1 n)) (.int 0)
set_option maxRecDepth 65536 in
set_option maxHeartbeats 40000000 in
theorem rm_sI_16 (l : Launch) (Z : State) (a0 : Array Value) (hw : ∀ d ∈ tables_1, d.before a0 Z = true) (ws : List Jvm.Cond) (zc : Int32) (b da : Addr) (kd : ClassId) (cs : List Int32) (p1 : Int32) (n : Nat) (st d1 : Addr) (D1 : Cell) (d2 : Addr) (D2 : Cell) (h0 : Heap) (n0 : Nat) (O0 : Old Z n0 h0) (S_COMPACT_STRINGS : Sta Z Z.heap "java/lang/String" "COMPACT_STRINGS" "Z" (.int zc)) (hzc : ¬ zc = 0) (E_b : Exa Z h0 b "java/lang/StringBuilder") (F_value_b : Fld Z h0 b "java/lang/AbstractStringBuilder" "value" "[B" (.ref da)) (F_coder_b : Fld Z h0 b "java/lang/AbstractStringBuilder" "coder" "B" (.int (0 : Int32))) (F_count_b : Fld Z h0 b "java/lang/AbstractStringBuilder" "count" "I" (.int (Int32.ofNat (cs).length))) (V_da : Arv Z h0 da kd .byte (16 : Int32) (BY cs) (.int 0)) (E_da : Exa Z h0 da "[B") (g_b : n0 ≤ b) (g_da : n0 ≤ da) (hn : n ≤ 2 ^ 31) (hx1 : (if p1 < 0 then p1 else -p1) = SBG.negI n) (D : Dg Z st d1 D1 d2 D2) (hr : cs.length + (SBG.digits n + SBG.GetChars.sgn p1) ≤ 16) :
    Meets l (⟨"java/lang/StringBuilder", "append", "(I)Ljava/lang/StringBuilder;"⟩ : MethodName) jdk_67_method_15_code 2 (some (.object "java/lang/StringBuilder")) ws ({ frames := 3, cells := 0, slots := 0, locals := 93 } : Room) Z #[(.ref b), (.int p1)] h0 (Q_rm_sI_16 Z zc b da kd cs p1 n st d1 D1 d2 D2 h0 n0) 0 0 := by
  refine enter (Ls := #[.val (.ref b), .val (.int p1)]) (plainFor_of_name pn_3) (fun m => by first | (simp [entryFrame, mkF, argsToLocals, Value.category]; done) | rfl) ?_
  intro p e s m below meth c T0 hx hby hml hown hnm hret hlk hZ X0 e0
  have N0 := Fr.nil n0
  replace hown : s.vm.findClass "java/lang/StringBuilder" = some m.cls := hown
  show Run p e below _ (T0.setTop (mkF m 0 #[.val (.ref b), .val (.int p1)] []))
  have K0 := Keep.refl h0 [b, da]
  refine go (fun _ => XS.aloadN X0.here hx rfl (hb hby d_j67_m15_0) rfl rfl) ?_
  show Run p e below _ (T0.setTop (mkF m 1 #[.val (.ref b), .val (.int p1)] [(.ref b)]))
  refine go (fun _ => XS.iloadN X0.here hx rfl (hb hby d_j67_m15_1) rfl) ?_
  show Run p e below _ (T0.setTop (mkF m 2 #[.val (.ref b), .val (.int p1)] [(.int p1), (.ref b)]))
  refine callUp X0 hx hZ hown (wd hw 127 rfl) (wd hw 128 rfl) (wd hw 56 rfl) (wd hw 130 rfl) (wd hw 33 rfl) (own_nf (wd hw 77 rfl) rfl) (by decide) (by decide) e0 (Ins.self E_b) (argsL := [(.int p1)]) (rest := []) (rm_aI_16 l Z a0 hw [] zc b da kd cs p1 n st d1 D1 d2 D2 h0 n0 O0 S_COMPACT_STRINGS hzc E_b F_value_b F_coder_b F_count_b V_da E_da g_b g_da hn hx1 D hr) (W := 0) (by decide) (by decide) (by decide) (by decide) (by rw [hml]; rfl) (lenOf pd_17 rfl) rfl (Nat.le_of_eq rfl) (hb hby d_j67_m15_2) ?_
  intro v137 T137 L137 h137 X137 e137 q137
  obtain ⟨rfl, n137, K137, F_value_b, F_coder_b, F_count_b, V_da⟩ := q137
  have O0 := O0.keep K137 (allS g_b (allS g_da all0))
  have E_b := E_b.keep K137
  have E_da := E_da.keep K137
  have K0 := K0.trans K137 (allS (Or.inl (by simp)) (allS (Or.inl (by simp)) all0))
  have N137 := Fr.app N0 n137
  show Run p e below _ (T137.setTop (mkF m 5 #[.val (.ref b), .val (.int p1)] [(.ref b)]))
  refine go (fun _ => XS.pop X137.here hx rfl (hb hby d_j67_m15_5) rfl rfl) ?_
  show Run p e below _ (T137.setTop (mkF m 6 #[.val (.ref b), .val (.int p1)] []))
  refine go (fun _ => XS.aloadN X137.here hx rfl (hb hby d_j67_m15_6) rfl rfl) ?_
  show Run p e below _ (T137.setTop (mkF m 7 #[.val (.ref b), .val (.int p1)] [(.ref b)]))
  exact endA X137 hx hlk (w := (.ref b)) hret rfl rfl (hb hby d_j67_m15_7) (by rw [e137]; exact ⟨rfl, N137, K0, F_value_b, F_coder_b, F_count_b, V_da⟩) (by decide) (by decide)
def Q_rm_aI_34 (Z : State) (zc : Int32) (b da : Addr) (kd : ClassId) (cs : List Int32) (p1 : Int32) (n : Nat) (st d1 : Addr) (D1 : Cell) (d2 : Addr) (D2 : Cell) (h0 : Heap) (n0 : Nat) (v : Option Value) (h : Heap) (L : List Loc) : Prop := v = some (.ref b) ∧ Fr n0 L ∧ Keep h0 h [b, da] ∧ Fld Z h b "java/lang/AbstractStringBuilder" "value" "[B" (.ref da) ∧ Fld Z h b "java/lang/AbstractStringBuilder" "coder" "B" (.int (0 : Int32)) ∧ Fld Z h b "java/lang/AbstractStringBuilder" "count" "I" (.int (Int32.ofNat ((cs ++ decI p1 n)).length)) ∧ Arv Z h da kd .byte (34 : Int32) (BY (cs ++ decI p1 n)) (.int 0)
set_option maxRecDepth 65536 in
set_option maxHeartbeats 40000000 in
theorem rm_aI_34 (l : Launch) (Z : State) (a0 : Array Value) (hw : ∀ d ∈ tables_1, d.before a0 Z = true) (ws : List Jvm.Cond) (zc : Int32) (b da : Addr) (kd : ClassId) (cs : List Int32) (p1 : Int32) (n : Nat) (st d1 : Addr) (D1 : Cell) (d2 : Addr) (D2 : Cell) (h0 : Heap) (n0 : Nat) (O0 : Old Z n0 h0) (S_COMPACT_STRINGS : Sta Z Z.heap "java/lang/String" "COMPACT_STRINGS" "Z" (.int zc)) (hzc : ¬ zc = 0) (E_b : Exa Z h0 b "java/lang/StringBuilder") (F_value_b : Fld Z h0 b "java/lang/AbstractStringBuilder" "value" "[B" (.ref da)) (F_coder_b : Fld Z h0 b "java/lang/AbstractStringBuilder" "coder" "B" (.int (0 : Int32))) (F_count_b : Fld Z h0 b "java/lang/AbstractStringBuilder" "count" "I" (.int (Int32.ofNat (cs).length))) (V_da : Arv Z h0 da kd .byte (34 : Int32) (BY cs) (.int 0)) (E_da : Exa Z h0 da "[B") (g_b : n0 ≤ b) (g_da : n0 ≤ da) (hn : n ≤ 2 ^ 31) (hx1 : (if p1 < 0 then p1 else -p1) = SBG.negI n) (D : Dg Z st d1 D1 d2 D2) (hr : cs.length + (SBG.digits n + SBG.GetChars.sgn p1) ≤ 34) :
    Meets l (⟨"java/lang/AbstractStringBuilder", "append", "(I)Ljava/lang/AbstractStringBuilder;"⟩ : MethodName) jdk_68_method_32_code 4 (some (.object "java/lang/AbstractStringBuilder")) ws ({ frames := 2, cells := 0, slots := 0, locals := 78 } : Room) Z #[(.ref b), (.int p1)] h0 (Q_rm_aI_34 Z zc b da kd cs p1 n st d1 D1 d2 D2 h0 n0) 0 0 := by
  refine enter (Ls := #[.val (.ref b), .val (.int p1), .unset, .unset]) (plainFor_of_name pn_2) (fun m => by first | (simp [entryFrame, mkF, argsToLocals, Value.category]; done) | rfl) ?_
  intro p e s m below meth c T0 hx hby hml hown hnm hret hlk hZ X0 e0
  have N0 := Fr.nil n0
  replace hown : s.vm.findClass "java/lang/AbstractStringBuilder" = some m.cls := hown
  show Run p e below _ (T0.setTop (mkF m 0 #[.val (.ref b), .val (.int p1), .unset, .unset] []))
  have K0 := Keep.refl h0 [b, da]
  have ne_b_da : b ≠ da := ne_exa E_b E_da (by decide)
  refine go (fun _ => XS.aloadN X0.here hx rfl (hb hby d_j68_m32_0) rfl rfl) ?_
  show Run p e below _ (T0.setTop (mkF m 1 #[.val (.ref b), .val (.int p1), .unset, .unset] [(.ref b)]))
  obtain ⟨T138, X138, e138, st138⟩ := getF X0 hx hZ hown (host := "") (Or.inl (wd hw 72 rfl)) Via.refl e0 F_count_b (g := (mkF m 1 #[.val (.ref b), .val (.int p1), .unset, .unset] [(.ref b)])) rfl rfl (hb hby d_j68_m32_1)
  refine go st138 ?_
  show Run p e below _ (T138.setTop (mkF m 4 #[.val (.ref b), .val (.int p1), .unset, .unset] [(.int (Int32.ofNat (cs).length))]))
  refine go (fun _ => XS.istoreN X138.here hx rfl (hb hby d_j68_m32_4) rfl (l' := #[.val (.ref b), .val (.int p1), .val (.int (Int32.ofNat (cs).length)), .unset]) rfl) ?_
  show Run p e below _ (T138.setTop (mkF m 5 #[.val (.ref b), .val (.int p1), .val (.int (Int32.ofNat (cs).length)), .unset] []))
  refine go (fun _ => XS.iloadN X138.here hx rfl (hb hby d_j68_m32_5) rfl) ?_
  show Run p e below _ (T138.setTop (mkF m 6 #[.val (.ref b), .val (.int p1), .val (.int (Int32.ofNat (cs).length)), .unset] [(.int (Int32.ofNat (cs).length))]))
  refine go (fun _ => XS.iloadN X138.here hx rfl (hb hby d_j68_m32_6) rfl) ?_
  show Run p e below _ (T138.setTop (mkF m 7 #[.val (.ref b), .val (.int p1), .val (.int (Int32.ofNat (cs).length)), .unset] [(.int p1), (.int (Int32.ofNat (cs).length))]))
  refine callStK X138 hx hZ hown (wd hw 131 rfl) (wd hw 132 rfl) (wd hw 133 rfl) (wd hw 134 rfl) (by decide) e138 (argsL := [(.int p1)]) (rest := [(.int (Int32.ofNat (cs).length))]) (W := 1) (paySS (n0 := n0) hZ (own_ssB ▸ (wd hw 134 rfl)) (wd hw 133 rfl) hn hx1 (by decide) (by decide)) (by decide) (by decide) (by rw [hml]; rfl) (lenOf pd_9 rfl) rfl (Nat.le_of_eq rfl) (hb hby d_j68_m32_7) ?_
  intro v139 T139 L139 h139 X139 e139 q139
  obtain ⟨rv, n139, k139⟩ := q139
  replace rv : v139 = some (.int (Int32.ofNat (SBG.digits n + SBG.GetChars.sgn p1))) := rv
  subst rv
  have e139 := e139.trans k139
  have N139 := Fr.app N0 n139
  show Run p e below _ (T139.setTop (mkF m 10 #[.val (.ref b), .val (.int p1), .val (.int (Int32.ofNat (cs).length)), .unset] [(.int (Int32.ofNat (SBG.digits n + SBG.GetChars.sgn p1))), (.int (Int32.ofNat (cs).length))]))
  refine go (fun _ => XS.iadd X139.here hx rfl (hb hby d_j68_m32_10) rfl) ?_
  rw [own_add]
  show Run p e below _ (T139.setTop (mkF m 11 #[.val (.ref b), .val (.int p1), .val (.int (Int32.ofNat (cs).length)), .unset] [(.int (Int32.ofNat ((cs).length + (SBG.digits n + SBG.GetChars.sgn p1))))]))
  refine go (fun _ => XS.istoreN X139.here hx rfl (hb hby d_j68_m32_11) rfl (l' := #[.val (.ref b), .val (.int p1), .val (.int (Int32.ofNat (cs).length)), .val (.int (Int32.ofNat ((cs).length + (SBG.digits n + SBG.GetChars.sgn p1))))]) rfl) ?_
  show Run p e below _ (T139.setTop (mkF m 12 #[.val (.ref b), .val (.int p1), .val (.int (Int32.ofNat (cs).length)), .val (.int (Int32.ofNat ((cs).length + (SBG.digits n + SBG.GetChars.sgn p1))))] []))
  refine go (fun _ => XS.aloadN X139.here hx rfl (hb hby d_j68_m32_12) rfl rfl) ?_
  show Run p e below _ (T139.setTop (mkF m 13 #[.val (.ref b), .val (.int p1), .val (.int (Int32.ofNat (cs).length)), .val (.int (Int32.ofNat ((cs).length + (SBG.digits n + SBG.GetChars.sgn p1))))] [(.ref b)]))
  refine go (fun _ => XS.iloadN X139.here hx rfl (hb hby d_j68_m32_13) rfl) ?_
  show Run p e below _ (T139.setTop (mkF m 14 #[.val (.ref b), .val (.int p1), .val (.int (Int32.ofNat (cs).length)), .val (.int (Int32.ofNat ((cs).length + (SBG.digits n + SBG.GetChars.sgn p1))))] [(.int (Int32.ofNat ((cs).length + (SBG.digits n + SBG.GetChars.sgn p1)))), (.ref b)]))
  refine callVi X139 hx hZ hown (wd hw 74 rfl) (own_decl (wd hw 75 rfl) (wd hw 78 rfl)) (notFace_of_selects (args := #[]) (mvT hZ (wd hw 77 rfl))) (wd hw 77 rfl) (wd hw 75 rfl) (wd hw 78 rfl) (wd hw 33 rfl) (by decide) e139 E_b (argsL := [(.int (Int32.ofNat ((cs).length + (SBG.digits n + SBG.GetChars.sgn p1))))]) (rest := []) (rm_en0_34 l Z a0 hw [] b da kd cs (cs.length + (SBG.digits n + SBG.GetChars.sgn p1)) h0 n0 O0 E_b F_value_b F_coder_b F_count_b V_da E_da g_b g_da (by omega) (by have k1_ : (34 : Int32).toInt = 34 := (by decide); have k2_ : (36 : Int32).toInt = 36 := (by decide); omega)) (W := 0) (by decide) (by decide) (by decide) (by decide) (by rw [hml]; rfl) (lenOf pd_1 rfl) rfl (Nat.le_of_eq rfl) (hb hby d_j68_m32_14) ?_
  intro v140 T140 L140 h140 X140 e140 q140
  obtain ⟨rfl, n140, k140⟩ := q140
  have e140 := e140.trans k140
  have N140 := Fr.app N139 n140
  show Run p e below _ (T140.setTop (mkF m 17 #[.val (.ref b), .val (.int p1), .val (.int (Int32.ofNat (cs).length)), .val (.int (Int32.ofNat ((cs).length + (SBG.digits n + SBG.GetChars.sgn p1))))] []))
  refine go (fun _ => XS.aloadN X140.here hx rfl (hb hby d_j68_m32_17) rfl rfl) ?_
  show Run p e below _ (T140.setTop (mkF m 18 #[.val (.ref b), .val (.int p1), .val (.int (Int32.ofNat (cs).length)), .val (.int (Int32.ofNat ((cs).length + (SBG.digits n + SBG.GetChars.sgn p1))))] [(.ref b)]))
  refine callVi X140 hx hZ hown (wd hw 135 rfl) (wd hw 136 rfl) (notFace_of_selects (args := #[]) (mvT hZ (wd hw 138 rfl))) (wd hw 138 rfl) (wd hw 137 rfl) (wd hw 139 rfl) (wd hw 33 rfl) (by decide) e140 E_b (argsL := []) (rest := []) (rm_il l Z a0 hw [] zc b h0 n0 O0 S_COMPACT_STRINGS hzc F_coder_b) (W := 0) (by decide) (by decide) (by decide) (by decide) (by rw [hml]; rfl) (lenOf pd_5 rfl) rfl (Nat.le_of_eq rfl) (hb hby d_j68_m32_18) ?_
  intro v141 T141 L141 h141 X141 e141 q141
  obtain ⟨rv, n141, k141⟩ := q141
  replace rv : v141 = some (.int (1 : Int32)) := rv
  subst rv
  have e141 := e141.trans k141
  have N141 := Fr.app N140 n141
  show Run p e below _ (T141.setTop (mkF m 21 #[.val (.ref b), .val (.int p1), .val (.int (Int32.ofNat (cs).length)), .val (.int (Int32.ofNat ((cs).length + (SBG.digits n + SBG.GetChars.sgn p1))))] [(.int (1 : Int32))]))
  refine go (fun _ => XS.ifNo X141.here hx rfl (hb hby d_j68_m32_21) rfl ((if0 _ _).trans (feq (by decide : ¬ ((1 : Int32) = 0))).1)) ?_
  show Run p e below _ (T141.setTop (mkF m 24 #[.val (.ref b), .val (.int p1), .val (.int (Int32.ofNat (cs).length)), .val (.int (Int32.ofNat ((cs).length + (SBG.digits n + SBG.GetChars.sgn p1))))] []))
  refine go (fun _ => XS.iloadN X141.here hx rfl (hb hby d_j68_m32_24) rfl) ?_
  show Run p e below _ (T141.setTop (mkF m 25 #[.val (.ref b), .val (.int p1), .val (.int (Int32.ofNat (cs).length)), .val (.int (Int32.ofNat ((cs).length + (SBG.digits n + SBG.GetChars.sgn p1))))] [(.int p1)]))
  refine go (fun _ => XS.iloadN X141.here hx rfl (hb hby d_j68_m32_25) rfl) ?_
  show Run p e below _ (T141.setTop (mkF m 26 #[.val (.ref b), .val (.int p1), .val (.int (Int32.ofNat (cs).length)), .val (.int (Int32.ofNat ((cs).length + (SBG.digits n + SBG.GetChars.sgn p1))))] [(.int (Int32.ofNat ((cs).length + (SBG.digits n + SBG.GetChars.sgn p1)))), (.int p1)]))
  refine go (fun _ => XS.aloadN X141.here hx rfl (hb hby d_j68_m32_26) rfl rfl) ?_
  show Run p e below _ (T141.setTop (mkF m 27 #[.val (.ref b), .val (.int p1), .val (.int (Int32.ofNat (cs).length)), .val (.int (Int32.ofNat ((cs).length + (SBG.digits n + SBG.GetChars.sgn p1))))] [(.ref b), (.int (Int32.ofNat ((cs).length + (SBG.digits n + SBG.GetChars.sgn p1)))), (.int p1)]))
  obtain ⟨T142, X142, e142, st142⟩ := getF X141 hx hZ hown (host := "") (Or.inl (wd hw 39 rfl)) Via.refl e141 F_value_b (g := (mkF m 27 #[.val (.ref b), .val (.int p1), .val (.int (Int32.ofNat (cs).length)), .val (.int (Int32.ofNat ((cs).length + (SBG.digits n + SBG.GetChars.sgn p1))))] [(.ref b), (.int (Int32.ofNat ((cs).length + (SBG.digits n + SBG.GetChars.sgn p1)))), (.int p1)])) rfl rfl (hb hby d_j68_m32_27)
  refine go st142 ?_
  show Run p e below _ (T142.setTop (mkF m 30 #[.val (.ref b), .val (.int p1), .val (.int (Int32.ofNat (cs).length)), .val (.int (Int32.ofNat ((cs).length + (SBG.digits n + SBG.GetChars.sgn p1))))] [(.ref da), (.int (Int32.ofNat ((cs).length + (SBG.digits n + SBG.GetChars.sgn p1)))), (.int p1)]))
  refine callStK X142 hx hZ hown (wd hw 140 rfl) (wd hw 141 rfl) (wd hw 133 rfl) (wd hw 142 rfl) (by decide) e142 (argsL := [(.int p1), (.int (Int32.ofNat ((cs).length + (SBG.digits n + SBG.GetChars.sgn p1)))), (.ref da)]) (rest := []) (W := 0) (payGC hZ (own_gcB ▸ (wd hw 142 rfl)) (wd hw 143 rfl) (wd hw 247 rfl) (wd hw 133 rfl) O0 g_da V_da (by show _ ≤ 34; omega) hn hx1 D (by decide) (by decide)) (by decide) (by decide) (by rw [hml]; rfl) (lenOf pd_16 rfl) rfl (Nat.le_of_eq rfl) (hb hby d_j68_m32_30) ?_
  intro v143 T143 L143 h143 X143 e143 q143
  obtain ⟨⟨r143, rfl⟩, n143, K143, V_da⟩ := q143
  have O0 := O0.keep K143 (allS g_da all0)
  have E_b := E_b.keep K143
  have F_value_b := F_value_b.keep K143 (ninS ne_b_da nin0)
  have F_coder_b := F_coder_b.keep K143 (ninS ne_b_da nin0)
  have F_count_b := F_count_b.keep K143 (ninS ne_b_da nin0)
  have E_da := E_da.keep K143
  have K0 := K0.trans K143 (allS (Or.inl (by simp)) all0)
  have N143 := Fr.app N141 n143
  show Run p e below _ (T143.setTop (mkF m 33 #[.val (.ref b), .val (.int p1), .val (.int (Int32.ofNat (cs).length)), .val (.int (Int32.ofNat ((cs).length + (SBG.digits n + SBG.GetChars.sgn p1))))] [(.int r143)]))
  refine go (fun _ => XS.pop X143.here hx rfl (hb hby d_j68_m32_33) rfl rfl) ?_
  show Run p e below _ (T143.setTop (mkF m 34 #[.val (.ref b), .val (.int p1), .val (.int (Int32.ofNat (cs).length)), .val (.int (Int32.ofNat ((cs).length + (SBG.digits n + SBG.GetChars.sgn p1))))] []))
  refine go (fun _ => XS.goto X143.here hx rfl (pc0 := 34) (pc' := 48) rfl (hb hby d_j68_m32_34) (by decide) (by decide)) ?_
  show Run p e below _ (T143.setTop (mkF m 48 #[.val (.ref b), .val (.int p1), .val (.int (Int32.ofNat (cs).length)), .val (.int (Int32.ofNat ((cs).length + (SBG.digits n + SBG.GetChars.sgn p1))))] []))
  refine go (fun _ => XS.aloadN X143.here hx rfl (hb hby d_j68_m32_48) rfl rfl) ?_
  show Run p e below _ (T143.setTop (mkF m 49 #[.val (.ref b), .val (.int p1), .val (.int (Int32.ofNat (cs).length)), .val (.int (Int32.ofNat ((cs).length + (SBG.digits n + SBG.GetChars.sgn p1))))] [(.ref b)]))
  refine go (fun _ => XS.iloadN X143.here hx rfl (hb hby d_j68_m32_49) rfl) ?_
  show Run p e below _ (T143.setTop (mkF m 50 #[.val (.ref b), .val (.int p1), .val (.int (Int32.ofNat (cs).length)), .val (.int (Int32.ofNat ((cs).length + (SBG.digits n + SBG.GetChars.sgn p1))))] [(.int (Int32.ofNat ((cs).length + (SBG.digits n + SBG.GetChars.sgn p1)))), (.ref b)]))
  obtain ⟨T144, h144, X144, e144, W144, st144⟩ := putF X143 hx hZ hown (host := "") (Or.inl (wd hw 72 rfl)) Via.refl e143 F_count_b E_b (Or.inl (wd hw 73 rfl)) (wd hw 24 rfl) (ty := .int) (by decide) rfl rfl (g := (mkF m 50 #[.val (.ref b), .val (.int p1), .val (.int (Int32.ofNat (cs).length)), .val (.int (Int32.ofNat ((cs).length + (SBG.digits n + SBG.GetChars.sgn p1))))] [(.int (Int32.ofNat ((cs).length + (SBG.digits n + SBG.GetChars.sgn p1)))), (.ref b)])) rfl rfl (hb hby d_j68_m32_50)
  have O0 := O0.wr W144 g_b
  have E_b := E_b.wr W144
  have F_value_b := F_value_b.other W144 (Or.inr (slot_ne (Or.inl (wd hw 40 rfl)) (Or.inl (wd hw 73 rfl)) (by decide) (t := (.array .byte)) (t' := .int) (by decide) (by decide)))
  have F_coder_b := F_coder_b.other W144 (Or.inr (slot_ne (Or.inl (wd hw 42 rfl)) (Or.inl (wd hw 73 rfl)) (by decide) (t := .byte) (t' := .int) (by decide) (by decide)))
  have F_count_b := F_count_b.same W144
  have E_da := E_da.wr W144
  have K0 := K0.wr W144 (Or.inl (by simp))
  have V_da := V_da.other W144 (Ne.symm ne_b_da)
  have N144 := Fr.snoc X144 N143 g_b
  refine go st144 ?_
  show Run p e below _ (T144.setTop (mkF m 53 #[.val (.ref b), .val (.int p1), .val (.int (Int32.ofNat (cs).length)), .val (.int (Int32.ofNat ((cs).length + (SBG.digits n + SBG.GetChars.sgn p1))))] []))
  refine go (fun _ => XS.aloadN X144.here hx rfl (hb hby d_j68_m32_53) rfl rfl) ?_
  show Run p e below _ (T144.setTop (mkF m 54 #[.val (.ref b), .val (.int p1), .val (.int (Int32.ofNat (cs).length)), .val (.int (Int32.ofNat ((cs).length + (SBG.digits n + SBG.GetChars.sgn p1))))] [(.ref b)]))
  have F_count_b := (show Fld Z _ b "java/lang/AbstractStringBuilder" "count" "I" (.int (Int32.ofNat (cs ++ decI p1 n).length)) by rw [List.length_append, decI_len]; exact F_count_b)
  exact endA X144 hx hlk (w := (.ref b)) hret rfl rfl (hb hby d_j68_m32_54) (by rw [e144]; exact ⟨rfl, N144, K0, F_value_b, F_coder_b, F_count_b, V_da⟩) (by decide) (by decide)
def Q_rm_sI_34 (Z : State) (zc : Int32) (b da : Addr) (kd : ClassId) (cs : List Int32) (p1 : Int32) (n : Nat) (st d1 : Addr) (D1 : Cell) (d2 : Addr) (D2 : Cell) (h0 : Heap) (n0 : Nat) (v : Option Value) (h : Heap) (L : List Loc) : Prop := v = some (.ref b) ∧ Fr n0 L ∧ Keep h0 h [b, da] ∧ Fld Z h b "java/lang/AbstractStringBuilder" "value" "[B" (.ref da) ∧ Fld Z h b "java/lang/AbstractStringBuilder" "coder" "B" (.int (0 : Int32)) ∧ Fld Z h b "java/lang/AbstractStringBuilder" "count" "I" (.int (Int32.ofNat ((cs ++ decI p1 n)).length)) ∧ Arv Z h da kd .byte (34 : Int32) (BY (cs ++ decI p1 n)) (.int 0)
set_option maxRecDepth 65536 in
set_option maxHeartbeats 40000000 in
theorem rm_sI_34 (l : Launch) (Z : State) (a0 : Array Value) (hw : ∀ d ∈ tables_1, d.before a0 Z = true) (ws : List Jvm.Cond) (zc : Int32) (b da : Addr) (kd : ClassId) (cs : List Int32) (p1 : Int32) (n : Nat) (st d1 : Addr) (D1 : Cell) (d2 : Addr) (D2 : Cell) (h0 : Heap) (n0 : Nat) (O0 : Old Z n0 h0) (S_COMPACT_STRINGS : Sta Z Z.heap "java/lang/String" "COMPACT_STRINGS" "Z" (.int zc)) (hzc : ¬ zc = 0) (E_b : Exa Z h0 b "java/lang/StringBuilder") (F_value_b : Fld Z h0 b "java/lang/AbstractStringBuilder" "value" "[B" (.ref da)) (F_coder_b : Fld Z h0 b "java/lang/AbstractStringBuilder" "coder" "B" (.int (0 : Int32))) (F_count_b : Fld Z h0 b "java/lang/AbstractStringBuilder" "count" "I" (.int (Int32.ofNat (cs).length))) (V_da : Arv Z h0 da kd .byte (34 : Int32) (BY cs) (.int 0)) (E_da : Exa Z h0 da "[B") (g_b : n0 ≤ b) (g_da : n0 ≤ da) (hn : n ≤ 2 ^ 31) (hx1 : (if p1 < 0 then p1 else -p1) = SBG.negI n) (D : Dg Z st d1 D1 d2 D2) (hr : cs.length + (SBG.digits n + SBG.GetChars.sgn p1) ≤ 34) :
    Meets l (⟨"java/lang/StringBuilder", "append", "(I)Ljava/lang/StringBuilder;"⟩ : MethodName) jdk_67_method_15_code 2 (some (.object "java/lang/StringBuilder")) ws ({ frames := 3, cells := 0, slots := 0, locals := 93 } : Room) Z #[(.ref b), (.int p1)] h0 (Q_rm_sI_34 Z zc b da kd cs p1 n st d1 D1 d2 D2 h0 n0) 0 0 := by
  refine enter (Ls := #[.val (.ref b), .val (.int p1)]) (plainFor_of_name pn_3) (fun m => by first | (simp [entryFrame, mkF, argsToLocals, Value.category]; done) | rfl) ?_
  intro p e s m below meth c T0 hx hby hml hown hnm hret hlk hZ X0 e0
  have N0 := Fr.nil n0
  replace hown : s.vm.findClass "java/lang/StringBuilder" = some m.cls := hown
  show Run p e below _ (T0.setTop (mkF m 0 #[.val (.ref b), .val (.int p1)] []))
  have K0 := Keep.refl h0 [b, da]
  refine go (fun _ => XS.aloadN X0.here hx rfl (hb hby d_j67_m15_0) rfl rfl) ?_
  show Run p e below _ (T0.setTop (mkF m 1 #[.val (.ref b), .val (.int p1)] [(.ref b)]))
  refine go (fun _ => XS.iloadN X0.here hx rfl (hb hby d_j67_m15_1) rfl) ?_
  show Run p e below _ (T0.setTop (mkF m 2 #[.val (.ref b), .val (.int p1)] [(.int p1), (.ref b)]))
  refine callUp X0 hx hZ hown (wd hw 127 rfl) (wd hw 128 rfl) (wd hw 56 rfl) (wd hw 130 rfl) (wd hw 33 rfl) (own_nf (wd hw 77 rfl) rfl) (by decide) (by decide) e0 (Ins.self E_b) (argsL := [(.int p1)]) (rest := []) (rm_aI_34 l Z a0 hw [] zc b da kd cs p1 n st d1 D1 d2 D2 h0 n0 O0 S_COMPACT_STRINGS hzc E_b F_value_b F_coder_b F_count_b V_da E_da g_b g_da hn hx1 D hr) (W := 0) (by decide) (by decide) (by decide) (by decide) (by rw [hml]; rfl) (lenOf pd_17 rfl) rfl (Nat.le_of_eq rfl) (hb hby d_j67_m15_2) ?_
  intro v145 T145 L145 h145 X145 e145 q145
  obtain ⟨rfl, n145, K145, F_value_b, F_coder_b, F_count_b, V_da⟩ := q145
  have O0 := O0.keep K145 (allS g_b (allS g_da all0))
  have E_b := E_b.keep K145
  have E_da := E_da.keep K145
  have K0 := K0.trans K145 (allS (Or.inl (by simp)) (allS (Or.inl (by simp)) all0))
  have N145 := Fr.app N0 n145
  show Run p e below _ (T145.setTop (mkF m 5 #[.val (.ref b), .val (.int p1)] [(.ref b)]))
  refine go (fun _ => XS.pop X145.here hx rfl (hb hby d_j67_m15_5) rfl rfl) ?_
  show Run p e below _ (T145.setTop (mkF m 6 #[.val (.ref b), .val (.int p1)] []))
  refine go (fun _ => XS.aloadN X145.here hx rfl (hb hby d_j67_m15_6) rfl rfl) ?_
  show Run p e below _ (T145.setTop (mkF m 7 #[.val (.ref b), .val (.int p1)] [(.ref b)]))
  exact endA X145 hx hlk (w := (.ref b)) hret rfl rfl (hb hby d_j67_m15_7) (by rw [e145]; exact ⟨rfl, N145, K0, F_value_b, F_coder_b, F_count_b, V_da⟩) (by decide) (by decide)
theorem d_j68_m64_0 : decode jdk_68_method_64_code 0 = .ok (.aload_n 0, 1) := by decide +kernel
theorem d_j68_m64_1 : decode jdk_68_method_64_code 1 = .ok (.getfield 15, 3) := by decide +kernel
theorem d_j68_m64_4 : decode jdk_68_method_64_code 4 = .ok (.areturn, 1) := by decide +kernel
def Q_rm_gv (b da : Addr) (h0 : Heap) (n0 : Nat) (v : Option Value) (h : Heap) (L : List Loc) : Prop := v = some (.ref da) ∧ Fr n0 L ∧ h = h0
set_option maxRecDepth 65536 in
set_option maxHeartbeats 40000000 in
theorem rm_gv (l : Launch) (Z : State) (a0 : Array Value) (hw : ∀ d ∈ tables_1, d.before a0 Z = true) (ws : List Jvm.Cond) (b da : Addr) (h0 : Heap) (n0 : Nat) (O0 : Old Z n0 h0) (F_value_b : Fld Z h0 b "java/lang/AbstractStringBuilder" "value" "[B" (.ref da)) :
    Meets l (⟨"java/lang/AbstractStringBuilder", "getValue", "()[B"⟩ : MethodName) jdk_68_method_64_code 1 (some (.array .byte)) ws ({ frames := 0, cells := 0, slots := 0, locals := 0 } : Room) Z #[(.ref b)] h0 (Q_rm_gv b da h0 n0) 0 0 := by
  refine enter (Ls := #[.val (.ref b)]) (plainFor_of_name pn_2) (fun m => by first | (simp [entryFrame, mkF, argsToLocals, Value.category]; done) | rfl) ?_
  intro p e s m below meth c T0 hx hby hml hown hnm hret hlk hZ X0 e0
  have N0 := Fr.nil n0
  replace hown : s.vm.findClass "java/lang/AbstractStringBuilder" = some m.cls := hown
  show Run p e below _ (T0.setTop (mkF m 0 #[.val (.ref b)] []))
  refine go (fun _ => XS.aloadN X0.here hx rfl (hb hby d_j68_m64_0) rfl rfl) ?_
  show Run p e below _ (T0.setTop (mkF m 1 #[.val (.ref b)] [(.ref b)]))
  obtain ⟨T146, X146, e146, st146⟩ := getF X0 hx hZ hown (host := "") (Or.inl (wd hw 39 rfl)) Via.refl e0 F_value_b (g := (mkF m 1 #[.val (.ref b)] [(.ref b)])) rfl rfl (hb hby d_j68_m64_1)
  refine go st146 ?_
  show Run p e below _ (T146.setTop (mkF m 4 #[.val (.ref b)] [(.ref da)]))
  exact endA X146 hx hlk (w := (.ref da)) hret rfl rfl (hb hby d_j68_m64_4) (⟨rfl, N0, e146⟩) (by decide) (by decide)
theorem d_j68_m6_0 : decode jdk_68_method_6_code 0 = .ok (.aload_n 0, 1) := by decide +kernel
theorem d_j68_m6_1 : decode jdk_68_method_6_code 1 = .ok (.getfield 79, 3) := by decide +kernel
theorem d_j68_m6_4 : decode jdk_68_method_6_code 4 = .ok (.ireturn, 1) := by decide +kernel
def Q_rm_al (b : Addr) (p1 : Int32) (h0 : Heap) (n0 : Nat) (v : Option Value) (h : Heap) (L : List Loc) : Prop := v = some (.int p1) ∧ Fr n0 L ∧ h = h0
set_option maxRecDepth 65536 in
set_option maxHeartbeats 40000000 in
theorem rm_al (l : Launch) (Z : State) (a0 : Array Value) (hw : ∀ d ∈ tables_1, d.before a0 Z = true) (ws : List Jvm.Cond) (b : Addr) (p1 : Int32) (h0 : Heap) (n0 : Nat) (O0 : Old Z n0 h0) (F_count_b : Fld Z h0 b "java/lang/AbstractStringBuilder" "count" "I" (.int p1)) :
    Meets l (⟨"java/lang/AbstractStringBuilder", "length", "()I"⟩ : MethodName) jdk_68_method_6_code 1 (some .int) ws ({ frames := 0, cells := 0, slots := 0, locals := 0 } : Room) Z #[(.ref b)] h0 (Q_rm_al b p1 h0 n0) 0 0 := by
  refine enter (Ls := #[.val (.ref b)]) (plainFor_of_name pn_2) (fun m => by first | (simp [entryFrame, mkF, argsToLocals, Value.category]; done) | rfl) ?_
  intro p e s m below meth c T0 hx hby hml hown hnm hret hlk hZ X0 e0
  have N0 := Fr.nil n0
  replace hown : s.vm.findClass "java/lang/AbstractStringBuilder" = some m.cls := hown
  show Run p e below _ (T0.setTop (mkF m 0 #[.val (.ref b)] []))
  refine go (fun _ => XS.aloadN X0.here hx rfl (hb hby d_j68_m6_0) rfl rfl) ?_
  show Run p e below _ (T0.setTop (mkF m 1 #[.val (.ref b)] [(.ref b)]))
  obtain ⟨T147, X147, e147, st147⟩ := getF X0 hx hZ hown (host := "") (Or.inl (wd hw 72 rfl)) Via.refl e0 F_count_b (g := (mkF m 1 #[.val (.ref b)] [(.ref b)])) rfl rfl (hb hby d_j68_m6_1)
  refine go st147 ?_
  show Run p e below _ (T147.setTop (mkF m 4 #[.val (.ref b)] [(.int p1)]))
  exact endI X147 hx hlk hret (hb hby d_j68_m6_4) (⟨rfl, N0, e147⟩) (by decide) (by decide)
theorem d_j67_m93_0 : decode jdk_67_method_93_code 0 = .ok (.aload_n 0, 1) := by decide +kernel
theorem d_j67_m93_1 : decode jdk_67_method_93_code 1 = .ok (.invokespecial 343, 3) := by decide +kernel
theorem d_j67_m93_4 : decode jdk_67_method_93_code 4 = .ok (.ireturn, 1) := by decide +kernel
def Q_rm_sl (b : Addr) (p1 : Int32) (h0 : Heap) (n0 : Nat) (v : Option Value) (h : Heap) (L : List Loc) : Prop := v = some (.int p1) ∧ Fr n0 L ∧ h = h0
set_option maxRecDepth 65536 in
set_option maxHeartbeats 40000000 in
theorem rm_sl (l : Launch) (Z : State) (a0 : Array Value) (hw : ∀ d ∈ tables_1, d.before a0 Z = true) (ws : List Jvm.Cond) (b : Addr) (p1 : Int32) (h0 : Heap) (n0 : Nat) (O0 : Old Z n0 h0) (E_b : Exa Z h0 b "java/lang/StringBuilder") (F_count_b : Fld Z h0 b "java/lang/AbstractStringBuilder" "count" "I" (.int p1)) :
    Meets l (⟨"java/lang/StringBuilder", "length", "()I"⟩ : MethodName) jdk_67_method_93_code 1 (some .int) ws ({ frames := 1, cells := 0, slots := 0, locals := 12 } : Room) Z #[(.ref b)] h0 (Q_rm_sl b p1 h0 n0) 0 0 := by
  refine enter (Ls := #[.val (.ref b)]) (plainFor_of_name pn_3) (fun m => by first | (simp [entryFrame, mkF, argsToLocals, Value.category]; done) | rfl) ?_
  intro p e s m below meth c T0 hx hby hml hown hnm hret hlk hZ X0 e0
  have N0 := Fr.nil n0
  replace hown : s.vm.findClass "java/lang/StringBuilder" = some m.cls := hown
  show Run p e below _ (T0.setTop (mkF m 0 #[.val (.ref b)] []))
  refine go (fun _ => XS.aloadN X0.here hx rfl (hb hby d_j67_m93_0) rfl rfl) ?_
  show Run p e below _ (T0.setTop (mkF m 1 #[.val (.ref b)] [(.ref b)]))
  refine callUp X0 hx hZ hown (wd hw 171 rfl) (wd hw 167 rfl) (wd hw 56 rfl) (wd hw 172 rfl) (wd hw 33 rfl) (own_nf (wd hw 77 rfl) rfl) (by decide) (by decide) e0 (Ins.self E_b) (argsL := []) (rest := []) (rm_al l Z a0 hw [] b p1 h0 n0 O0 F_count_b) (W := 0) (by decide) (by decide) (by decide) (by decide) (by rw [hml]; rfl) (lenOf pd_13 rfl) rfl (Nat.le_of_eq rfl) (hb hby d_j67_m93_1) ?_
  intro v148 T148 L148 h148 X148 e148 q148
  obtain ⟨rv, n148, k148⟩ := q148
  replace rv : v148 = some (.int p1) := rv
  subst rv
  have e148 := e148.trans k148
  have N148 := Fr.app N0 n148
  show Run p e below _ (T148.setTop (mkF m 4 #[.val (.ref b)] [(.int p1)]))
  exact endI X148 hx hlk hret (hb hby d_j67_m93_4) (⟨rfl, N148, e148⟩) (by decide) (by decide)
theorem d_j65_m131_0 : decode jdk_65_method_131_code 0 = .ok (.iload_n 1, 1) := by decide +kernel
theorem d_j65_m131_1 : decode jdk_65_method_131_code 1 = .ok (.iload_n 0, 1) := by decide +kernel
theorem d_j65_m131_2 : decode jdk_65_method_131_code 2 = .ok (.if_icmp .ge 35, 3) := by decide +kernel
theorem d_j65_m131_37 : decode jdk_65_method_131_code 37 = .ok (.return_, 1) := by decide +kernel
def Q_rm_chk (p1 : Int32) (h0 : Heap) (n0 : Nat) (v : Option Value) (h : Heap) (L : List Loc) : Prop := v = none ∧ Fr n0 L ∧ h = h0
set_option maxRecDepth 65536 in
set_option maxHeartbeats 40000000 in
theorem rm_chk (l : Launch) (Z : State) (a0 : Array Value) (hw : ∀ d ∈ tables_1, d.before a0 Z = true) (ws : List Jvm.Cond) (p1 : Int32) (h0 : Heap) (n0 : Nat) (O0 : Old Z n0 h0) (hn : ¬ p1 < (0 : Int32)) :
    Meets l (⟨"java/util/Arrays", "checkLength", "(II)V"⟩ : MethodName) jdk_65_method_131_code 2 none ws ({ frames := 0, cells := 0, slots := 0, locals := 0 } : Room) Z #[(.int (0 : Int32)), (.int p1)] h0 (Q_rm_chk p1 h0 n0) 0 0 := by
  refine enter (Ls := #[.val (.int (0 : Int32)), .val (.int p1)]) (plainFor_of_name pn_10) (fun m => by first | (simp [entryFrame, mkF, argsToLocals, Value.category]; done) | rfl) ?_
  intro p e s m below meth c T0 hx hby hml hown hnm hret hlk hZ X0 e0
  have N0 := Fr.nil n0
  replace hown : s.vm.findClass "java/util/Arrays" = some m.cls := hown
  show Run p e below _ (T0.setTop (mkF m 0 #[.val (.int (0 : Int32)), .val (.int p1)] []))
  refine go (fun _ => XS.iloadN X0.here hx rfl (hb hby d_j65_m131_0) rfl) ?_
  show Run p e below _ (T0.setTop (mkF m 1 #[.val (.int (0 : Int32)), .val (.int p1)] [(.int p1)]))
  refine go (fun _ => XS.iloadN X0.here hx rfl (hb hby d_j65_m131_1) rfl) ?_
  show Run p e below _ (T0.setTop (mkF m 2 #[.val (.int (0 : Int32)), .val (.int p1)] [(.int (0 : Int32)), (.int p1)]))
  refine go (fun _ => XS.icmpYes X0.here hx rfl (pc0 := 2) (pc' := 37) rfl (hb hby d_j65_m131_2) rfl (flt hn).2.1 (by decide) (by decide)) ?_
  show Run p e below _ (T0.setTop (mkF m 37 #[.val (.int (0 : Int32)), .val (.int p1)] []))
  exact endV X0 hx hlk hret (hb hby d_j65_m131_37) (⟨rfl, N0, e0⟩) (by decide) (by decide)
theorem own_mn {k : Nat} {z : Int32} (hk : k ≤ z.toNatClampNeg) (hz : ¬ z < 0) : (if Int32.ofNat k < z then Int32.ofNat k else z) = Int32.ofNat k := by
  have e : z.toInt = z.toNatClampNeg := by
    rw [Int32.lt_iff_toInt_lt] at hz; have : (0 : Int32).toInt = 0 := rfl
    simp only [Int32.toNatClampNeg]; omega
  have b := z.toInt_lt
  by_cases q : Int32.ofNat k < z
  · rw [if_pos q]
  · rw [if_neg q]; rw [Int32.lt_iff_toInt_lt, own_on (by omega)] at q
    rw [← Int32.toInt_inj, own_on (by omega)]; omega
theorem d_j65_m133_0 : decode jdk_65_method_133_code 0 = .ok (.iload_n 1, 1) := by decide +kernel
theorem d_j65_m133_1 : decode jdk_65_method_133_code 1 = .ok (.iload_n 2, 1) := by decide +kernel
theorem d_j65_m133_2 : decode jdk_65_method_133_code 2 = .ok (.invokestatic 343, 3) := by decide +kernel
theorem d_j65_m133_5 : decode jdk_65_method_133_code 5 = .ok (.iload_n 2, 1) := by decide +kernel
theorem d_j65_m133_6 : decode jdk_65_method_133_code 6 = .ok (.iload_n 1, 1) := by decide +kernel
theorem d_j65_m133_7 : decode jdk_65_method_133_code 7 = .ok (.isub, 1) := by decide +kernel
theorem d_j65_m133_8 : decode jdk_65_method_133_code 8 = .ok (.istore_n 3, 1) := by decide +kernel
theorem d_j65_m133_9 : decode jdk_65_method_133_code 9 = .ok (.iload_n 3, 1) := by decide +kernel
theorem d_j65_m133_10 : decode jdk_65_method_133_code 10 = .ok (.newarray .byte, 2) := by decide +kernel
theorem d_j65_m133_12 : decode jdk_65_method_133_code 12 = .ok (.astore 4, 2) := by decide +kernel
theorem d_j65_m133_14 : decode jdk_65_method_133_code 14 = .ok (.aload_n 0, 1) := by decide +kernel
theorem d_j65_m133_15 : decode jdk_65_method_133_code 15 = .ok (.iload_n 1, 1) := by decide +kernel
theorem d_j65_m133_16 : decode jdk_65_method_133_code 16 = .ok (.aload 4, 2) := by decide +kernel
theorem d_j65_m133_18 : decode jdk_65_method_133_code 18 = .ok (.iconst 0, 1) := by decide +kernel
theorem d_j65_m133_19 : decode jdk_65_method_133_code 19 = .ok (.aload_n 0, 1) := by decide +kernel
theorem d_j65_m133_20 : decode jdk_65_method_133_code 20 = .ok (.arraylength, 1) := by decide +kernel
theorem d_j65_m133_21 : decode jdk_65_method_133_code 21 = .ok (.iload_n 1, 1) := by decide +kernel
theorem d_j65_m133_22 : decode jdk_65_method_133_code 22 = .ok (.isub, 1) := by decide +kernel
theorem d_j65_m133_23 : decode jdk_65_method_133_code 23 = .ok (.iload_n 3, 1) := by decide +kernel
theorem d_j65_m133_24 : decode jdk_65_method_133_code 24 = .ok (.invokestatic 304, 3) := by decide +kernel
theorem d_j65_m133_27 : decode jdk_65_method_133_code 27 = .ok (.invokestatic 150, 3) := by decide +kernel
theorem d_j65_m133_30 : decode jdk_65_method_133_code 30 = .ok (.aload 4, 2) := by decide +kernel
theorem d_j65_m133_32 : decode jdk_65_method_133_code 32 = .ok (.areturn, 1) := by decide +kernel
def Q_rm_crb (Z : State) (da : Addr) (kd : ClassId) (z : Int32) (cs : List Int32) (h0 : Heap) (n0 : Nat) (v : Option Value) (h : Heap) (L : List Loc) : Prop := ∃ (d2 : Addr) (k2 : ClassId), v = some (.ref d2) ∧ Fr n0 L ∧ Keep h0 h [] ∧ h0.size ≤ d2 ∧ n0 ≤ d2 ∧ Arv Z h d2 k2 .byte (Int32.ofNat (cs).length) (BY cs) (.int 0)
set_option maxRecDepth 65536 in
set_option maxHeartbeats 40000000 in
theorem rm_crb (l : Launch) (Z : State) (a0 : Array Value) (hw : ∀ d ∈ tables_1, d.before a0 Z = true) (ws : List Jvm.Cond) (da : Addr) (kd : ClassId) (z : Int32) (cs : List Int32) (h0 : Heap) (n0 : Nat) (O0 : Old Z n0 h0) (V_da : Arv Z h0 da kd .byte z (BY cs) (.int 0)) (E_da : Exa Z h0 da "[B") (hcz : cs.length ≤ z.toNatClampNeg) (hz0 : ¬ z < 0) (hz1 : z.toNatClampNeg ≤ 100) :
    Meets l (⟨"java/util/Arrays", "copyOfRangeByte", "([BII)[B"⟩ : MethodName) jdk_65_method_133_code 5 (some (.array .byte)) ws ({ frames := 1, cells := 1, slots := 100, locals := 40 } : Room) Z #[(.ref da), (.int (0 : Int32)), (.int (Int32.ofNat (cs).length))] h0 (Q_rm_crb Z da kd z cs h0 n0) 1 100 := by
  refine enter (Ls := #[.val (.ref da), .val (.int (0 : Int32)), .val (.int (Int32.ofNat (cs).length)), .unset, .unset]) (plainFor_of_name pn_10) (fun m => by first | (simp [entryFrame, mkF, argsToLocals, Value.category]; done) | rfl) ?_
  intro p e s m below meth c T0 hx hby hml hown hnm hret hlk hZ X0 e0
  have N0 := Fr.nil n0
  replace hown : s.vm.findClass "java/util/Arrays" = some m.cls := hown
  show Run p e below _ (T0.setTop (mkF m 0 #[.val (.ref da), .val (.int (0 : Int32)), .val (.int (Int32.ofNat (cs).length)), .unset, .unset] []))
  have K0 := Keep.refl h0 []
  refine go (fun _ => XS.iloadN X0.here hx rfl (hb hby d_j65_m133_0) rfl) ?_
  show Run p e below _ (T0.setTop (mkF m 1 #[.val (.ref da), .val (.int (0 : Int32)), .val (.int (Int32.ofNat (cs).length)), .unset, .unset] [(.int (0 : Int32))]))
  refine go (fun _ => XS.iloadN X0.here hx rfl (hb hby d_j65_m133_1) rfl) ?_
  show Run p e below _ (T0.setTop (mkF m 2 #[.val (.ref da), .val (.int (0 : Int32)), .val (.int (Int32.ofNat (cs).length)), .unset, .unset] [(.int (Int32.ofNat (cs).length)), (.int (0 : Int32))]))
  refine callSt X0 hx hZ hown (wd hw 180 rfl) (wd hw 181 rfl) (wd hw 96 rfl) (wd hw 182 rfl) (by decide) e0 (argsL := [(.int (0 : Int32)), (.int (Int32.ofNat (cs).length))]) (rest := []) (rm_chk l Z a0 hw [] (Int32.ofNat (cs).length) h0 n0 O0 (own_nn (by omega))) (W := 0) (by decide) (by decide) (by decide) (by decide) (by rw [hml]; rfl) (lenOf pd_4 rfl) rfl (Nat.le_of_eq rfl) (hb hby d_j65_m133_2) ?_
  intro v149 T149 L149 h149 X149 e149 q149
  obtain ⟨rfl, n149, k149⟩ := q149
  have e149 := e149.trans k149
  have N149 := Fr.app N0 n149
  show Run p e below _ (T149.setTop (mkF m 5 #[.val (.ref da), .val (.int (0 : Int32)), .val (.int (Int32.ofNat (cs).length)), .unset, .unset] []))
  refine go (fun _ => XS.iloadN X149.here hx rfl (hb hby d_j65_m133_5) rfl) ?_
  show Run p e below _ (T149.setTop (mkF m 6 #[.val (.ref da), .val (.int (0 : Int32)), .val (.int (Int32.ofNat (cs).length)), .unset, .unset] [(.int (Int32.ofNat (cs).length))]))
  refine go (fun _ => XS.iloadN X149.here hx rfl (hb hby d_j65_m133_6) rfl) ?_
  show Run p e below _ (T149.setTop (mkF m 7 #[.val (.ref da), .val (.int (0 : Int32)), .val (.int (Int32.ofNat (cs).length)), .unset, .unset] [(.int (0 : Int32)), (.int (Int32.ofNat (cs).length))]))
  refine go (fun _ => XS.isub X149.here hx rfl (hb hby d_j65_m133_7) rfl) ?_
  rw [own_sub0]
  show Run p e below _ (T149.setTop (mkF m 8 #[.val (.ref da), .val (.int (0 : Int32)), .val (.int (Int32.ofNat (cs).length)), .unset, .unset] [(.int (Int32.ofNat (cs).length))]))
  refine go (fun _ => XS.istoreN X149.here hx rfl (hb hby d_j65_m133_8) rfl (l' := #[.val (.ref da), .val (.int (0 : Int32)), .val (.int (Int32.ofNat (cs).length)), .val (.int (Int32.ofNat (cs).length)), .unset]) rfl) ?_
  show Run p e below _ (T149.setTop (mkF m 9 #[.val (.ref da), .val (.int (0 : Int32)), .val (.int (Int32.ofNat (cs).length)), .val (.int (Int32.ofNat (cs).length)), .unset] []))
  refine go (fun _ => XS.iloadN X149.here hx rfl (hb hby d_j65_m133_9) rfl) ?_
  show Run p e below _ (T149.setTop (mkF m 10 #[.val (.ref da), .val (.int (0 : Int32)), .val (.int (Int32.ofNat (cs).length)), .val (.int (Int32.ofNat (cs).length)), .unset] [(.int (Int32.ofNat (cs).length))]))
  obtain ⟨T150, h150, k150, X150, e150, E150, A150, B150, st150⟩ := newPE X149 hx hZ (wd hw 38 rfl) e149 (g := (mkF m 10 #[.val (.ref da), .val (.int (0 : Int32)), .val (.int (Int32.ofNat (cs).length)), .val (.int (Int32.ofNat (cs).length)), .unset] [(.int (Int32.ofNat (cs).length))])) rfl (hb hby d_j65_m133_10) rfl (own_nn (by omega)) (cap := 100) (by rw [own_cl (by omega)]; omega) (by decide) (by decide) (by decide) (ad := "[B") (by decide)
  obtain ⟨b150, y150⟩ : ∃ z, z = h0.size := ⟨_, rfl⟩
  rw [← y150] at A150 B150 st150
  have g_b150 : n0 ≤ b150 := y150.symm ▸ old_sz O0
  have sz_b150 : h0.size ≤ b150 := y150.symm ▸ K0.1
  have ne_da_b150 : da ≠ b150 := Nat.ne_of_lt (y150.symm ▸ V_da.lt)
  have O0 := O0.ext E150
  have V_da := V_da.ext E150
  have E_da := E_da.ext E150
  have K0 := K0.ext E150
  have E_b150 := B150
  have V_b150 : Arv Z h150 b150 k150 .byte (Int32.ofNat (cs).length) (BY []) (.int 0) := Arv.new A150 (own_nn (by omega))
  refine go st150 ?_
  show Run p e below _ (T150.setTop (mkF m 12 #[.val (.ref da), .val (.int (0 : Int32)), .val (.int (Int32.ofNat (cs).length)), .val (.int (Int32.ofNat (cs).length)), .unset] [(.ref b150)]))
  refine go (fun _ => XS.astore X150.here hx rfl (hb hby d_j65_m133_12) rfl rfl (l' := #[.val (.ref da), .val (.int (0 : Int32)), .val (.int (Int32.ofNat (cs).length)), .val (.int (Int32.ofNat (cs).length)), .val (.ref b150)]) rfl) ?_
  show Run p e below _ (T150.setTop (mkF m 14 #[.val (.ref da), .val (.int (0 : Int32)), .val (.int (Int32.ofNat (cs).length)), .val (.int (Int32.ofNat (cs).length)), .val (.ref b150)] []))
  refine go (fun _ => XS.aloadN X150.here hx rfl (hb hby d_j65_m133_14) rfl rfl) ?_
  show Run p e below _ (T150.setTop (mkF m 15 #[.val (.ref da), .val (.int (0 : Int32)), .val (.int (Int32.ofNat (cs).length)), .val (.int (Int32.ofNat (cs).length)), .val (.ref b150)] [(.ref da)]))
  refine go (fun _ => XS.iloadN X150.here hx rfl (hb hby d_j65_m133_15) rfl) ?_
  show Run p e below _ (T150.setTop (mkF m 16 #[.val (.ref da), .val (.int (0 : Int32)), .val (.int (Int32.ofNat (cs).length)), .val (.int (Int32.ofNat (cs).length)), .val (.ref b150)] [(.int (0 : Int32)), (.ref da)]))
  refine go (fun _ => XS.aload X150.here hx rfl (hb hby d_j65_m133_16) rfl rfl) ?_
  show Run p e below _ (T150.setTop (mkF m 18 #[.val (.ref da), .val (.int (0 : Int32)), .val (.int (Int32.ofNat (cs).length)), .val (.int (Int32.ofNat (cs).length)), .val (.ref b150)] [(.ref b150), (.int (0 : Int32)), (.ref da)]))
  refine go (fun _ => XS.iconst X150.here hx rfl (hb hby d_j65_m133_18)) ?_
  show Run p e below _ (T150.setTop (mkF m 19 #[.val (.ref da), .val (.int (0 : Int32)), .val (.int (Int32.ofNat (cs).length)), .val (.int (Int32.ofNat (cs).length)), .val (.ref b150)] [(.int (0 : Int32)), (.ref b150), (.int (0 : Int32)), (.ref da)]))
  refine go (fun _ => XS.aloadN X150.here hx rfl (hb hby d_j65_m133_19) rfl rfl) ?_
  show Run p e below _ (T150.setTop (mkF m 20 #[.val (.ref da), .val (.int (0 : Int32)), .val (.int (Int32.ofNat (cs).length)), .val (.int (Int32.ofNat (cs).length)), .val (.ref b150)] [(.ref da), (.int (0 : Int32)), (.ref b150), (.int (0 : Int32)), (.ref da)]))
  obtain ⟨cl151, Ar151, ak151, as151, an151, ah151, ag151⟩ := id V_da
  refine go (fun _ => X150.arraylength hx (by rw [e150]; exact Ar151.1) (State.isArrayOf_alike hZ.alike Ar151.2.1) (g := (mkF m 20 #[.val (.ref da), .val (.int (0 : Int32)), .val (.int (Int32.ofNat (cs).length)), .val (.int (Int32.ofNat (cs).length)), .val (.ref b150)] [(.ref da), (.int (0 : Int32)), (.ref b150), (.int (0 : Int32)), (.ref da)])) rfl rfl (hb hby d_j65_m133_20) _) ?_
  rw [len_of as151 an151]
  show Run p e below _ (T150.setTop (mkF m 21 #[.val (.ref da), .val (.int (0 : Int32)), .val (.int (Int32.ofNat (cs).length)), .val (.int (Int32.ofNat (cs).length)), .val (.ref b150)] [(.int z), (.int (0 : Int32)), (.ref b150), (.int (0 : Int32)), (.ref da)]))
  refine go (fun _ => XS.iloadN X150.here hx rfl (hb hby d_j65_m133_21) rfl) ?_
  show Run p e below _ (T150.setTop (mkF m 22 #[.val (.ref da), .val (.int (0 : Int32)), .val (.int (Int32.ofNat (cs).length)), .val (.int (Int32.ofNat (cs).length)), .val (.ref b150)] [(.int (0 : Int32)), (.int z), (.int (0 : Int32)), (.ref b150), (.int (0 : Int32)), (.ref da)]))
  refine go (fun _ => XS.isub X150.here hx rfl (hb hby d_j65_m133_22) rfl) ?_
  rw [own_sub0]
  show Run p e below _ (T150.setTop (mkF m 23 #[.val (.ref da), .val (.int (0 : Int32)), .val (.int (Int32.ofNat (cs).length)), .val (.int (Int32.ofNat (cs).length)), .val (.ref b150)] [(.int z), (.int (0 : Int32)), (.ref b150), (.int (0 : Int32)), (.ref da)]))
  refine go (fun _ => XS.iloadN X150.here hx rfl (hb hby d_j65_m133_23) rfl) ?_
  show Run p e below _ (T150.setTop (mkF m 24 #[.val (.ref da), .val (.int (0 : Int32)), .val (.int (Int32.ofNat (cs).length)), .val (.int (Int32.ofNat (cs).length)), .val (.ref b150)] [(.int (Int32.ofNat (cs).length)), (.int z), (.int (0 : Int32)), (.ref b150), (.int (0 : Int32)), (.ref da)]))
  refine callSt X150 hx hZ hown (wd hw 98 rfl) (wd hw 99 rfl) (wd hw 90 rfl) (wd hw 100 rfl) (by decide) e150 (argsL := [(.int z), (.int (Int32.ofNat (cs).length))]) (rest := [(.int (0 : Int32)), (.ref b150), (.int (0 : Int32)), (.ref da)]) (rm_min l Z a0 hw [] z (Int32.ofNat (cs).length) h150 n0 O0) (W := 4) (by decide) (by decide) (by decide) (by decide) (by rw [hml]; rfl) (lenOf pd_7 rfl) rfl (Nat.le_of_eq rfl) (hb hby d_j65_m133_24) ?_
  intro v152 T152 L152 h152 X152 e152 q152
  obtain ⟨rv, n152, k152⟩ := q152
  replace rv : v152 = some (.int (Int32.ofNat (cs).length)) := by rw [own_mn hcz hz0] at rv; exact rv
  subst rv
  have e152 := e152.trans k152
  have N152 := Fr.app N149 n152
  show Run p e below _ (T152.setTop (mkF m 27 #[.val (.ref da), .val (.int (0 : Int32)), .val (.int (Int32.ofNat (cs).length)), .val (.int (Int32.ofNat (cs).length)), .val (.ref b150)] [(.int (Int32.ofNat (cs).length)), (.int (0 : Int32)), (.ref b150), (.int (0 : Int32)), (.ref da)]))
  have lt154_da := V_da.lt
  have lt154_b150 := E_b150.lt
  obtain ⟨T153, h153, L153, X153, e153, N153, K153, V_b150, st153⟩ := cpB X152 hx hZ hown (wd hw 101 rfl) (wd hw 104 rfl) (wd hw 102 rfl) (wd hw 103 rfl) e152 (us := cs) (cs := []) V_da V_b150 (dp := (0 : Int32)) (nn := (Int32.ofNat (cs).length)) rfl (by decide) (own_nn (by omega)) (by rw [own_cl (by omega)]; exact Nat.le_refl _) (by rw [own_cl (by omega)]; exact hcz) (by rw [own_cl (by omega)]; show 0 + _ ≤ _; omega) N152 g_b150 (g := (mkF m 27 #[.val (.ref da), .val (.int (0 : Int32)), .val (.int (Int32.ofNat (cs).length)), .val (.int (Int32.ofNat (cs).length)), .val (.ref b150)] [(.int (Int32.ofNat (cs).length)), (.int (0 : Int32)), (.ref b150), (.int (0 : Int32)), (.ref da)])) rfl (by rw [hml]; rfl) rfl (hb hby d_j65_m133_27) (by decide) (W := 0) (Nat.le_of_eq rfl) (by decide)
  have O0 := O0.keep K153 (allS g_b150 all0)
  have V_da := V_da.keep K153 (ninS ne_da_b150 nin0)
  have E_da := E_da.keep K153
  have K0 := K0.trans K153 (allS (Or.inr sz_b150) all0)
  have E_b150 := E_b150.keep K153
  refine go st153 ?_
  show Run p e below _ (T153.setTop (mkF m 30 #[.val (.ref da), .val (.int (0 : Int32)), .val (.int (Int32.ofNat (cs).length)), .val (.int (Int32.ofNat (cs).length)), .val (.ref b150)] []))
  refine go (fun _ => XS.aload X153.here hx rfl (hb hby d_j65_m133_30) rfl rfl) ?_
  show Run p e below _ (T153.setTop (mkF m 32 #[.val (.ref da), .val (.int (0 : Int32)), .val (.int (Int32.ofNat (cs).length)), .val (.int (Int32.ofNat (cs).length)), .val (.ref b150)] [(.ref b150)]))
  exact endA X153 hx hlk (w := (.ref b150)) hret rfl rfl (hb hby d_j65_m133_32) (by rw [e153]; exact ⟨b150, _, rfl, N153, K0, sz_b150, g_b150, V_b150⟩) (by decide) (by decide)
theorem d_j65_m132_0 : decode jdk_65_method_132_code 0 = .ok (.iload_n 1, 1) := by decide +kernel
theorem d_j65_m132_1 : decode jdk_65_method_132_code 1 = .ok (.ifCond .ne 9, 3) := by decide +kernel
theorem d_j65_m132_4 : decode jdk_65_method_132_code 4 = .ok (.iload_n 2, 1) := by decide +kernel
theorem d_j65_m132_5 : decode jdk_65_method_132_code 5 = .ok (.aload_n 0, 1) := by decide +kernel
theorem d_j65_m132_6 : decode jdk_65_method_132_code 6 = .ok (.arraylength, 1) := by decide +kernel
theorem d_j65_m132_7 : decode jdk_65_method_132_code 7 = .ok (.if_icmp .eq 10, 3) := by decide +kernel
theorem d_j65_m132_17 : decode jdk_65_method_132_code 17 = .ok (.aload_n 0, 1) := by decide +kernel
theorem d_j65_m132_18 : decode jdk_65_method_132_code 18 = .ok (.invokevirtual 310, 3) := by decide +kernel
theorem d_j65_m132_21 : decode jdk_65_method_132_code 21 = .ok (.checkcast 311, 3) := by decide +kernel
theorem d_j65_m132_24 : decode jdk_65_method_132_code 24 = .ok (.areturn, 1) := by decide +kernel
theorem d_j65_m132_10 : decode jdk_65_method_132_code 10 = .ok (.aload_n 0, 1) := by decide +kernel
theorem d_j65_m132_11 : decode jdk_65_method_132_code 11 = .ok (.iload_n 1, 1) := by decide +kernel
theorem d_j65_m132_12 : decode jdk_65_method_132_code 12 = .ok (.iload_n 2, 1) := by decide +kernel
theorem d_j65_m132_13 : decode jdk_65_method_132_code 13 = .ok (.invokestatic 339, 3) := by decide +kernel
theorem pd_18 : parseMethodDescriptor "([BII)[B" = some ⟨[(.array .byte), .int, .int], some (.array .byte)⟩ := by decide +kernel
theorem d_j65_m132_16 : decode jdk_65_method_132_code 16 = .ok (.areturn, 1) := by decide +kernel
def Q_rm_cr (Z : State) (da : Addr) (kd : ClassId) (z : Int32) (cs : List Int32) (h0 : Heap) (n0 : Nat) (v : Option Value) (h : Heap) (L : List Loc) : Prop := ∃ (d2 : Addr) (k2 : ClassId), v = some (.ref d2) ∧ Fr n0 L ∧ Keep h0 h [] ∧ h0.size ≤ d2 ∧ n0 ≤ d2 ∧ Arv Z h d2 k2 .byte (Int32.ofNat (cs).length) (BY cs) (.int 0)
set_option maxRecDepth 65536 in
set_option maxHeartbeats 40000000 in
theorem rm_cr (l : Launch) (Z : State) (a0 : Array Value) (hw : ∀ d ∈ tables_1, d.before a0 Z = true) (ws : List Jvm.Cond) (da : Addr) (kd : ClassId) (z : Int32) (cs : List Int32) (h0 : Heap) (n0 : Nat) (O0 : Old Z n0 h0) (V_da : Arv Z h0 da kd .byte z (BY cs) (.int 0)) (E_da : Exa Z h0 da "[B") (hcz : cs.length ≤ z.toNatClampNeg) (hz0 : ¬ z < 0) (hz1 : z.toNatClampNeg ≤ 100) :
    Meets l (⟨"java/util/Arrays", "copyOfRange", "([BII)[B"⟩ : MethodName) jdk_65_method_132_code 3 (some (.array .byte)) ws ({ frames := 2, cells := 1, slots := 100, locals := 56 } : Room) Z #[(.ref da), (.int (0 : Int32)), (.int (Int32.ofNat (cs).length))] h0 (Q_rm_cr Z da kd z cs h0 n0) 1 100 := by
  refine enter (Ls := #[.val (.ref da), .val (.int (0 : Int32)), .val (.int (Int32.ofNat (cs).length))]) (plainFor_of_name pn_10) (fun m => by first | (simp [entryFrame, mkF, argsToLocals, Value.category]; done) | rfl) ?_
  intro p e s m below meth c T0 hx hby hml hown hnm hret hlk hZ X0 e0
  have N0 := Fr.nil n0
  replace hown : s.vm.findClass "java/util/Arrays" = some m.cls := hown
  show Run p e below _ (T0.setTop (mkF m 0 #[.val (.ref da), .val (.int (0 : Int32)), .val (.int (Int32.ofNat (cs).length))] []))
  have K0 := Keep.refl h0 []
  refine go (fun _ => XS.iloadN X0.here hx rfl (hb hby d_j65_m132_0) rfl) ?_
  show Run p e below _ (T0.setTop (mkF m 1 #[.val (.ref da), .val (.int (0 : Int32)), .val (.int (Int32.ofNat (cs).length))] [(.int (0 : Int32))]))
  refine go (fun _ => XS.ifNo X0.here hx rfl (hb hby d_j65_m132_1) rfl ((if0 _ _).trans (teq (by decide : (0 : Int32) = 0)).2)) ?_
  show Run p e below _ (T0.setTop (mkF m 4 #[.val (.ref da), .val (.int (0 : Int32)), .val (.int (Int32.ofNat (cs).length))] []))
  refine go (fun _ => XS.iloadN X0.here hx rfl (hb hby d_j65_m132_4) rfl) ?_
  show Run p e below _ (T0.setTop (mkF m 5 #[.val (.ref da), .val (.int (0 : Int32)), .val (.int (Int32.ofNat (cs).length))] [(.int (Int32.ofNat (cs).length))]))
  refine go (fun _ => XS.aloadN X0.here hx rfl (hb hby d_j65_m132_5) rfl rfl) ?_
  show Run p e below _ (T0.setTop (mkF m 6 #[.val (.ref da), .val (.int (0 : Int32)), .val (.int (Int32.ofNat (cs).length))] [(.ref da), (.int (Int32.ofNat (cs).length))]))
  obtain ⟨cl155, Ar155, ak155, as155, an155, ah155, ag155⟩ := id V_da
  refine go (fun _ => X0.arraylength hx (by rw [e0]; exact Ar155.1) (State.isArrayOf_alike hZ.alike Ar155.2.1) (g := (mkF m 6 #[.val (.ref da), .val (.int (0 : Int32)), .val (.int (Int32.ofNat (cs).length))] [(.ref da), (.int (Int32.ofNat (cs).length))])) rfl rfl (hb hby d_j65_m132_6) _) ?_
  rw [len_of as155 an155]
  show Run p e below _ (T0.setTop (mkF m 7 #[.val (.ref da), .val (.int (0 : Int32)), .val (.int (Int32.ofNat (cs).length))] [(.int z), (.int (Int32.ofNat (cs).length))]))
  by_cases c156 : (Int32.ofNat (cs).length) = z
  · skip
    refine go (fun _ => XS.icmpYes X0.here hx rfl (pc0 := 7) (pc' := 17) rfl (hb hby d_j65_m132_7) rfl (teq c156).1 (by decide) (by decide)) ?_
    show Run p e below _ (T0.setTop (mkF m 17 #[.val (.ref da), .val (.int (0 : Int32)), .val (.int (Int32.ofNat (cs).length))] []))
    refine go (fun _ => XS.aloadN X0.here hx rfl (hb hby d_j65_m132_17) rfl rfl) ?_
    show Run p e below _ (T0.setTop (mkF m 18 #[.val (.ref da), .val (.int (0 : Int32)), .val (.int (Int32.ofNat (cs).length))] [(.ref da)]))
    obtain ⟨T157, h157, X157, e157, E157, A157, B157, st157⟩ := cloneH X0 hx hZ hown (wd hw 248 rfl) (wd hw 249 rfl) (wd hw 253 rfl) (wd hw 251 rfl) (wd hw 252 rfl) (wd hw 254 rfl) e0 (V_da).arh E_da (g := (mkF m 18 #[.val (.ref da), .val (.int (0 : Int32)), .val (.int (Int32.ofNat (cs).length))] [(.ref da)])) rfl (by rw [hml]; rfl) rfl (hb hby d_j65_m132_18) (by decide) (W := 0) (cap := 100) (Nat.le_of_eq rfl) (by decide) hz1 (by decide) (by decide)
    obtain ⟨b157, y157⟩ : ∃ z, z = h0.size := ⟨_, rfl⟩
    rw [← y157] at A157 B157 st157
    have g_b157 : n0 ≤ b157 := y157.symm ▸ old_sz O0
    have sz_b157 : h0.size ≤ b157 := y157.symm ▸ K0.1
    have ne_da_b157 : da ≠ b157 := Nat.ne_of_lt (y157.symm ▸ V_da.lt)
    have O0 := O0.ext E157
    have V_da := V_da.ext E157
    have E_da := E_da.ext E157
    have K0 := K0.ext E157
    have E_b157 := B157
    have V_b157 : Arv Z h157 b157 kd .byte (Int32.ofNat (cs).length) (BY cs) (.int 0) := c156.symm ▸ (show Arv Z h157 b157 kd .byte z (BY cs) (.int 0) from A157)
    refine go st157 ?_
    show Run p e below _ (T157.setTop (mkF m 21 #[.val (.ref da), .val (.int (0 : Int32)), .val (.int (Int32.ofNat (cs).length))] [(.ref b157)]))
    obtain ⟨T158, X158, e158, st158⟩ := castY X157 hx hZ hown (wd hw 255 rfl) e157 (Ins.self E_b157) (g := (mkF m 21 #[.val (.ref da), .val (.int (0 : Int32)), .val (.int (Int32.ofNat (cs).length))] [(.ref b157)])) rfl rfl (hb hby d_j65_m132_21)
    refine go st158 ?_
    show Run p e below _ (T158.setTop (mkF m 24 #[.val (.ref da), .val (.int (0 : Int32)), .val (.int (Int32.ofNat (cs).length))] [(.ref b157)]))
    exact endA X158 hx hlk (w := (.ref b157)) hret rfl rfl (hb hby d_j65_m132_24) (by rw [e158]; exact ⟨b157, _, rfl, N0, K0, sz_b157, g_b157, V_b157⟩) (by decide) (by decide)
  · skip
    refine go (fun _ => XS.icmpNo X0.here hx rfl (hb hby d_j65_m132_7) rfl (feq c156).1) ?_
    show Run p e below _ (T0.setTop (mkF m 10 #[.val (.ref da), .val (.int (0 : Int32)), .val (.int (Int32.ofNat (cs).length))] []))
    refine go (fun _ => XS.aloadN X0.here hx rfl (hb hby d_j65_m132_10) rfl rfl) ?_
    show Run p e below _ (T0.setTop (mkF m 11 #[.val (.ref da), .val (.int (0 : Int32)), .val (.int (Int32.ofNat (cs).length))] [(.ref da)]))
    refine go (fun _ => XS.iloadN X0.here hx rfl (hb hby d_j65_m132_11) rfl) ?_
    show Run p e below _ (T0.setTop (mkF m 12 #[.val (.ref da), .val (.int (0 : Int32)), .val (.int (Int32.ofNat (cs).length))] [(.int (0 : Int32)), (.ref da)]))
    refine go (fun _ => XS.iloadN X0.here hx rfl (hb hby d_j65_m132_12) rfl) ?_
    show Run p e below _ (T0.setTop (mkF m 13 #[.val (.ref da), .val (.int (0 : Int32)), .val (.int (Int32.ofNat (cs).length))] [(.int (Int32.ofNat (cs).length)), (.int (0 : Int32)), (.ref da)]))
    refine callSt X0 hx hZ hown (wd hw 177 rfl) (wd hw 178 rfl) (wd hw 96 rfl) (wd hw 179 rfl) (by decide) e0 (argsL := [(.ref da), (.int (0 : Int32)), (.int (Int32.ofNat (cs).length))]) (rest := []) (rm_crb l Z a0 hw [] da kd z cs h0 n0 O0 V_da E_da hcz hz0 hz1) (W := 0) (by decide) (by decide) (by decide) (by decide) (by rw [hml]; rfl) (lenOf pd_18 rfl) rfl (Nat.le_of_eq rfl) (hb hby d_j65_m132_13) ?_
    intro v159 T159 L159 h159 X159 e159 q159
    have lt160_da := V_da.lt
    obtain ⟨d159, kd159, rfl, n159, K159, sb159, g_d159, V_d159⟩ := q159
    have szq159 := K0.1
    have ne_da_d159 : da ≠ d159 := Nat.ne_of_lt (Nat.lt_of_lt_of_le lt160_da sb159)
    have sz_d159 : h0.size ≤ d159 := Nat.le_trans szq159 sb159
    have O0 := O0.keep K159 all0
    have V_da := V_da.keep K159 nin0
    have E_da := E_da.keep K159
    have K0 := K0.trans K159 all0
    have N159 := Fr.app N0 n159
    show Run p e below _ (T159.setTop (mkF m 16 #[.val (.ref da), .val (.int (0 : Int32)), .val (.int (Int32.ofNat (cs).length))] [(.ref d159)]))
    exact endA X159 hx hlk (w := (.ref d159)) hret rfl rfl (hb hby d_j65_m132_16) (by rw [e159]; exact ⟨d159, _, rfl, N159, K0, sz_d159, g_d159, V_d159⟩) (by decide) (by decide)
theorem d_j42_m150_0 : decode jdk_42_method_150_code 0 = .ok (.aload_n 0, 1) := by decide +kernel
theorem d_j42_m150_1 : decode jdk_42_method_150_code 1 = .ok (.invokespecial 1, 3) := by decide +kernel
theorem d_j42_m150_4 : decode jdk_42_method_150_code 4 = .ok (.aload_n 1, 1) := by decide +kernel
theorem d_j42_m150_5 : decode jdk_42_method_150_code 5 = .ok (.invokevirtual 552, 3) := by decide +kernel
theorem pd_19 : parseMethodDescriptor "()[B" = some ⟨[], some (.array .byte)⟩ := by decide +kernel
theorem d_j42_m150_8 : decode jdk_42_method_150_code 8 = .ok (.astore_n 3, 1) := by decide +kernel
theorem d_j42_m150_9 : decode jdk_42_method_150_code 9 = .ok (.aload_n 1, 1) := by decide +kernel
theorem d_j42_m150_10 : decode jdk_42_method_150_code 10 = .ok (.invokevirtual 549, 3) := by decide +kernel
theorem d_j42_m150_13 : decode jdk_42_method_150_code 13 = .ok (.istore 4, 2) := by decide +kernel
theorem d_j42_m150_15 : decode jdk_42_method_150_code 15 = .ok (.aload_n 1, 1) := by decide +kernel
theorem d_j42_m150_16 : decode jdk_42_method_150_code 16 = .ok (.invokevirtual 1047, 3) := by decide +kernel
theorem d_j42_m150_19 : decode jdk_42_method_150_code 19 = .ok (.ifCond .eq 22, 3) := by decide +kernel
theorem d_j42_m150_22 : decode jdk_42_method_150_code 22 = .ok (.aload_n 0, 1) := by decide +kernel
theorem d_j42_m150_23 : decode jdk_42_method_150_code 23 = .ok (.iconst 0, 1) := by decide +kernel
theorem d_j42_m150_24 : decode jdk_42_method_150_code 24 = .ok (.putfield 15, 3) := by decide +kernel
theorem d_j42_m150_27 : decode jdk_42_method_150_code 27 = .ok (.aload_n 0, 1) := by decide +kernel
theorem d_j42_m150_28 : decode jdk_42_method_150_code 28 = .ok (.aload_n 3, 1) := by decide +kernel
theorem d_j42_m150_29 : decode jdk_42_method_150_code 29 = .ok (.iconst 0, 1) := by decide +kernel
theorem d_j42_m150_30 : decode jdk_42_method_150_code 30 = .ok (.iload 4, 2) := by decide +kernel
theorem d_j42_m150_32 : decode jdk_42_method_150_code 32 = .ok (.invokestatic 54, 3) := by decide +kernel
theorem d_j42_m150_35 : decode jdk_42_method_150_code 35 = .ok (.putfield 9, 3) := by decide +kernel
theorem d_j42_m150_38 : decode jdk_42_method_150_code 38 = .ok (.goto 59, 3) := by decide +kernel
theorem d_j42_m150_97 : decode jdk_42_method_150_code 97 = .ok (.return_, 1) := by decide +kernel
def Q_rm_t2 (Z : State) (zc : Int32) (x b da : Addr) (kd : ClassId) (z : Int32) (cs : List Int32) (h0 : Heap) (n0 : Nat) (v : Option Value) (h : Heap) (L : List Loc) : Prop := v = none ∧ Fr n0 L ∧ Keep h0 h [x] ∧ ∃ (t : Addr) (kb : ClassId), h0.size ≤ t ∧ n0 ≤ t ∧ Str Z h x t kb cs
set_option maxRecDepth 65536 in
set_option maxHeartbeats 40000000 in
theorem rm_t2 (l : Launch) (Z : State) (a0 : Array Value) (hw : ∀ d ∈ tables_1, d.before a0 Z = true) (ws : List Jvm.Cond) (zc : Int32) (x b da : Addr) (kd : ClassId) (z : Int32) (cs : List Int32) (h0 : Heap) (n0 : Nat) (O0 : Old Z n0 h0) (S_COMPACT_STRINGS : Sta Z Z.heap "java/lang/String" "COMPACT_STRINGS" "Z" (.int zc)) (hzc : ¬ zc = 0) (E_x : Exa Z h0 x "java/lang/String") (F_value_x : Fld Z h0 x "java/lang/String" "value" "[B" .null) (F_coder_x : Fld Z h0 x "java/lang/String" "coder" "B" (.int (0 : Int32))) (g_x : n0 ≤ x) (E_b : Exa Z h0 b "java/lang/StringBuilder") (F_value_b : Fld Z h0 b "java/lang/AbstractStringBuilder" "value" "[B" (.ref da)) (F_coder_b : Fld Z h0 b "java/lang/AbstractStringBuilder" "coder" "B" (.int (0 : Int32))) (F_count_b : Fld Z h0 b "java/lang/AbstractStringBuilder" "count" "I" (.int (Int32.ofNat (cs).length))) (V_da : Arv Z h0 da kd .byte z (BY cs) (.int 0)) (E_da : Exa Z h0 da "[B") (g_b : n0 ≤ b) (g_da : n0 ≤ da) (hcz : cs.length ≤ z.toNatClampNeg) (hz0 : ¬ z < 0) (hz1 : z.toNatClampNeg ≤ 100) :
    Meets l (⟨"java/lang/String", "<init>", "(Ljava/lang/AbstractStringBuilder;Ljava/lang/Void;)V"⟩ : MethodName) jdk_42_method_150_code 5 none ws ({ frames := 3, cells := 1, slots := 100, locals := 71 } : Room) Z #[(.ref x), (.ref b), .null] h0 (Q_rm_t2 Z zc x b da kd z cs h0 n0) 1 100 := by
  refine enter (Ls := #[.val (.ref x), .val (.ref b), .val .null, .unset, .unset]) (plainFor_of_name pn_6) (fun m => by first | (simp [entryFrame, mkF, argsToLocals, Value.category]; done) | rfl) ?_
  intro p e s m below meth c T0 hx hby hml hown hnm hret hlk hZ X0 e0
  have N0 := Fr.nil n0
  replace hown : s.vm.findClass "java/lang/String" = some m.cls := hown
  show Run p e below _ (T0.setTop (mkF m 0 #[.val (.ref x), .val (.ref b), .val .null, .unset, .unset] []))
  have K0 := Keep.refl h0 [x]
  refine go (fun _ => XS.aloadN X0.here hx rfl (hb hby d_j42_m150_0) rfl rfl) ?_
  show Run p e below _ (T0.setTop (mkF m 1 #[.val (.ref x), .val (.ref b), .val .null, .unset, .unset] [(.ref x)]))
  obtain ⟨T161, X161, e161, st161⟩ := initO X0 hx hZ hown (wd hw 159 rfl) (wd hw 12 rfl) (wd hw 13 rfl) e0 (g := (mkF m 1 #[.val (.ref x), .val (.ref b), .val .null, .unset, .unset] [(.ref x)])) rfl (by rw [hml]; rfl) rfl (hb hby d_j42_m150_1) (by decide) (W := 0) (by show 2 * 0 + _ ≤ _; exact Nat.le_of_eq rfl) (by decide)
  refine go st161 ?_
  show Run p e below _ (T161.setTop (mkF m 4 #[.val (.ref x), .val (.ref b), .val .null, .unset, .unset] []))
  refine go (fun _ => XS.aloadN X161.here hx rfl (hb hby d_j42_m150_4) rfl rfl) ?_
  show Run p e below _ (T161.setTop (mkF m 5 #[.val (.ref x), .val (.ref b), .val .null, .unset, .unset] [(.ref b)]))
  refine callVi X161 hx hZ hown (wd hw 160 rfl) (wd hw 161 rfl) (notFace_of_selects (args := #[]) (mvT hZ (wd hw 163 rfl))) (wd hw 163 rfl) (wd hw 162 rfl) (wd hw 164 rfl) (wd hw 33 rfl) (by decide) e161 E_b (argsL := []) (rest := []) (rm_gv l Z a0 hw [] b da h0 n0 O0 F_value_b) (W := 0) (by decide) (by decide) (by decide) (by decide) (by rw [hml]; rfl) (lenOf pd_19 rfl) rfl (Nat.le_of_eq rfl) (hb hby d_j42_m150_5) ?_
  intro v162 T162 L162 h162 X162 e162 q162
  obtain ⟨rv, n162, k162⟩ := q162
  replace rv : v162 = some (.ref da) := rv
  subst rv
  have e162 := e162.trans k162
  have N162 := Fr.app N0 n162
  show Run p e below _ (T162.setTop (mkF m 8 #[.val (.ref x), .val (.ref b), .val .null, .unset, .unset] [(.ref da)]))
  refine go (fun _ => XS.astoreN X162.here hx rfl (hb hby d_j42_m150_8) rfl rfl (l' := #[.val (.ref x), .val (.ref b), .val .null, .val (.ref da), .unset]) rfl) ?_
  show Run p e below _ (T162.setTop (mkF m 9 #[.val (.ref x), .val (.ref b), .val .null, .val (.ref da), .unset] []))
  refine go (fun _ => XS.aloadN X162.here hx rfl (hb hby d_j42_m150_9) rfl rfl) ?_
  show Run p e below _ (T162.setTop (mkF m 10 #[.val (.ref x), .val (.ref b), .val .null, .val (.ref da), .unset] [(.ref b)]))
  refine callVi X162 hx hZ hown (wd hw 165 rfl) (wd hw 166 rfl) (own_nf (args := #[]) (mvT hZ (wd hw 77 rfl)) rfl) (wd hw 168 rfl) (wd hw 169 rfl) (wd hw 170 rfl) (wd hw 25 rfl) (by decide) e162 E_b (argsL := []) (rest := []) (rm_sl l Z a0 hw [] b _ h0 n0 O0 E_b F_count_b) (W := 0) (by decide) (by decide) (by decide) (by decide) (by rw [hml]; rfl) (lenOf pd_13 rfl) rfl (Nat.le_of_eq rfl) (hb hby d_j42_m150_10) ?_
  intro v163 T163 L163 h163 X163 e163 q163
  obtain ⟨rv, n163, k163⟩ := q163
  replace rv : v163 = some (.int (Int32.ofNat (cs).length)) := rv
  subst rv
  have e163 := e163.trans k163
  have N163 := Fr.app N162 n163
  show Run p e below _ (T163.setTop (mkF m 13 #[.val (.ref x), .val (.ref b), .val .null, .val (.ref da), .unset] [(.int (Int32.ofNat (cs).length))]))
  refine go (fun _ => XS.istore X163.here hx rfl (hb hby d_j42_m150_13) rfl (l' := #[.val (.ref x), .val (.ref b), .val .null, .val (.ref da), .val (.int (Int32.ofNat (cs).length))]) rfl) ?_
  show Run p e below _ (T163.setTop (mkF m 15 #[.val (.ref x), .val (.ref b), .val .null, .val (.ref da), .val (.int (Int32.ofNat (cs).length))] []))
  refine go (fun _ => XS.aloadN X163.here hx rfl (hb hby d_j42_m150_15) rfl rfl) ?_
  show Run p e below _ (T163.setTop (mkF m 16 #[.val (.ref x), .val (.ref b), .val .null, .val (.ref da), .val (.int (Int32.ofNat (cs).length))] [(.ref b)]))
  refine callVi X163 hx hZ hown (wd hw 173 rfl) (wd hw 136 rfl) (notFace_of_selects (args := #[]) (mvT hZ (wd hw 138 rfl))) (wd hw 138 rfl) (wd hw 137 rfl) (wd hw 139 rfl) (wd hw 33 rfl) (by decide) e163 E_b (argsL := []) (rest := []) (rm_il l Z a0 hw [] zc b h0 n0 O0 S_COMPACT_STRINGS hzc F_coder_b) (W := 0) (by decide) (by decide) (by decide) (by decide) (by rw [hml]; rfl) (lenOf pd_5 rfl) rfl (Nat.le_of_eq rfl) (hb hby d_j42_m150_16) ?_
  intro v164 T164 L164 h164 X164 e164 q164
  obtain ⟨rv, n164, k164⟩ := q164
  replace rv : v164 = some (.int (1 : Int32)) := rv
  subst rv
  have e164 := e164.trans k164
  have N164 := Fr.app N163 n164
  show Run p e below _ (T164.setTop (mkF m 19 #[.val (.ref x), .val (.ref b), .val .null, .val (.ref da), .val (.int (Int32.ofNat (cs).length))] [(.int (1 : Int32))]))
  refine go (fun _ => XS.ifNo X164.here hx rfl (hb hby d_j42_m150_19) rfl ((if0 _ _).trans (feq (by decide : ¬ ((1 : Int32) = 0))).1)) ?_
  show Run p e below _ (T164.setTop (mkF m 22 #[.val (.ref x), .val (.ref b), .val .null, .val (.ref da), .val (.int (Int32.ofNat (cs).length))] []))
  refine go (fun _ => XS.aloadN X164.here hx rfl (hb hby d_j42_m150_22) rfl rfl) ?_
  show Run p e below _ (T164.setTop (mkF m 23 #[.val (.ref x), .val (.ref b), .val .null, .val (.ref da), .val (.int (Int32.ofNat (cs).length))] [(.ref x)]))
  refine go (fun _ => XS.iconst X164.here hx rfl (hb hby d_j42_m150_23)) ?_
  show Run p e below _ (T164.setTop (mkF m 24 #[.val (.ref x), .val (.ref b), .val .null, .val (.ref da), .val (.int (Int32.ofNat (cs).length))] [(.int (0 : Int32)), (.ref x)]))
  obtain ⟨T165, h165, X165, e165, W165, st165⟩ := putFN X164 hx hZ hown (wd hw 71 rfl) Via.refl e164 F_coder_x E_x (Or.inr ⟨(wd hw 46 rfl), rfl, hnm⟩) (wd hw 44 rfl) (ty := .byte) (v' := (.int (nar .byte (0 : Int32)))) (by decide) rfl (fits_nar_byte _) (g := (mkF m 24 #[.val (.ref x), .val (.ref b), .val .null, .val (.ref da), .val (.int (Int32.ofNat (cs).length))] [(.int (0 : Int32)), (.ref x)])) rfl rfl (hb hby d_j42_m150_24)
  have ne_b_x : b ≠ x := ne_exa E_b E_x (by decide)
  have ne_da_x : da ≠ x := ne_exa E_da E_x (by decide)
  have O0 := O0.wr W165 g_x
  have E_x := E_x.wr W165
  have F_value_x := F_value_x.other W165 (Or.inr (slot_ne (Or.inr (wd hw 45 rfl)) (Or.inr (wd hw 46 rfl)) (by decide) (t := (.array .byte)) (t' := .byte) (by decide) (by decide)))
  have F_coder_x := F_coder_x.same W165
  have E_b := E_b.wr W165
  have F_value_b := F_value_b.other W165 (Or.inl ne_b_x)
  have F_coder_b := F_coder_b.other W165 (Or.inl ne_b_x)
  have F_count_b := F_count_b.other W165 (Or.inl ne_b_x)
  have V_da := V_da.other W165 ne_da_x
  have E_da := E_da.wr W165
  have K0 := K0.wr W165 (Or.inl (by simp))
  rw [(show nar .byte (0 : Int32) = (0 : Int32) by decide)] at F_coder_x
  have N165 := Fr.snoc X165 N164 g_x
  refine go st165 ?_
  show Run p e below _ (T165.setTop (mkF m 27 #[.val (.ref x), .val (.ref b), .val .null, .val (.ref da), .val (.int (Int32.ofNat (cs).length))] []))
  refine go (fun _ => XS.aloadN X165.here hx rfl (hb hby d_j42_m150_27) rfl rfl) ?_
  show Run p e below _ (T165.setTop (mkF m 28 #[.val (.ref x), .val (.ref b), .val .null, .val (.ref da), .val (.int (Int32.ofNat (cs).length))] [(.ref x)]))
  refine go (fun _ => XS.aloadN X165.here hx rfl (hb hby d_j42_m150_28) rfl rfl) ?_
  show Run p e below _ (T165.setTop (mkF m 29 #[.val (.ref x), .val (.ref b), .val .null, .val (.ref da), .val (.int (Int32.ofNat (cs).length))] [(.ref da), (.ref x)]))
  refine go (fun _ => XS.iconst X165.here hx rfl (hb hby d_j42_m150_29)) ?_
  show Run p e below _ (T165.setTop (mkF m 30 #[.val (.ref x), .val (.ref b), .val .null, .val (.ref da), .val (.int (Int32.ofNat (cs).length))] [(.int (0 : Int32)), (.ref da), (.ref x)]))
  refine go (fun _ => XS.iload X165.here hx rfl (hb hby d_j42_m150_30) rfl) ?_
  show Run p e below _ (T165.setTop (mkF m 32 #[.val (.ref x), .val (.ref b), .val .null, .val (.ref da), .val (.int (Int32.ofNat (cs).length))] [(.int (Int32.ofNat (cs).length)), (.int (0 : Int32)), (.ref da), (.ref x)]))
  refine callSt X165 hx hZ hown (wd hw 174 rfl) (wd hw 175 rfl) (wd hw 96 rfl) (wd hw 176 rfl) (by decide) e165 (argsL := [(.ref da), (.int (0 : Int32)), (.int (Int32.ofNat (cs).length))]) (rest := [(.ref x)]) (rm_cr l Z a0 hw [] da kd z cs h165 n0 O0 V_da E_da hcz hz0 hz1) (W := 1) (by decide) (by decide) (by decide) (by decide) (by rw [hml]; rfl) (lenOf pd_18 rfl) rfl (Nat.le_of_eq rfl) (hb hby d_j42_m150_32) ?_
  intro v166 T166 L166 h166 X166 e166 q166
  have lt167_x := E_x.lt
  have lt167_b := E_b.lt
  have lt167_da := V_da.lt
  obtain ⟨d166, kd166, rfl, n166, K166, sb166, g_d166, V_d166⟩ := q166
  have szq166 := K0.1
  have ne_x_d166 : x ≠ d166 := Nat.ne_of_lt (Nat.lt_of_lt_of_le lt167_x sb166)
  have ne_b_d166 : b ≠ d166 := Nat.ne_of_lt (Nat.lt_of_lt_of_le lt167_b sb166)
  have ne_da_d166 : da ≠ d166 := Nat.ne_of_lt (Nat.lt_of_lt_of_le lt167_da sb166)
  have sz_d166 : h0.size ≤ d166 := Nat.le_trans szq166 sb166
  have O0 := O0.keep K166 all0
  have E_x := E_x.keep K166
  have F_value_x := F_value_x.keep K166 nin0
  have F_coder_x := F_coder_x.keep K166 nin0
  have E_b := E_b.keep K166
  have F_value_b := F_value_b.keep K166 nin0
  have F_coder_b := F_coder_b.keep K166 nin0
  have F_count_b := F_count_b.keep K166 nin0
  have V_da := V_da.keep K166 nin0
  have E_da := E_da.keep K166
  have K0 := K0.trans K166 all0
  have N166 := Fr.app N165 n166
  show Run p e below _ (T166.setTop (mkF m 35 #[.val (.ref x), .val (.ref b), .val .null, .val (.ref da), .val (.int (Int32.ofNat (cs).length))] [(.ref d166), (.ref x)]))
  obtain ⟨T168, h168, X168, e168, W168, st168⟩ := putF X166 hx hZ hown (host := "") (Or.inl (wd hw 64 rfl)) Via.refl e166 F_value_x E_x (Or.inr ⟨(wd hw 45 rfl), rfl, hnm⟩) (wd hw 44 rfl) (ty := (.array .byte)) (by decide) rfl rfl (g := (mkF m 35 #[.val (.ref x), .val (.ref b), .val .null, .val (.ref da), .val (.int (Int32.ofNat (cs).length))] [(.ref d166), (.ref x)])) rfl rfl (hb hby d_j42_m150_35)
  have O0 := O0.wr W168 g_x
  have E_x := E_x.wr W168
  have F_value_x := F_value_x.same W168
  have F_coder_x := F_coder_x.other W168 (Or.inr (slot_ne (Or.inr (wd hw 46 rfl)) (Or.inr (wd hw 45 rfl)) (by decide) (t := .byte) (t' := (.array .byte)) (by decide) (by decide)))
  have E_b := E_b.wr W168
  have F_value_b := F_value_b.other W168 (Or.inl ne_b_x)
  have F_coder_b := F_coder_b.other W168 (Or.inl ne_b_x)
  have F_count_b := F_count_b.other W168 (Or.inl ne_b_x)
  have V_da := V_da.other W168 ne_da_x
  have E_da := E_da.wr W168
  have K0 := K0.wr W168 (Or.inl (by simp))
  have V_d166 := V_d166.other W168 (Ne.symm ne_x_d166)
  have N168 := Fr.snoc X168 N166 g_x
  refine go st168 ?_
  show Run p e below _ (T168.setTop (mkF m 38 #[.val (.ref x), .val (.ref b), .val .null, .val (.ref da), .val (.int (Int32.ofNat (cs).length))] []))
  refine go (fun _ => XS.goto X168.here hx rfl (pc0 := 38) (pc' := 97) rfl (hb hby d_j42_m150_38) (by decide) (by decide)) ?_
  show Run p e below _ (T168.setTop (mkF m 97 #[.val (.ref x), .val (.ref b), .val .null, .val (.ref da), .val (.int (Int32.ofNat (cs).length))] []))
  exact endV X168 hx hlk hret (hb hby d_j42_m150_97) (by rw [e168]; exact ⟨rfl, N168, K0, d166, _, sz_d166, g_d166, E_x, F_value_x, F_coder_x, V_d166⟩) (by decide) (by decide)
theorem d_j42_m53_0 : decode jdk_42_method_53_code 0 = .ok (.aload_n 0, 1) := by decide +kernel
theorem d_j42_m53_1 : decode jdk_42_method_53_code 1 = .ok (.aload_n 1, 1) := by decide +kernel
theorem d_j42_m53_2 : decode jdk_42_method_53_code 2 = .ok (.aconst_null, 1) := by decide +kernel
theorem d_j42_m53_3 : decode jdk_42_method_53_code 3 = .ok (.invokespecial 489, 3) := by decide +kernel
theorem pd_20 : parseMethodDescriptor "(Ljava/lang/AbstractStringBuilder;Ljava/lang/Void;)V" = some ⟨[(.object "java/lang/AbstractStringBuilder"), (.object "java/lang/Void")], none⟩ := by decide +kernel
theorem d_j42_m53_6 : decode jdk_42_method_53_code 6 = .ok (.return_, 1) := by decide +kernel
def Q_rm_t1 (Z : State) (zc : Int32) (x b da : Addr) (kd : ClassId) (z : Int32) (cs : List Int32) (h0 : Heap) (n0 : Nat) (v : Option Value) (h : Heap) (L : List Loc) : Prop := v = none ∧ Fr n0 L ∧ Keep h0 h [x] ∧ ∃ (t : Addr) (kb : ClassId), h0.size ≤ t ∧ n0 ≤ t ∧ Str Z h x t kb cs
set_option maxRecDepth 65536 in
set_option maxHeartbeats 40000000 in
theorem rm_t1 (l : Launch) (Z : State) (a0 : Array Value) (hw : ∀ d ∈ tables_1, d.before a0 Z = true) (ws : List Jvm.Cond) (zc : Int32) (x b da : Addr) (kd : ClassId) (z : Int32) (cs : List Int32) (h0 : Heap) (n0 : Nat) (O0 : Old Z n0 h0) (S_COMPACT_STRINGS : Sta Z Z.heap "java/lang/String" "COMPACT_STRINGS" "Z" (.int zc)) (hzc : ¬ zc = 0) (E_x : Exa Z h0 x "java/lang/String") (F_value_x : Fld Z h0 x "java/lang/String" "value" "[B" .null) (F_coder_x : Fld Z h0 x "java/lang/String" "coder" "B" (.int (0 : Int32))) (g_x : n0 ≤ x) (E_b : Exa Z h0 b "java/lang/StringBuilder") (F_value_b : Fld Z h0 b "java/lang/AbstractStringBuilder" "value" "[B" (.ref da)) (F_coder_b : Fld Z h0 b "java/lang/AbstractStringBuilder" "coder" "B" (.int (0 : Int32))) (F_count_b : Fld Z h0 b "java/lang/AbstractStringBuilder" "count" "I" (.int (Int32.ofNat (cs).length))) (V_da : Arv Z h0 da kd .byte z (BY cs) (.int 0)) (E_da : Exa Z h0 da "[B") (g_b : n0 ≤ b) (g_da : n0 ≤ da) (hcz : cs.length ≤ z.toNatClampNeg) (hz0 : ¬ z < 0) (hz1 : z.toNatClampNeg ≤ 100) :
    Meets l (⟨"java/lang/String", "<init>", "(Ljava/lang/StringBuilder;)V"⟩ : MethodName) jdk_42_method_53_code 2 none ws ({ frames := 4, cells := 1, slots := 100, locals := 87 } : Room) Z #[(.ref x), (.ref b)] h0 (Q_rm_t1 Z zc x b da kd z cs h0 n0) 1 100 := by
  refine enter (Ls := #[.val (.ref x), .val (.ref b)]) (plainFor_of_name pn_6) (fun m => by first | (simp [entryFrame, mkF, argsToLocals, Value.category]; done) | rfl) ?_
  intro p e s m below meth c T0 hx hby hml hown hnm hret hlk hZ X0 e0
  have N0 := Fr.nil n0
  replace hown : s.vm.findClass "java/lang/String" = some m.cls := hown
  show Run p e below _ (T0.setTop (mkF m 0 #[.val (.ref x), .val (.ref b)] []))
  have K0 := Keep.refl h0 [x]
  refine go (fun _ => XS.aloadN X0.here hx rfl (hb hby d_j42_m53_0) rfl rfl) ?_
  show Run p e below _ (T0.setTop (mkF m 1 #[.val (.ref x), .val (.ref b)] [(.ref x)]))
  refine go (fun _ => XS.aloadN X0.here hx rfl (hb hby d_j42_m53_1) rfl rfl) ?_
  show Run p e below _ (T0.setTop (mkF m 2 #[.val (.ref x), .val (.ref b)] [(.ref b), (.ref x)]))
  refine go (fun _ => XS.aconstNull X0.here hx rfl (hb hby d_j42_m53_2)) ?_
  show Run p e below _ (T0.setTop (mkF m 3 #[.val (.ref x), .val (.ref b)] [.null, (.ref b), (.ref x)]))
  refine callSp X0 hx hZ rfl hown (wd hw 156 rfl) (wd hw 157 rfl) (wd hw 158 rfl) (wd hw 37 rfl) (by decide) e0 (a := x) (argsL := [(.ref b), .null]) (rest := []) (rm_t2 l Z a0 hw [] zc x b da kd z cs h0 n0 O0 S_COMPACT_STRINGS hzc E_x F_value_x F_coder_x g_x E_b F_value_b F_coder_b F_count_b V_da E_da g_b g_da hcz hz0 hz1) (W := 0) (by decide) (by decide) (by decide) (by decide) (by rw [hml]; rfl) (lenOf pd_20 rfl) rfl (Nat.le_of_eq rfl) (hb hby d_j42_m53_3) ?_
  intro v169 T169 L169 h169 X169 e169 q169
  have ne_b_x : b ≠ x := ne_exa E_b E_x (by decide)
  have ne_da_x : da ≠ x := ne_exa E_da E_x (by decide)
  have lt170_x := E_x.lt
  have lt170_b := E_b.lt
  have lt170_da := V_da.lt
  obtain ⟨rfl, n169, K169, t169, kb169, sb169, g_t169, T_x⟩ := q169
  have szq169 := K0.1
  have ne_x_t169 : x ≠ t169 := Nat.ne_of_lt (Nat.lt_of_lt_of_le lt170_x sb169)
  have ne_b_t169 : b ≠ t169 := Nat.ne_of_lt (Nat.lt_of_lt_of_le lt170_b sb169)
  have ne_da_t169 : da ≠ t169 := Nat.ne_of_lt (Nat.lt_of_lt_of_le lt170_da sb169)
  have sz_t169 : h0.size ≤ t169 := Nat.le_trans szq169 sb169
  have O0 := O0.keep K169 (allS g_x all0)
  have E_b := E_b.keep K169
  have F_value_b := F_value_b.keep K169 (ninS ne_b_x nin0)
  have F_coder_b := F_coder_b.keep K169 (ninS ne_b_x nin0)
  have F_count_b := F_count_b.keep K169 (ninS ne_b_x nin0)
  have V_da := V_da.keep K169 (ninS ne_da_x nin0)
  have E_da := E_da.keep K169
  have K0 := K0.trans K169 (allS (Or.inl (by simp)) all0)
  have N169 := Fr.app N0 n169
  show Run p e below _ (T169.setTop (mkF m 6 #[.val (.ref x), .val (.ref b)] []))
  exact endV X169 hx hlk hret (hb hby d_j42_m53_6) (by rw [e169]; exact ⟨rfl, N169, K0, t169, _, sz_t169, g_t169, T_x⟩) (by decide) (by decide)
theorem d_j67_m42_0 : decode jdk_67_method_42_code 0 = .ok (.new 18, 3) := by decide +kernel
theorem d_j67_m42_3 : decode jdk_67_method_42_code 3 = .ok (.dup, 1) := by decide +kernel
theorem d_j67_m42_4 : decode jdk_67_method_42_code 4 = .ok (.aload_n 0, 1) := by decide +kernel
theorem d_j67_m42_5 : decode jdk_67_method_42_code 5 = .ok (.invokespecial 137, 3) := by decide +kernel
theorem pd_21 : parseMethodDescriptor "(Ljava/lang/StringBuilder;)V" = some ⟨[(.object "java/lang/StringBuilder")], none⟩ := by decide +kernel
theorem d_j67_m42_8 : decode jdk_67_method_42_code 8 = .ok (.areturn, 1) := by decide +kernel
def Q_rm_ts (Z : State) (zc : Int32) (b da : Addr) (kd : ClassId) (z : Int32) (cs : List Int32) (h0 : Heap) (n0 : Nat) (v : Option Value) (h : Heap) (L : List Loc) : Prop := ∃ (x t : Addr) (kb : ClassId), v = some (.ref x) ∧ Fr n0 L ∧ Keep h0 h [] ∧ h0.size ≤ x ∧ n0 ≤ x ∧ h0.size ≤ t ∧ n0 ≤ t ∧ Str Z h x t kb cs
set_option maxRecDepth 65536 in
set_option maxHeartbeats 40000000 in
theorem rm_ts (l : Launch) (Z : State) (a0 : Array Value) (hw : ∀ d ∈ tables_1, d.before a0 Z = true) (ws : List Jvm.Cond) (zc : Int32) (b da : Addr) (kd : ClassId) (z : Int32) (cs : List Int32) (h0 : Heap) (n0 : Nat) (O0 : Old Z n0 h0) (S_COMPACT_STRINGS : Sta Z Z.heap "java/lang/String" "COMPACT_STRINGS" "Z" (.int zc)) (hzc : ¬ zc = 0) (E_b : Exa Z h0 b "java/lang/StringBuilder") (F_value_b : Fld Z h0 b "java/lang/AbstractStringBuilder" "value" "[B" (.ref da)) (F_coder_b : Fld Z h0 b "java/lang/AbstractStringBuilder" "coder" "B" (.int (0 : Int32))) (F_count_b : Fld Z h0 b "java/lang/AbstractStringBuilder" "count" "I" (.int (Int32.ofNat (cs).length))) (V_da : Arv Z h0 da kd .byte z (BY cs) (.int 0)) (E_da : Exa Z h0 da "[B") (g_b : n0 ≤ b) (g_da : n0 ≤ da) (hcz : cs.length ≤ z.toNatClampNeg) (hz0 : ¬ z < 0) (hz1 : z.toNatClampNeg ≤ 100) :
    Meets l (⟨"java/lang/StringBuilder", "toString", "()Ljava/lang/String;"⟩ : MethodName) jdk_67_method_42_code 1 (some (.object "java/lang/String")) ws ({ frames := 5, cells := 2, slots := 104, locals := 101 } : Room) Z #[(.ref b)] h0 (Q_rm_ts Z zc b da kd z cs h0 n0) 2 104 := by
  refine enter (Ls := #[.val (.ref b)]) (plainFor_of_name pn_3) (fun m => by first | (simp [entryFrame, mkF, argsToLocals, Value.category]; done) | rfl) ?_
  intro p e s m below meth c T0 hx hby hml hown hnm hret hlk hZ X0 e0
  have N0 := Fr.nil n0
  replace hown : s.vm.findClass "java/lang/StringBuilder" = some m.cls := hown
  show Run p e below _ (T0.setTop (mkF m 0 #[.val (.ref b)] []))
  have K0 := Keep.refl h0 []
  obtain ⟨T171, h171, X171, e171, E171, A171, D171, -, st171⟩ := newO X0 hx hZ hown (wd hw 151 rfl) (wd hw 44 rfl) (wd hw 37 rfl) e0 (g := (mkF m 0 #[.val (.ref b)] [])) rfl (hb hby d_j67_m42_0) (by decide) (by decide)
  obtain ⟨b171, y171⟩ : ∃ z, z = h0.size := ⟨_, rfl⟩
  rw [← y171] at A171 D171 st171
  have g_b171 : n0 ≤ b171 := y171.symm ▸ old_sz O0
  have sz_b171 : h0.size ≤ b171 := y171.symm ▸ K0.1
  have ne_b_b171 : b ≠ b171 := Nat.ne_of_lt (y171.symm ▸ E_b.lt)
  have ne_da_b171 : da ≠ b171 := Nat.ne_of_lt (y171.symm ▸ V_da.lt)
  have O0 := O0.ext E171
  have E_b := E_b.ext E171
  have F_value_b := F_value_b.ext E171
  have F_coder_b := F_coder_b.ext E171
  have F_count_b := F_count_b.ext E171
  have V_da := V_da.ext E171
  have E_da := E_da.ext E171
  have K0 := K0.ext E171
  have E_b171 := A171
  have F_value_b171 : Fld Z h171 b171 "java/lang/String" "value" "[B" .null := D171 (Or.inr (wd hw 45 rfl)) (ty := (.array .byte)) (by decide)
  have F_coder_b171 : Fld Z h171 b171 "java/lang/String" "coder" "B" (.int (0 : Int32)) := D171 (Or.inr (wd hw 46 rfl)) (ty := .byte) (by decide)
  refine go st171 ?_
  show Run p e below _ (T171.setTop (mkF m 3 #[.val (.ref b)] [(.ref b171)]))
  refine go (fun _ => XS.dup X171.here hx rfl (hb hby d_j67_m42_3) rfl rfl) ?_
  show Run p e below _ (T171.setTop (mkF m 4 #[.val (.ref b)] [(.ref b171), (.ref b171)]))
  refine go (fun _ => XS.aloadN X171.here hx rfl (hb hby d_j67_m42_4) rfl rfl) ?_
  show Run p e below _ (T171.setTop (mkF m 5 #[.val (.ref b)] [(.ref b), (.ref b171), (.ref b171)]))
  refine callSp X171 hx hZ rfl hown (wd hw 152 rfl) (wd hw 153 rfl) (wd hw 155 rfl) (wd hw 37 rfl) (by decide) e171 (a := b171) (argsL := [(.ref b)]) (rest := [(.ref b171)]) (rm_t1 l Z a0 hw [] zc b171 b da kd z cs h171 n0 O0 S_COMPACT_STRINGS hzc E_b171 F_value_b171 F_coder_b171 g_b171 E_b F_value_b F_coder_b F_count_b V_da E_da g_b g_da hcz hz0 hz1) (W := 1) (by decide) (by decide) (by decide) (by decide) (by rw [hml]; rfl) (lenOf pd_21 rfl) rfl (Nat.le_of_eq rfl) (hb hby d_j67_m42_5) ?_
  intro v172 T172 L172 h172 X172 e172 q172
  have lt173_b := E_b.lt
  have lt173_da := V_da.lt
  have lt173_b171 := E_b171.lt
  obtain ⟨rfl, n172, K172, t172, kb172, sb172, g_t172, T_b171⟩ := q172
  have szq172 := K0.1
  have ne_b_t172 : b ≠ t172 := Nat.ne_of_lt (Nat.lt_of_lt_of_le lt173_b sb172)
  have ne_da_t172 : da ≠ t172 := Nat.ne_of_lt (Nat.lt_of_lt_of_le lt173_da sb172)
  have ne_b171_t172 : b171 ≠ t172 := Nat.ne_of_lt (Nat.lt_of_lt_of_le lt173_b171 sb172)
  have sz_t172 : h0.size ≤ t172 := Nat.le_trans szq172 sb172
  have O0 := O0.keep K172 (allS g_b171 all0)
  have E_b := E_b.keep K172
  have F_value_b := F_value_b.keep K172 (ninS ne_b_b171 nin0)
  have F_coder_b := F_coder_b.keep K172 (ninS ne_b_b171 nin0)
  have F_count_b := F_count_b.keep K172 (ninS ne_b_b171 nin0)
  have V_da := V_da.keep K172 (ninS ne_da_b171 nin0)
  have E_da := E_da.keep K172
  have K0 := K0.trans K172 (allS (Or.inr sz_b171) all0)
  have N172 := Fr.app N0 n172
  show Run p e below _ (T172.setTop (mkF m 8 #[.val (.ref b)] [(.ref b171)]))
  exact endA X172 hx hlk (w := (.ref b171)) hret rfl rfl (hb hby d_j67_m42_8) (by rw [e172]; exact ⟨b171, t172, _, rfl, N172, K0, sz_b171, g_b171, sz_t172, g_t172, T_b171⟩) (by decide) (by decide)
theorem d_p7_m4_0 : decode prog_7_method_4_code 0 = .ok (.new 39, 3) := by decide +kernel
theorem d_p7_m4_3 : decode prog_7_method_4_code 3 = .ok (.dup, 1) := by decide +kernel
theorem d_p7_m4_4 : decode prog_7_method_4_code 4 = .ok (.invokespecial 41, 3) := by decide +kernel
theorem d_p7_m4_7 : decode prog_7_method_4_code 7 = .ok (.ldc 60, 2) := by decide +kernel
theorem d_p7_m4_9 : decode prog_7_method_4_code 9 = .ok (.invokevirtual 42, 3) := by decide +kernel
theorem pd_22 : parseMethodDescriptor "(Ljava/lang/String;)Ljava/lang/StringBuilder;" = some ⟨[(.object "java/lang/String")], some (.object "java/lang/StringBuilder")⟩ := by decide +kernel
theorem d_p7_m4_12 : decode prog_7_method_4_code 12 = .ok (.aload_n 0, 1) := by decide +kernel
theorem d_p7_m4_13 : decode prog_7_method_4_code 13 = .ok (.getfield 9, 3) := by decide +kernel
theorem d_p7_m4_16 : decode prog_7_method_4_code 16 = .ok (.invokevirtual 62, 3) := by decide +kernel
theorem pd_23 : parseMethodDescriptor "(I)Ljava/lang/StringBuilder;" = some ⟨[.int], some (.object "java/lang/StringBuilder")⟩ := by decide +kernel
theorem d_p7_m4_19 : decode prog_7_method_4_code 19 = .ok (.aload_n 0, 1) := by decide +kernel
theorem d_p7_m4_20 : decode prog_7_method_4_code 20 = .ok (.getfield 15, 3) := by decide +kernel
theorem d_p7_m4_23 : decode prog_7_method_4_code 23 = .ok (.ldc 18, 2) := by decide +kernel
theorem d_p7_m4_25 : decode prog_7_method_4_code 25 = .ok (.if_icmp .ne 8, 3) := by decide +kernel
theorem d_p7_m4_28 : decode prog_7_method_4_code 28 = .ok (.ldc 65, 2) := by decide +kernel
theorem d_p7_m4_30 : decode prog_7_method_4_code 30 = .ok (.goto 25, 3) := by decide +kernel
theorem d_p7_m4_55 : decode prog_7_method_4_code 55 = .ok (.invokevirtual 42, 3) := by decide +kernel
theorem d_p7_m4_58 : decode prog_7_method_4_code 58 = .ok (.invokevirtual 54, 3) := by decide +kernel
theorem pd_24 : parseMethodDescriptor "()Ljava/lang/String;" = some ⟨[], some (.object "java/lang/String")⟩ := by decide +kernel
theorem d_p7_m4_61 : decode prog_7_method_4_code 61 = .ok (.areturn, 1) := by decide +kernel
theorem d_p7_m4_33 : decode prog_7_method_4_code 33 = .ok (.new 39, 3) := by decide +kernel
theorem d_p7_m4_36 : decode prog_7_method_4_code 36 = .ok (.dup, 1) := by decide +kernel
theorem d_p7_m4_37 : decode prog_7_method_4_code 37 = .ok (.invokespecial 41, 3) := by decide +kernel
theorem d_p7_m4_40 : decode prog_7_method_4_code 40 = .ok (.ldc 67, 2) := by decide +kernel
theorem d_p7_m4_42 : decode prog_7_method_4_code 42 = .ok (.invokevirtual 42, 3) := by decide +kernel
theorem d_p7_m4_45 : decode prog_7_method_4_code 45 = .ok (.aload_n 0, 1) := by decide +kernel
theorem d_p7_m4_46 : decode prog_7_method_4_code 46 = .ok (.getfield 15, 3) := by decide +kernel
theorem d_p7_m4_49 : decode prog_7_method_4_code 49 = .ok (.invokevirtual 62, 3) := by decide +kernel
theorem d_p7_m4_52 : decode prog_7_method_4_code 52 = .ok (.invokevirtual 54, 3) := by decide +kernel
def Q_rm_rg (Z : State) (zc : Int32) (a : Addr) (lo hi : Int32) (nl nh : Nat) (st d1 : Addr) (D1 : Cell) (d2 : Addr) (D2 : Cell) (h0 : Heap) (n0 : Nat) (v : Option Value) (h : Heap) (L : List Loc) : Prop := ∃ (x t : Addr) (kb : ClassId), v = some (.ref x) ∧ Fr n0 L ∧ Keep h0 h [] ∧ Str Z h x t kb (rcs lo hi nl nh)
set_option maxRecDepth 65536 in
set_option maxHeartbeats 40000000 in
theorem rm_rg (l : Launch) (Z : State) (a0 : Array Value) (hw : ∀ d ∈ tables_1, d.before a0 Z = true) (ws : List Jvm.Cond) (zc : Int32) (a : Addr) (lo hi : Int32) (nl nh : Nat) (st d1 : Addr) (D1 : Cell) (d2 : Addr) (D2 : Cell) (h0 : Heap) (n0 : Nat) (O0 : Old Z n0 h0) (hEL : EW Z a0 consts_1) (S_COMPACT_STRINGS : Sta Z Z.heap "java/lang/String" "COMPACT_STRINGS" "Z" (.int zc)) (hzc : ¬ zc = 0) (E_a : Exa Z h0 a "com/example/visit_by_value/visitbyvalue/cli/OptionValue$WholeNumber") (F_low_a : Fld Z h0 a "com/example/visit_by_value/visitbyvalue/cli/OptionValue$WholeNumber" "low" "I" (.int lo)) (F_high_a : Fld Z h0 a "com/example/visit_by_value/visitbyvalue/cli/OptionValue$WholeNumber" "high" "I" (.int hi)) (hn1 : nl ≤ 2 ^ 31) (hx1 : (if lo < 0 then lo else -lo) = SBG.negI nl) (hn2 : nh ≤ 2 ^ 31) (hx2 : (if hi < 0 then hi else -hi) = SBG.negI nh) (D : Dg Z st d1 D1 d2 D2) :
    MeetsS l (⟨"com/example/visit_by_value/visitbyvalue/cli/OptionValue$WholeNumber", "range", "()Ljava/lang/String;"⟩ : MethodName) prog_7_method_4_code 1 (some (.object "java/lang/String")) ws ({ frames := 6, cells := 14, slots := 456, locals := 114 } : Room) Z consts_1 [] #[(.ref a)] h0 (Q_rm_rg Z zc a lo hi nl nh st d1 D1 d2 D2 h0 n0) 14 456 := by
  refine enterS (Ls := #[.val (.ref a)]) (plainFor_of_name pn_1) (fun m => by first | (simp [entryFrame, mkF, argsToLocals, Value.category]; done) | rfl) ?_
  intro p e s m below meth c T0 hx hby hml hown hnm hret hlk hZ X0 e0 eS CH hS HS
  have N0 := Fr.nil n0
  replace hown : s.vm.findClass "com/example/visit_by_value/visitbyvalue/cli/OptionValue$WholeNumber" = some m.cls := hown
  show Run p e below _ (T0.setTop (mkF m 0 #[.val (.ref a)] []))
  have hk : h0.size ≤ h0.size := Nat.le_refl _
  have K0 := Keep.refl h0 []
  obtain ⟨T174, h174, X174, e174, E174, A174, D174, -, st174⟩ := newO X0 hx hZ hown (wd hw 23 rfl) (wd hw 24 rfl) (wd hw 25 rfl) e0 (g := (mkF m 0 #[.val (.ref a)] [])) rfl (hb hby d_p7_m4_0) (by decide) (by decide)
  obtain ⟨b174, y174⟩ : ∃ z, z = h0.size := ⟨_, rfl⟩
  rw [← y174] at A174 D174 st174
  have g_b174 : n0 ≤ b174 := y174.symm ▸ old_sz O0
  have SF_b174 : Safe Z consts_1 s.vm h0 b174 := Safe.new (Nat.le_of_eq y174.symm)
  have sz_b174 : h0.size ≤ b174 := y174.symm ▸ K0.1
  have ne_a_b174 : a ≠ b174 := Nat.ne_of_lt (y174.symm ▸ E_a.lt)
  have CHo := CH
  have SF_b174o := SF_b174
  have hk := Nat.le_trans hk E174.1
  have O0 := O0.ext E174
  have E_a := E_a.ext E174
  have F_low_a := F_low_a.ext E174
  have F_high_a := F_high_a.ext E174
  have K0 := K0.ext E174
  have SF_b174 := Safe.ext E174 CHo.1 SF_b174o
  have CH := CHo.trans (CHr.ext E174 CHo.1)
  have E_b174 := A174
  have F_value_b174 : Fld Z h174 b174 "java/lang/AbstractStringBuilder" "value" "[B" .null := D174 (Or.inl (wd hw 40 rfl)) (ty := (.array .byte)) (by decide)
  have F_coder_b174 : Fld Z h174 b174 "java/lang/AbstractStringBuilder" "coder" "B" (.int (0 : Int32)) := D174 (Or.inl (wd hw 42 rfl)) (ty := .byte) (by decide)
  have F_count_b174 : Fld Z h174 b174 "java/lang/AbstractStringBuilder" "count" "I" (.int (0 : Int32)) := D174 (Or.inl (wd hw 73 rfl)) (ty := .int) (by decide)
  refine go st174 ?_
  show Run p e below _ (T174.setTop (mkF m 3 #[.val (.ref a)] [(.ref b174)]))
  refine go (fun _ => XS.dup X174.here hx rfl (hb hby d_p7_m4_3) rfl rfl) ?_
  show Run p e below _ (T174.setTop (mkF m 4 #[.val (.ref a)] [(.ref b174), (.ref b174)]))
  refine callSp X174 hx hZ rfl hown (wd hw 26 rfl) (wd hw 27 rfl) (wd hw 28 rfl) (wd hw 25 rfl) (by decide) e174 (a := b174) (argsL := []) (rest := [(.ref b174)]) (rm_sbi l Z a0 hw [] b174 zc h174 n0 O0 S_COMPACT_STRINGS hzc E_b174 F_value_b174 F_coder_b174 F_count_b174 g_b174) (W := 1) (by decide) (by decide) (by decide) (by decide) (by rw [hml]; rfl) (lenOf pd_0 rfl) rfl (Nat.le_of_eq rfl) (hb hby d_p7_m4_4) ?_
  intro v175 T175 L175 h175 X175 e175 q175
  have lt176_a := E_a.lt
  have lt176_b174 := E_b174.lt
  obtain ⟨d175, kd175, rfl, n175, K175, sb175, g_d175, E_d175, F_value_b174, F_coder_b174, F_count_b174, V_d175⟩ := q175
  have szq175 := K0.1
  have ne_a_d175 : a ≠ d175 := Nat.ne_of_lt (Nat.lt_of_lt_of_le lt176_a sb175)
  have ne_b174_d175 : b174 ≠ d175 := Nat.ne_of_lt (Nat.lt_of_lt_of_le lt176_b174 sb175)
  have sz_d175 : h0.size ≤ d175 := Nat.le_trans szq175 sb175
  have SF_d175 : Safe Z consts_1 s.vm h174 d175 := Safe.new sb175
  have CHo := CH
  have SF_b174o := SF_b174
  have SF_d175o := SF_d175
  have hk := Nat.le_trans hk K175.1
  have O0 := O0.keep K175 (allS g_b174 all0)
  have E_a := E_a.keep K175
  have F_low_a := F_low_a.keep K175 (ninS ne_a_b174 nin0)
  have F_high_a := F_high_a.keep K175 (ninS ne_a_b174 nin0)
  have K0 := K0.trans K175 (allS (Or.inr sz_b174) all0)
  have SF_b174 := Safe.keep K175 (allS SF_b174o all0) CHo.1 SF_b174o
  have E_b174 := E_b174.keep K175
  have SF_d175 := Safe.keep K175 (allS SF_b174o all0) CHo.1 SF_d175o
  have CH := CHo.trans (CHr.keep K175 (allS SF_b174o all0) CHo.1)
  have N175 := Fr.app N0 n175
  show Run p e below _ (T175.setTop (mkF m 7 #[.val (.ref a)] [(.ref b174)]))
  have lt178_a := E_a.lt
  have lt178_b174 := E_b174.lt
  have lt178_d175 := E_d175.lt
  refine goLdc (text := "a whole number from ") (ds := ([97, 32, 119, 104, 111, 108, 101, 32, 110, 117, 109, 98, 101, 114, 32, 102, 114, 111, 109, 32] : List Int32)) X175 hx hZ hown (wd hw 43 rfl) (fun d hd => hw d (subStr d hd)) e175 hS hk hEL (by decide) CH ⟨by decide, by decide⟩ (by decide) (by decide) (n := 80) (hb hby d_p7_m4_7) (by decide) (by decide) (by decide) (by decide) ?_
  intro b177 t177 kb177 T177 h177 k177 X177 e177 E177 hS hk hZ hown Ea177 Fc177 Fv177 Va177 CH' D177 sf177
  have SF_b174 := CHr.safe D177 lt178_b174 SF_b174
  have SF_d175 := CHr.safe D177 lt178_d175 SF_d175
  have O0 := O0.ext E177
  have E_a := E_a.ext E177
  have F_low_a := F_low_a.ext E177
  have F_high_a := F_high_a.ext E177
  have K0 := K0.ext E177
  have E_b174 := E_b174.ext E177
  have E_d175 := E_d175.ext E177
  have F_value_b174 := F_value_b174.ext E177
  have F_coder_b174 := F_coder_b174.ext E177
  have F_count_b174 := F_count_b174.ext E177
  have V_d175 := V_d175.ext E177
  have CH := CH'
  have T_b177 : Str Z h177 b177 t177 kb177 ([97, 32, 119, 104, 111, 108, 101, 32, 110, 117, 109, 98, 101, 114, 32, 102, 114, 111, 109, 32] : List Int32) := ⟨Ea177, Fv177, Fc177, Va177⟩
  have ne_b174_b177 := (sf177 _ SF_b174).1
  have ne_b174_t177 := (sf177 _ SF_b174).2
  have ne_d175_b177 := (sf177 _ SF_d175).1
  have ne_d175_t177 := (sf177 _ SF_d175).2
  show Run p e below _ (T177.setTop (mkF m 9 #[.val (.ref a)] [(.ref b177), (.ref b174)]))
  refine callVi X177 hx hZ hown (wd hw 49 rfl) (wd hw 50 rfl) (notFace_of_selects (args := #[]) (mvT hZ (wd hw 52 rfl))) (wd hw 52 rfl) (wd hw 51 rfl) (wd hw 53 rfl) (wd hw 25 rfl) (by decide) e177 E_b174 (argsL := [(.ref b177)]) (rest := []) (rm_sa1_16 l Z a0 hw [] zc b174 d175 kd175 ([] : List Int32) b177 t177 kb177 ([97, 32, 119, 104, 111, 108, 101, 32, 110, 117, 109, 98, 101, 114, 32, 102, 114, 111, 109, 32] : List Int32) h177 n0 O0 S_COMPACT_STRINGS hzc E_b174 F_value_b174 F_coder_b174 F_count_b174 V_d175 E_d175 g_b174 g_d175 T_b177 ne_d175_t177 (show In8 ([97, 32, 119, 104, 111, 108, 101, 32, 110, 117, 109, 98, 101, 114, 32, 102, 114, 111, 109, 32] : List Int32) by unfold In8; decide) (by decide) (by decide) (by decide)) (W := 0) (by decide) (by decide) (by decide) (by decide) (by rw [hml]; rfl) (lenOf pd_22 rfl) rfl (Nat.le_of_eq rfl) (hb hby d_p7_m4_9) ?_
  intro v179 T179 L179 h179 X179 e179 q179
  have lt180_a := E_a.lt
  have lt180_b174 := E_b174.lt
  have lt180_d175 := E_d175.lt
  have lt180_b177 := T_b177.1.lt
  have lt180_t177 := T_b177.2.2.2.lt
  obtain ⟨d179, kd179, rfl, n179, K179, sb179, g_d179, E_d179, F_value_b174, F_coder_b174, F_count_b174, V_d179⟩ := q179
  have szq179 := K0.1
  have ne_a_d179 : a ≠ d179 := Nat.ne_of_lt (Nat.lt_of_lt_of_le lt180_a sb179)
  have ne_b174_d179 : b174 ≠ d179 := Nat.ne_of_lt (Nat.lt_of_lt_of_le lt180_b174 sb179)
  have ne_d175_d179 : d175 ≠ d179 := Nat.ne_of_lt (Nat.lt_of_lt_of_le lt180_d175 sb179)
  have ne_b177_d179 : b177 ≠ d179 := Nat.ne_of_lt (Nat.lt_of_lt_of_le lt180_b177 sb179)
  have ne_t177_d179 : t177 ≠ d179 := Nat.ne_of_lt (Nat.lt_of_lt_of_le lt180_t177 sb179)
  have sz_d179 : h0.size ≤ d179 := Nat.le_trans szq179 sb179
  have SF_d179 : Safe Z consts_1 T177.vm h177 d179 := Safe.new sb179
  have CHo := CH
  have SF_b174o := SF_b174
  have SF_d175o := SF_d175
  have SF_d179o := SF_d179
  have hk := Nat.le_trans hk K179.1
  have O0 := O0.keep K179 (allS g_b174 all0)
  have E_a := E_a.keep K179
  have F_low_a := F_low_a.keep K179 (ninS ne_a_b174 nin0)
  have F_high_a := F_high_a.keep K179 (ninS ne_a_b174 nin0)
  have K0 := K0.trans K179 (allS (Or.inr sz_b174) all0)
  have SF_b174 := Safe.keep K179 (allS SF_b174o all0) CHo.1 SF_b174o
  have E_b174 := E_b174.keep K179
  have SF_d175 := Safe.keep K179 (allS SF_b174o all0) CHo.1 SF_d175o
  have E_d175 := E_d175.keep K179
  have T_b177 := T_b177.keep K179 (ninS (Ne.symm ne_b174_b177) nin0) (ninS (Ne.symm ne_b174_t177) nin0)
  have SF_d179 := Safe.keep K179 (allS SF_b174o all0) CHo.1 SF_d179o
  have CH := CHo.trans (CHr.keep K179 (allS SF_b174o all0) CHo.1)
  have N179 := Fr.app N175 n179
  show Run p e below _ (T179.setTop (mkF m 12 #[.val (.ref a)] [(.ref b174)]))
  refine go (fun _ => XS.aloadN X179.here hx rfl (hb hby d_p7_m4_12) rfl rfl) ?_
  show Run p e below _ (T179.setTop (mkF m 13 #[.val (.ref a)] [(.ref a), (.ref b174)]))
  obtain ⟨T181, X181, e181, st181⟩ := getF X179 hx hZ hown (host := "") (Or.inl (wd hw 14 rfl)) Via.refl e179 F_low_a (g := (mkF m 13 #[.val (.ref a)] [(.ref a), (.ref b174)])) rfl rfl (hb hby d_p7_m4_13)
  refine go st181 ?_
  show Run p e below _ (T181.setTop (mkF m 16 #[.val (.ref a)] [(.int lo), (.ref b174)]))
  refine callVi X181 hx hZ hown (wd hw 122 rfl) (wd hw 123 rfl) (notFace_of_selects (args := #[]) (mvT hZ (wd hw 125 rfl))) (wd hw 125 rfl) (wd hw 124 rfl) (wd hw 126 rfl) (wd hw 25 rfl) (by decide) e181 E_b174 (argsL := [(.int lo)]) (rest := []) (rm_sI_34 l Z a0 hw [] zc b174 d179 kd179 (([] : List Int32) ++ ([97, 32, 119, 104, 111, 108, 101, 32, 110, 117, 109, 98, 101, 114, 32, 102, 114, 111, 109, 32] : List Int32)) lo nl st d1 D1 d2 D2 h179 n0 O0 S_COMPACT_STRINGS hzc E_b174 F_value_b174 F_coder_b174 F_count_b174 V_d179 E_d179 g_b174 g_d179 hn1 hx1 D (own_dg _ _ (by decide))) (W := 0) (by decide) (by decide) (by decide) (by decide) (by rw [hml]; rfl) (lenOf pd_23 rfl) rfl (Nat.le_of_eq rfl) (hb hby d_p7_m4_16) ?_
  intro v182 T182 L182 h182 X182 e182 q182
  obtain ⟨rfl, n182, K182, F_value_b174, F_coder_b174, F_count_b174, V_d179⟩ := q182
  have CHo := CH
  have SF_b174o := SF_b174
  have SF_d175o := SF_d175
  have SF_d179o := SF_d179
  have hk := Nat.le_trans hk K182.1
  have O0 := O0.keep K182 (allS g_b174 (allS g_d179 all0))
  have E_a := E_a.keep K182
  have F_low_a := F_low_a.keep K182 (ninS ne_a_b174 (ninS ne_a_d179 nin0))
  have F_high_a := F_high_a.keep K182 (ninS ne_a_b174 (ninS ne_a_d179 nin0))
  have K0 := K0.trans K182 (allS (Or.inr sz_b174) (allS (Or.inr sz_d179) all0))
  have SF_b174 := Safe.keep K182 (allS SF_b174o (allS SF_d179o all0)) CHo.1 SF_b174o
  have E_b174 := E_b174.keep K182
  have SF_d175 := Safe.keep K182 (allS SF_b174o (allS SF_d179o all0)) CHo.1 SF_d175o
  have E_d175 := E_d175.keep K182
  have T_b177 := T_b177.keep K182 (ninS (Ne.symm ne_b174_b177) (ninS ne_b177_d179 nin0)) (ninS (Ne.symm ne_b174_t177) (ninS ne_t177_d179 nin0))
  have SF_d179 := Safe.keep K182 (allS SF_b174o (allS SF_d179o all0)) CHo.1 SF_d179o
  have CH := CHo.trans (CHr.keep K182 (allS SF_b174o (allS SF_d179o all0)) CHo.1)
  have E_d179 := E_d179.keep K182
  have N182 := Fr.app N179 n182
  show Run p e below _ (T182.setTop (mkF m 19 #[.val (.ref a)] [(.ref b174)]))
  refine go (fun _ => XS.aloadN X182.here hx rfl (hb hby d_p7_m4_19) rfl rfl) ?_
  show Run p e below _ (T182.setTop (mkF m 20 #[.val (.ref a)] [(.ref a), (.ref b174)]))
  obtain ⟨T183, X183, e183, st183⟩ := getF X182 hx hZ hown (host := "") (Or.inl (wd hw 16 rfl)) Via.refl e182 F_high_a (g := (mkF m 20 #[.val (.ref a)] [(.ref a), (.ref b174)])) rfl rfl (hb hby d_p7_m4_20)
  refine go st183 ?_
  show Run p e below _ (T183.setTop (mkF m 23 #[.val (.ref a)] [(.int hi), (.ref b174)]))
  refine go (fun _ => X183.ldcI hx hown (mvT hZ (wd hw 144 rfl)) rfl (hb hby d_p7_m4_23)) ?_
  show Run p e below _ (T183.setTop (mkF m 25 #[.val (.ref a)] [(.int (2147483647 : Int32)), (.int hi), (.ref b174)]))
  by_cases c184 : hi = (2147483647 : Int32)
  · skip
    refine go (fun _ => XS.icmpNo X183.here hx rfl (hb hby d_p7_m4_25) rfl (teq c184).2) ?_
    show Run p e below _ (T183.setTop (mkF m 28 #[.val (.ref a)] [(.ref b174)]))
    have lt186_a := E_a.lt
    have lt186_b174 := E_b174.lt
    have lt186_d175 := E_d175.lt
    have lt186_b177 := T_b177.1.lt
    have lt186_t177 := T_b177.2.2.2.lt
    have lt186_d179 := E_d179.lt
    refine goLdc (text := " up") (ds := ([32, 117, 112] : List Int32)) X183 hx hZ hown (wd hw 245 rfl) (fun d hd => hw d (subStr d hd)) e183 hS hk hEL (by decide) CH ⟨by decide, by decide⟩ (by decide) (by decide) (n := 12) (hb hby d_p7_m4_28) (by decide) (by decide) (by decide) (by decide) ?_
    intro b185 t185 kb185 T185 h185 k185 X185 e185 E185 hS hk hZ hown Ea185 Fc185 Fv185 Va185 CH' D185 sf185
    have SF_b174 := CHr.safe D185 lt186_b174 SF_b174
    have SF_d175 := CHr.safe D185 lt186_d175 SF_d175
    have SF_d179 := CHr.safe D185 lt186_d179 SF_d179
    have O0 := O0.ext E185
    have E_a := E_a.ext E185
    have F_low_a := F_low_a.ext E185
    have F_high_a := F_high_a.ext E185
    have K0 := K0.ext E185
    have E_b174 := E_b174.ext E185
    have E_d175 := E_d175.ext E185
    have T_b177 := T_b177.ext E185
    have E_d179 := E_d179.ext E185
    have F_value_b174 := F_value_b174.ext E185
    have F_coder_b174 := F_coder_b174.ext E185
    have F_count_b174 := F_count_b174.ext E185
    have V_d179 := V_d179.ext E185
    have CH := CH'
    have T_b185 : Str Z h185 b185 t185 kb185 ([32, 117, 112] : List Int32) := ⟨Ea185, Fv185, Fc185, Va185⟩
    have ne_b174_b185 := (sf185 _ SF_b174).1
    have ne_b174_t185 := (sf185 _ SF_b174).2
    have ne_d175_b185 := (sf185 _ SF_d175).1
    have ne_d175_t185 := (sf185 _ SF_d175).2
    have ne_d179_b185 := (sf185 _ SF_d179).1
    have ne_d179_t185 := (sf185 _ SF_d179).2
    show Run p e below _ (T185.setTop (mkF m 30 #[.val (.ref a)] [(.ref b185), (.ref b174)]))
    refine go (fun _ => XS.goto X185.here hx rfl (pc0 := 30) (pc' := 55) rfl (hb hby d_p7_m4_30) (by decide) (by decide)) ?_
    show Run p e below _ (T185.setTop (mkF m 55 #[.val (.ref a)] [(.ref b185), (.ref b174)]))
    have lq1 : ((([] : List Int32) ++ ([97, 32, 119, 104, 111, 108, 101, 32, 110, 117, 109, 98, 101, 114, 32, 102, 114, 111, 109, 32] : List Int32)) ++ decI lo nl).length ≤ 31 := by simp only [List.length_append, decI_len, List.length_cons, List.length_nil]; have := (SBG.digits_pos nl).2; have := sgn_le lo; omega
    have lq2 : ([32, 117, 112] : List Int32).length ≤ 15 := by simp only [List.length_append, decI_len, List.length_cons, List.length_nil]; have := (SBG.digits_pos nh).2; have := sgn_le hi; omega
    by_cases hg : ((([] : List Int32) ++ ([97, 32, 119, 104, 111, 108, 101, 32, 110, 117, 109, 98, 101, 114, 32, 102, 114, 111, 109, 32] : List Int32)) ++ decI lo nl).length + ([32, 117, 112] : List Int32).length ≤ 34
    · skip
      refine callVi X185 hx hZ hown (wd hw 49 rfl) (wd hw 50 rfl) (notFace_of_selects (args := #[]) (mvT hZ (wd hw 52 rfl))) (wd hw 52 rfl) (wd hw 51 rfl) (wd hw 53 rfl) (wd hw 25 rfl) (by decide) e185 E_b174 (argsL := [(.ref b185)]) (rest := []) (rm_sa0_34 l Z a0 hw [] zc b174 d179 kd179 ((([] : List Int32) ++ ([97, 32, 119, 104, 111, 108, 101, 32, 110, 117, 109, 98, 101, 114, 32, 102, 114, 111, 109, 32] : List Int32)) ++ decI lo nl) b185 t185 kb185 ([32, 117, 112] : List Int32) h185 n0 O0 S_COMPACT_STRINGS hzc E_b174 F_value_b174 F_coder_b174 F_count_b174 V_d179 E_d179 g_b174 g_d179 T_b185 ne_d179_t185 (show In8 ([32, 117, 112] : List Int32) by unfold In8; decide) (by omega) hg) (W := 0) (by decide) (by decide) (by decide) (by decide) (by rw [hml]; rfl) (lenOf pd_22 rfl) rfl (Nat.le_of_eq rfl) (hb hby d_p7_m4_55) ?_
      intro v187 T187 L187 h187 X187 e187 q187
      obtain ⟨rfl, n187, K187, F_value_b174, F_coder_b174, F_count_b174, V_d179⟩ := q187
      have CHo := CH
      have SF_b174o := SF_b174
      have SF_d175o := SF_d175
      have SF_d179o := SF_d179
      have hk := Nat.le_trans hk K187.1
      have O0 := O0.keep K187 (allS g_b174 (allS g_d179 all0))
      have E_a := E_a.keep K187
      have F_low_a := F_low_a.keep K187 (ninS ne_a_b174 (ninS ne_a_d179 nin0))
      have F_high_a := F_high_a.keep K187 (ninS ne_a_b174 (ninS ne_a_d179 nin0))
      have K0 := K0.trans K187 (allS (Or.inr sz_b174) (allS (Or.inr sz_d179) all0))
      have SF_b174 := Safe.keep K187 (allS SF_b174o (allS SF_d179o all0)) CHo.1 SF_b174o
      have E_b174 := E_b174.keep K187
      have SF_d175 := Safe.keep K187 (allS SF_b174o (allS SF_d179o all0)) CHo.1 SF_d175o
      have E_d175 := E_d175.keep K187
      have T_b177 := T_b177.keep K187 (ninS (Ne.symm ne_b174_b177) (ninS ne_b177_d179 nin0)) (ninS (Ne.symm ne_b174_t177) (ninS ne_t177_d179 nin0))
      have SF_d179 := Safe.keep K187 (allS SF_b174o (allS SF_d179o all0)) CHo.1 SF_d179o
      have CH := CHo.trans (CHr.keep K187 (allS SF_b174o (allS SF_d179o all0)) CHo.1)
      have E_d179 := E_d179.keep K187
      have T_b185 := T_b185.keep K187 (ninS (Ne.symm ne_b174_b185) (ninS (Ne.symm ne_d179_b185) nin0)) (ninS (Ne.symm ne_b174_t185) (ninS (Ne.symm ne_d179_t185) nin0))
      have N187 := Fr.app N182 n187
      show Run p e below _ (T187.setTop (mkF m 58 #[.val (.ref a)] [(.ref b174)]))
      have lq3 : (((([] : List Int32) ++ ([97, 32, 119, 104, 111, 108, 101, 32, 110, 117, 109, 98, 101, 114, 32, 102, 114, 111, 109, 32] : List Int32)) ++ decI lo nl) ++ ([32, 117, 112] : List Int32)).length ≤ 34 := by rw [List.length_append]; omega
      refine callVi X187 hx hZ hown (wd hw 146 rfl) (wd hw 147 rfl) (notFace_of_selects (args := #[]) (mvT hZ (wd hw 149 rfl))) (wd hw 149 rfl) (wd hw 148 rfl) (wd hw 150 rfl) (wd hw 25 rfl) (by decide) e187 E_b174 (argsL := []) (rest := []) (rm_ts l Z a0 hw [] zc b174 d179 kd179 (34 : Int32) (((([] : List Int32) ++ ([97, 32, 119, 104, 111, 108, 101, 32, 110, 117, 109, 98, 101, 114, 32, 102, 114, 111, 109, 32] : List Int32)) ++ decI lo nl) ++ ([32, 117, 112] : List Int32)) h187 n0 O0 S_COMPACT_STRINGS hzc E_b174 F_value_b174 F_coder_b174 F_count_b174 V_d179 E_d179 g_b174 g_d179 (by show _ ≤ 34; omega) (by decide) (by decide)) (W := 0) (by decide) (by decide) (by decide) (by decide) (by rw [hml]; rfl) (lenOf pd_24 rfl) rfl (Nat.le_of_eq rfl) (hb hby d_p7_m4_58) ?_
      intro v188 T188 L188 h188 X188 e188 q188
      have lt189_a := E_a.lt
      have lt189_b174 := E_b174.lt
      have lt189_d175 := E_d175.lt
      have lt189_b177 := T_b177.1.lt
      have lt189_t177 := T_b177.2.2.2.lt
      have lt189_d179 := E_d179.lt
      have lt189_b185 := T_b185.1.lt
      have lt189_t185 := T_b185.2.2.2.lt
      obtain ⟨x188, t188, kb188, rfl, n188, K188, sx188, g_x188, sb188, g_t188, T_x188⟩ := q188
      have szq188 := K0.1
      have ne_a_t188 : a ≠ t188 := Nat.ne_of_lt (Nat.lt_of_lt_of_le lt189_a sb188)
      have ne_b174_t188 : b174 ≠ t188 := Nat.ne_of_lt (Nat.lt_of_lt_of_le lt189_b174 sb188)
      have ne_d175_t188 : d175 ≠ t188 := Nat.ne_of_lt (Nat.lt_of_lt_of_le lt189_d175 sb188)
      have ne_b177_t188 : b177 ≠ t188 := Nat.ne_of_lt (Nat.lt_of_lt_of_le lt189_b177 sb188)
      have ne_t177_t188 : t177 ≠ t188 := Nat.ne_of_lt (Nat.lt_of_lt_of_le lt189_t177 sb188)
      have ne_d179_t188 : d179 ≠ t188 := Nat.ne_of_lt (Nat.lt_of_lt_of_le lt189_d179 sb188)
      have ne_b185_t188 : b185 ≠ t188 := Nat.ne_of_lt (Nat.lt_of_lt_of_le lt189_b185 sb188)
      have ne_t185_t188 : t185 ≠ t188 := Nat.ne_of_lt (Nat.lt_of_lt_of_le lt189_t185 sb188)
      have sz_t188 : h0.size ≤ t188 := Nat.le_trans szq188 sb188
      have SF_t188 : Safe Z consts_1 T185.vm h187 t188 := Safe.new sb188
      have CHo := CH
      have SF_b174o := SF_b174
      have SF_d175o := SF_d175
      have SF_d179o := SF_d179
      have SF_t188o := SF_t188
      have hk := Nat.le_trans hk K188.1
      have O0 := O0.keep K188 all0
      have E_a := E_a.keep K188
      have F_low_a := F_low_a.keep K188 nin0
      have F_high_a := F_high_a.keep K188 nin0
      have K0 := K0.trans K188 all0
      have SF_b174 := Safe.keep K188 all0 CHo.1 SF_b174o
      have E_b174 := E_b174.keep K188
      have SF_d175 := Safe.keep K188 all0 CHo.1 SF_d175o
      have E_d175 := E_d175.keep K188
      have T_b177 := T_b177.keep K188 nin0 nin0
      have SF_d179 := Safe.keep K188 all0 CHo.1 SF_d179o
      have E_d179 := E_d179.keep K188
      have T_b185 := T_b185.keep K188 nin0 nin0
      have F_value_b174 := F_value_b174.keep K188 nin0
      have F_coder_b174 := F_coder_b174.keep K188 nin0
      have F_count_b174 := F_count_b174.keep K188 nin0
      have V_d179 := V_d179.keep K188 nin0
      have SF_t188 := Safe.keep K188 all0 CHo.1 SF_t188o
      have CH := CHo.trans (CHr.keep K188 all0 CHo.1)
      have N188 := Fr.app N187 n188
      show Run p e below _ (T188.setTop (mkF m 61 #[.val (.ref a)] [(.ref x188)]))
      exact endAS X188 hx hlk hZ hEL e188 eS CH hS hk (w := (.ref x188)) hret rfl rfl (hb hby d_p7_m4_61) (by rw [e188]; exact ⟨_, _, _, rfl, N188, K0, by rw [rcs_up c184]; exact T_x188⟩) (by decide) (by decide)
    · skip
      refine callVi X185 hx hZ hown (wd hw 49 rfl) (wd hw 50 rfl) (notFace_of_selects (args := #[]) (mvT hZ (wd hw 52 rfl))) (wd hw 52 rfl) (wd hw 51 rfl) (wd hw 53 rfl) (wd hw 25 rfl) (by decide) e185 E_b174 (argsL := [(.ref b185)]) (rest := []) (rm_sa1_34 l Z a0 hw [] zc b174 d179 kd179 ((([] : List Int32) ++ ([97, 32, 119, 104, 111, 108, 101, 32, 110, 117, 109, 98, 101, 114, 32, 102, 114, 111, 109, 32] : List Int32)) ++ decI lo nl) b185 t185 kb185 ([32, 117, 112] : List Int32) h185 n0 O0 S_COMPACT_STRINGS hzc E_b174 F_value_b174 F_coder_b174 F_count_b174 V_d179 E_d179 g_b174 g_d179 T_b185 ne_d179_t185 (show In8 ([32, 117, 112] : List Int32) by unfold In8; decide) (by omega) (by omega) (by omega)) (W := 0) (by decide) (by decide) (by decide) (by decide) (by rw [hml]; rfl) (lenOf pd_22 rfl) rfl (Nat.le_of_eq rfl) (hb hby d_p7_m4_55) ?_
      intro v190 T190 L190 h190 X190 e190 q190
      have lt191_a := E_a.lt
      have lt191_b174 := E_b174.lt
      have lt191_d175 := E_d175.lt
      have lt191_b177 := T_b177.1.lt
      have lt191_t177 := T_b177.2.2.2.lt
      have lt191_d179 := E_d179.lt
      have lt191_b185 := T_b185.1.lt
      have lt191_t185 := T_b185.2.2.2.lt
      obtain ⟨d190, kd190, rfl, n190, K190, sb190, g_d190, E_d190, F_value_b174, F_coder_b174, F_count_b174, V_d190⟩ := q190
      have szq190 := K0.1
      have ne_a_d190 : a ≠ d190 := Nat.ne_of_lt (Nat.lt_of_lt_of_le lt191_a sb190)
      have ne_b174_d190 : b174 ≠ d190 := Nat.ne_of_lt (Nat.lt_of_lt_of_le lt191_b174 sb190)
      have ne_d175_d190 : d175 ≠ d190 := Nat.ne_of_lt (Nat.lt_of_lt_of_le lt191_d175 sb190)
      have ne_b177_d190 : b177 ≠ d190 := Nat.ne_of_lt (Nat.lt_of_lt_of_le lt191_b177 sb190)
      have ne_t177_d190 : t177 ≠ d190 := Nat.ne_of_lt (Nat.lt_of_lt_of_le lt191_t177 sb190)
      have ne_d179_d190 : d179 ≠ d190 := Nat.ne_of_lt (Nat.lt_of_lt_of_le lt191_d179 sb190)
      have ne_b185_d190 : b185 ≠ d190 := Nat.ne_of_lt (Nat.lt_of_lt_of_le lt191_b185 sb190)
      have ne_t185_d190 : t185 ≠ d190 := Nat.ne_of_lt (Nat.lt_of_lt_of_le lt191_t185 sb190)
      have sz_d190 : h0.size ≤ d190 := Nat.le_trans szq190 sb190
      have SF_d190 : Safe Z consts_1 T185.vm h185 d190 := Safe.new sb190
      have CHo := CH
      have SF_b174o := SF_b174
      have SF_d175o := SF_d175
      have SF_d179o := SF_d179
      have SF_d190o := SF_d190
      have hk := Nat.le_trans hk K190.1
      have O0 := O0.keep K190 (allS g_b174 all0)
      have E_a := E_a.keep K190
      have F_low_a := F_low_a.keep K190 (ninS ne_a_b174 nin0)
      have F_high_a := F_high_a.keep K190 (ninS ne_a_b174 nin0)
      have K0 := K0.trans K190 (allS (Or.inr sz_b174) all0)
      have SF_b174 := Safe.keep K190 (allS SF_b174o all0) CHo.1 SF_b174o
      have E_b174 := E_b174.keep K190
      have SF_d175 := Safe.keep K190 (allS SF_b174o all0) CHo.1 SF_d175o
      have E_d175 := E_d175.keep K190
      have T_b177 := T_b177.keep K190 (ninS (Ne.symm ne_b174_b177) nin0) (ninS (Ne.symm ne_b174_t177) nin0)
      have SF_d179 := Safe.keep K190 (allS SF_b174o all0) CHo.1 SF_d179o
      have E_d179 := E_d179.keep K190
      have T_b185 := T_b185.keep K190 (ninS (Ne.symm ne_b174_b185) nin0) (ninS (Ne.symm ne_b174_t185) nin0)
      have SF_d190 := Safe.keep K190 (allS SF_b174o all0) CHo.1 SF_d190o
      have CH := CHo.trans (CHr.keep K190 (allS SF_b174o all0) CHo.1)
      have N190 := Fr.app N182 n190
      show Run p e below _ (T190.setTop (mkF m 58 #[.val (.ref a)] [(.ref b174)]))
      have lq3 : (((([] : List Int32) ++ ([97, 32, 119, 104, 111, 108, 101, 32, 110, 117, 109, 98, 101, 114, 32, 102, 114, 111, 109, 32] : List Int32)) ++ decI lo nl) ++ ([32, 117, 112] : List Int32)).length ≤ 70 := by rw [List.length_append]; omega
      refine callVi X190 hx hZ hown (wd hw 146 rfl) (wd hw 147 rfl) (notFace_of_selects (args := #[]) (mvT hZ (wd hw 149 rfl))) (wd hw 149 rfl) (wd hw 148 rfl) (wd hw 150 rfl) (wd hw 25 rfl) (by decide) e190 E_b174 (argsL := []) (rest := []) (rm_ts l Z a0 hw [] zc b174 d190 kd190 (70 : Int32) (((([] : List Int32) ++ ([97, 32, 119, 104, 111, 108, 101, 32, 110, 117, 109, 98, 101, 114, 32, 102, 114, 111, 109, 32] : List Int32)) ++ decI lo nl) ++ ([32, 117, 112] : List Int32)) h190 n0 O0 S_COMPACT_STRINGS hzc E_b174 F_value_b174 F_coder_b174 F_count_b174 V_d190 E_d190 g_b174 g_d190 (by show _ ≤ 70; omega) (by decide) (by decide)) (W := 0) (by decide) (by decide) (by decide) (by decide) (by rw [hml]; rfl) (lenOf pd_24 rfl) rfl (Nat.le_of_eq rfl) (hb hby d_p7_m4_58) ?_
      intro v192 T192 L192 h192 X192 e192 q192
      have lt193_a := E_a.lt
      have lt193_b174 := E_b174.lt
      have lt193_d175 := E_d175.lt
      have lt193_b177 := T_b177.1.lt
      have lt193_t177 := T_b177.2.2.2.lt
      have lt193_d179 := E_d179.lt
      have lt193_b185 := T_b185.1.lt
      have lt193_t185 := T_b185.2.2.2.lt
      have lt193_d190 := E_d190.lt
      obtain ⟨x192, t192, kb192, rfl, n192, K192, sx192, g_x192, sb192, g_t192, T_x192⟩ := q192
      have szq192 := K0.1
      have ne_a_t192 : a ≠ t192 := Nat.ne_of_lt (Nat.lt_of_lt_of_le lt193_a sb192)
      have ne_b174_t192 : b174 ≠ t192 := Nat.ne_of_lt (Nat.lt_of_lt_of_le lt193_b174 sb192)
      have ne_d175_t192 : d175 ≠ t192 := Nat.ne_of_lt (Nat.lt_of_lt_of_le lt193_d175 sb192)
      have ne_b177_t192 : b177 ≠ t192 := Nat.ne_of_lt (Nat.lt_of_lt_of_le lt193_b177 sb192)
      have ne_t177_t192 : t177 ≠ t192 := Nat.ne_of_lt (Nat.lt_of_lt_of_le lt193_t177 sb192)
      have ne_d179_t192 : d179 ≠ t192 := Nat.ne_of_lt (Nat.lt_of_lt_of_le lt193_d179 sb192)
      have ne_b185_t192 : b185 ≠ t192 := Nat.ne_of_lt (Nat.lt_of_lt_of_le lt193_b185 sb192)
      have ne_t185_t192 : t185 ≠ t192 := Nat.ne_of_lt (Nat.lt_of_lt_of_le lt193_t185 sb192)
      have ne_d190_t192 : d190 ≠ t192 := Nat.ne_of_lt (Nat.lt_of_lt_of_le lt193_d190 sb192)
      have sz_t192 : h0.size ≤ t192 := Nat.le_trans szq192 sb192
      have SF_t192 : Safe Z consts_1 T185.vm h190 t192 := Safe.new sb192
      have CHo := CH
      have SF_b174o := SF_b174
      have SF_d175o := SF_d175
      have SF_d179o := SF_d179
      have SF_d190o := SF_d190
      have SF_t192o := SF_t192
      have hk := Nat.le_trans hk K192.1
      have O0 := O0.keep K192 all0
      have E_a := E_a.keep K192
      have F_low_a := F_low_a.keep K192 nin0
      have F_high_a := F_high_a.keep K192 nin0
      have K0 := K0.trans K192 all0
      have SF_b174 := Safe.keep K192 all0 CHo.1 SF_b174o
      have E_b174 := E_b174.keep K192
      have SF_d175 := Safe.keep K192 all0 CHo.1 SF_d175o
      have E_d175 := E_d175.keep K192
      have T_b177 := T_b177.keep K192 nin0 nin0
      have SF_d179 := Safe.keep K192 all0 CHo.1 SF_d179o
      have E_d179 := E_d179.keep K192
      have T_b185 := T_b185.keep K192 nin0 nin0
      have SF_d190 := Safe.keep K192 all0 CHo.1 SF_d190o
      have E_d190 := E_d190.keep K192
      have F_value_b174 := F_value_b174.keep K192 nin0
      have F_coder_b174 := F_coder_b174.keep K192 nin0
      have F_count_b174 := F_count_b174.keep K192 nin0
      have V_d190 := V_d190.keep K192 nin0
      have SF_t192 := Safe.keep K192 all0 CHo.1 SF_t192o
      have CH := CHo.trans (CHr.keep K192 all0 CHo.1)
      have N192 := Fr.app N190 n192
      show Run p e below _ (T192.setTop (mkF m 61 #[.val (.ref a)] [(.ref x192)]))
      exact endAS X192 hx hlk hZ hEL e192 eS CH hS hk (w := (.ref x192)) hret rfl rfl (hb hby d_p7_m4_61) (by rw [e192]; exact ⟨_, _, _, rfl, N192, K0, by rw [rcs_up c184]; exact T_x192⟩) (by decide) (by decide)
  · skip
    refine go (fun _ => XS.icmpYes X183.here hx rfl (pc0 := 25) (pc' := 33) rfl (hb hby d_p7_m4_25) rfl (feq c184).2 (by decide) (by decide)) ?_
    show Run p e below _ (T183.setTop (mkF m 33 #[.val (.ref a)] [(.ref b174)]))
    obtain ⟨T194, h194, X194, e194, E194, A194, D194, -, st194⟩ := newO X183 hx hZ hown (wd hw 23 rfl) (wd hw 24 rfl) (wd hw 25 rfl) e183 (g := (mkF m 33 #[.val (.ref a)] [(.ref b174)])) rfl (hb hby d_p7_m4_33) (by decide) (by decide)
    obtain ⟨b194, y194⟩ : ∃ z, z = h182.size := ⟨_, rfl⟩
    rw [← y194] at A194 D194 st194
    have g_b194 : n0 ≤ b194 := y194.symm ▸ old_sz O0
    have SF_b194 : Safe Z consts_1 T177.vm h182 b194 := Safe.new (Nat.le_of_eq y194.symm)
    have sz_b194 : h0.size ≤ b194 := y194.symm ▸ K0.1
    have ne_a_b194 : a ≠ b194 := Nat.ne_of_lt (y194.symm ▸ E_a.lt)
    have ne_b174_b194 : b174 ≠ b194 := Nat.ne_of_lt (y194.symm ▸ E_b174.lt)
    have ne_d175_b194 : d175 ≠ b194 := Nat.ne_of_lt (y194.symm ▸ E_d175.lt)
    have ne_b177_b194 : b177 ≠ b194 := Nat.ne_of_lt (y194.symm ▸ T_b177.1.lt)
    have ne_t177_b194 : t177 ≠ b194 := Nat.ne_of_lt (y194.symm ▸ T_b177.2.2.2.lt)
    have ne_d179_b194 : d179 ≠ b194 := Nat.ne_of_lt (y194.symm ▸ E_d179.lt)
    have CHo := CH
    have SF_b174o := SF_b174
    have SF_d175o := SF_d175
    have SF_d179o := SF_d179
    have SF_b194o := SF_b194
    have hk := Nat.le_trans hk E194.1
    have O0 := O0.ext E194
    have E_a := E_a.ext E194
    have F_low_a := F_low_a.ext E194
    have F_high_a := F_high_a.ext E194
    have K0 := K0.ext E194
    have SF_b174 := Safe.ext E194 CHo.1 SF_b174o
    have E_b174 := E_b174.ext E194
    have SF_d175 := Safe.ext E194 CHo.1 SF_d175o
    have E_d175 := E_d175.ext E194
    have T_b177 := T_b177.ext E194
    have SF_d179 := Safe.ext E194 CHo.1 SF_d179o
    have E_d179 := E_d179.ext E194
    have F_value_b174 := F_value_b174.ext E194
    have F_coder_b174 := F_coder_b174.ext E194
    have F_count_b174 := F_count_b174.ext E194
    have V_d179 := V_d179.ext E194
    have SF_b194 := Safe.ext E194 CHo.1 SF_b194o
    have CH := CHo.trans (CHr.ext E194 CHo.1)
    have E_b194 := A194
    have F_value_b194 : Fld Z h194 b194 "java/lang/AbstractStringBuilder" "value" "[B" .null := D194 (Or.inl (wd hw 40 rfl)) (ty := (.array .byte)) (by decide)
    have F_coder_b194 : Fld Z h194 b194 "java/lang/AbstractStringBuilder" "coder" "B" (.int (0 : Int32)) := D194 (Or.inl (wd hw 42 rfl)) (ty := .byte) (by decide)
    have F_count_b194 : Fld Z h194 b194 "java/lang/AbstractStringBuilder" "count" "I" (.int (0 : Int32)) := D194 (Or.inl (wd hw 73 rfl)) (ty := .int) (by decide)
    refine go st194 ?_
    show Run p e below _ (T194.setTop (mkF m 36 #[.val (.ref a)] [(.ref b194), (.ref b174)]))
    refine go (fun _ => XS.dup X194.here hx rfl (hb hby d_p7_m4_36) rfl rfl) ?_
    show Run p e below _ (T194.setTop (mkF m 37 #[.val (.ref a)] [(.ref b194), (.ref b194), (.ref b174)]))
    refine callSp X194 hx hZ rfl hown (wd hw 26 rfl) (wd hw 27 rfl) (wd hw 28 rfl) (wd hw 25 rfl) (by decide) e194 (a := b194) (argsL := []) (rest := [(.ref b194), (.ref b174)]) (rm_sbi l Z a0 hw [] b194 zc h194 n0 O0 S_COMPACT_STRINGS hzc E_b194 F_value_b194 F_coder_b194 F_count_b194 g_b194) (W := 2) (by decide) (by decide) (by decide) (by decide) (by rw [hml]; rfl) (lenOf pd_0 rfl) rfl (Nat.le_of_eq rfl) (hb hby d_p7_m4_37) ?_
    intro v195 T195 L195 h195 X195 e195 q195
    have lt196_a := E_a.lt
    have lt196_b174 := E_b174.lt
    have lt196_d175 := E_d175.lt
    have lt196_b177 := T_b177.1.lt
    have lt196_t177 := T_b177.2.2.2.lt
    have lt196_d179 := E_d179.lt
    have lt196_b194 := E_b194.lt
    obtain ⟨d195, kd195, rfl, n195, K195, sb195, g_d195, E_d195, F_value_b194, F_coder_b194, F_count_b194, V_d195⟩ := q195
    have szq195 := K0.1
    have ne_a_d195 : a ≠ d195 := Nat.ne_of_lt (Nat.lt_of_lt_of_le lt196_a sb195)
    have ne_b174_d195 : b174 ≠ d195 := Nat.ne_of_lt (Nat.lt_of_lt_of_le lt196_b174 sb195)
    have ne_d175_d195 : d175 ≠ d195 := Nat.ne_of_lt (Nat.lt_of_lt_of_le lt196_d175 sb195)
    have ne_b177_d195 : b177 ≠ d195 := Nat.ne_of_lt (Nat.lt_of_lt_of_le lt196_b177 sb195)
    have ne_t177_d195 : t177 ≠ d195 := Nat.ne_of_lt (Nat.lt_of_lt_of_le lt196_t177 sb195)
    have ne_d179_d195 : d179 ≠ d195 := Nat.ne_of_lt (Nat.lt_of_lt_of_le lt196_d179 sb195)
    have ne_b194_d195 : b194 ≠ d195 := Nat.ne_of_lt (Nat.lt_of_lt_of_le lt196_b194 sb195)
    have sz_d195 : h0.size ≤ d195 := Nat.le_trans szq195 sb195
    have SF_d195 : Safe Z consts_1 T177.vm h194 d195 := Safe.new sb195
    have CHo := CH
    have SF_b174o := SF_b174
    have SF_d175o := SF_d175
    have SF_d179o := SF_d179
    have SF_b194o := SF_b194
    have SF_d195o := SF_d195
    have hk := Nat.le_trans hk K195.1
    have O0 := O0.keep K195 (allS g_b194 all0)
    have E_a := E_a.keep K195
    have F_low_a := F_low_a.keep K195 (ninS ne_a_b194 nin0)
    have F_high_a := F_high_a.keep K195 (ninS ne_a_b194 nin0)
    have K0 := K0.trans K195 (allS (Or.inr sz_b194) all0)
    have SF_b174 := Safe.keep K195 (allS SF_b194o all0) CHo.1 SF_b174o
    have E_b174 := E_b174.keep K195
    have SF_d175 := Safe.keep K195 (allS SF_b194o all0) CHo.1 SF_d175o
    have E_d175 := E_d175.keep K195
    have T_b177 := T_b177.keep K195 (ninS ne_b177_b194 nin0) (ninS ne_t177_b194 nin0)
    have SF_d179 := Safe.keep K195 (allS SF_b194o all0) CHo.1 SF_d179o
    have E_d179 := E_d179.keep K195
    have F_value_b174 := F_value_b174.keep K195 (ninS ne_b174_b194 nin0)
    have F_coder_b174 := F_coder_b174.keep K195 (ninS ne_b174_b194 nin0)
    have F_count_b174 := F_count_b174.keep K195 (ninS ne_b174_b194 nin0)
    have V_d179 := V_d179.keep K195 (ninS ne_d179_b194 nin0)
    have SF_b194 := Safe.keep K195 (allS SF_b194o all0) CHo.1 SF_b194o
    have E_b194 := E_b194.keep K195
    have SF_d195 := Safe.keep K195 (allS SF_b194o all0) CHo.1 SF_d195o
    have CH := CHo.trans (CHr.keep K195 (allS SF_b194o all0) CHo.1)
    have N195 := Fr.app N182 n195
    show Run p e below _ (T195.setTop (mkF m 40 #[.val (.ref a)] [(.ref b194), (.ref b174)]))
    have lt198_a := E_a.lt
    have lt198_b174 := E_b174.lt
    have lt198_d175 := E_d175.lt
    have lt198_b177 := T_b177.1.lt
    have lt198_t177 := T_b177.2.2.2.lt
    have lt198_d179 := E_d179.lt
    have lt198_b194 := E_b194.lt
    have lt198_d195 := E_d195.lt
    refine goLdc (text := " to ") (ds := ([32, 116, 111, 32] : List Int32)) X195 hx hZ hown (wd hw 145 rfl) (fun d hd => hw d (subStr d hd)) e195 hS hk hEL (by decide) CH ⟨by decide, by decide⟩ (by decide) (by decide) (n := 16) (hb hby d_p7_m4_40) (by decide) (by decide) (by decide) (by decide) ?_
    intro b197 t197 kb197 T197 h197 k197 X197 e197 E197 hS hk hZ hown Ea197 Fc197 Fv197 Va197 CH' D197 sf197
    have SF_b174 := CHr.safe D197 lt198_b174 SF_b174
    have SF_d175 := CHr.safe D197 lt198_d175 SF_d175
    have SF_d179 := CHr.safe D197 lt198_d179 SF_d179
    have SF_b194 := CHr.safe D197 lt198_b194 SF_b194
    have SF_d195 := CHr.safe D197 lt198_d195 SF_d195
    have O0 := O0.ext E197
    have E_a := E_a.ext E197
    have F_low_a := F_low_a.ext E197
    have F_high_a := F_high_a.ext E197
    have K0 := K0.ext E197
    have E_b174 := E_b174.ext E197
    have E_d175 := E_d175.ext E197
    have T_b177 := T_b177.ext E197
    have E_d179 := E_d179.ext E197
    have F_value_b174 := F_value_b174.ext E197
    have F_coder_b174 := F_coder_b174.ext E197
    have F_count_b174 := F_count_b174.ext E197
    have V_d179 := V_d179.ext E197
    have E_b194 := E_b194.ext E197
    have E_d195 := E_d195.ext E197
    have F_value_b194 := F_value_b194.ext E197
    have F_coder_b194 := F_coder_b194.ext E197
    have F_count_b194 := F_count_b194.ext E197
    have V_d195 := V_d195.ext E197
    have CH := CH'
    have T_b197 : Str Z h197 b197 t197 kb197 ([32, 116, 111, 32] : List Int32) := ⟨Ea197, Fv197, Fc197, Va197⟩
    have ne_b174_b197 := (sf197 _ SF_b174).1
    have ne_b174_t197 := (sf197 _ SF_b174).2
    have ne_d175_b197 := (sf197 _ SF_d175).1
    have ne_d175_t197 := (sf197 _ SF_d175).2
    have ne_d179_b197 := (sf197 _ SF_d179).1
    have ne_d179_t197 := (sf197 _ SF_d179).2
    have ne_b194_b197 := (sf197 _ SF_b194).1
    have ne_b194_t197 := (sf197 _ SF_b194).2
    have ne_d195_b197 := (sf197 _ SF_d195).1
    have ne_d195_t197 := (sf197 _ SF_d195).2
    show Run p e below _ (T197.setTop (mkF m 42 #[.val (.ref a)] [(.ref b197), (.ref b194), (.ref b174)]))
    refine callVi X197 hx hZ hown (wd hw 49 rfl) (wd hw 50 rfl) (notFace_of_selects (args := #[]) (mvT hZ (wd hw 52 rfl))) (wd hw 52 rfl) (wd hw 51 rfl) (wd hw 53 rfl) (wd hw 25 rfl) (by decide) e197 E_b194 (argsL := [(.ref b197)]) (rest := [(.ref b174)]) (rm_sa0_16 l Z a0 hw [] zc b194 d195 kd195 ([] : List Int32) b197 t197 kb197 ([32, 116, 111, 32] : List Int32) h197 n0 O0 S_COMPACT_STRINGS hzc E_b194 F_value_b194 F_coder_b194 F_count_b194 V_d195 E_d195 g_b194 g_d195 T_b197 ne_d195_t197 (show In8 ([32, 116, 111, 32] : List Int32) by unfold In8; decide) (by decide) (by decide)) (W := 1) (by decide) (by decide) (by decide) (by decide) (by rw [hml]; rfl) (lenOf pd_22 rfl) rfl (Nat.le_of_eq rfl) (hb hby d_p7_m4_42) ?_
    intro v199 T199 L199 h199 X199 e199 q199
    obtain ⟨rfl, n199, K199, F_value_b194, F_coder_b194, F_count_b194, V_d195⟩ := q199
    have CHo := CH
    have SF_b174o := SF_b174
    have SF_d175o := SF_d175
    have SF_d179o := SF_d179
    have SF_b194o := SF_b194
    have SF_d195o := SF_d195
    have hk := Nat.le_trans hk K199.1
    have O0 := O0.keep K199 (allS g_b194 (allS g_d195 all0))
    have E_a := E_a.keep K199
    have F_low_a := F_low_a.keep K199 (ninS ne_a_b194 (ninS ne_a_d195 nin0))
    have F_high_a := F_high_a.keep K199 (ninS ne_a_b194 (ninS ne_a_d195 nin0))
    have K0 := K0.trans K199 (allS (Or.inr sz_b194) (allS (Or.inr sz_d195) all0))
    have SF_b174 := Safe.keep K199 (allS SF_b194o (allS SF_d195o all0)) CHo.1 SF_b174o
    have E_b174 := E_b174.keep K199
    have SF_d175 := Safe.keep K199 (allS SF_b194o (allS SF_d195o all0)) CHo.1 SF_d175o
    have E_d175 := E_d175.keep K199
    have T_b177 := T_b177.keep K199 (ninS ne_b177_b194 (ninS ne_b177_d195 nin0)) (ninS ne_t177_b194 (ninS ne_t177_d195 nin0))
    have SF_d179 := Safe.keep K199 (allS SF_b194o (allS SF_d195o all0)) CHo.1 SF_d179o
    have E_d179 := E_d179.keep K199
    have F_value_b174 := F_value_b174.keep K199 (ninS ne_b174_b194 (ninS ne_b174_d195 nin0))
    have F_coder_b174 := F_coder_b174.keep K199 (ninS ne_b174_b194 (ninS ne_b174_d195 nin0))
    have F_count_b174 := F_count_b174.keep K199 (ninS ne_b174_b194 (ninS ne_b174_d195 nin0))
    have V_d179 := V_d179.keep K199 (ninS ne_d179_b194 (ninS ne_d179_d195 nin0))
    have SF_b194 := Safe.keep K199 (allS SF_b194o (allS SF_d195o all0)) CHo.1 SF_b194o
    have E_b194 := E_b194.keep K199
    have SF_d195 := Safe.keep K199 (allS SF_b194o (allS SF_d195o all0)) CHo.1 SF_d195o
    have CH := CHo.trans (CHr.keep K199 (allS SF_b194o (allS SF_d195o all0)) CHo.1)
    have E_d195 := E_d195.keep K199
    have T_b197 := T_b197.keep K199 (ninS (Ne.symm ne_b194_b197) (ninS (Ne.symm ne_d195_b197) nin0)) (ninS (Ne.symm ne_b194_t197) (ninS (Ne.symm ne_d195_t197) nin0))
    have N199 := Fr.app N195 n199
    show Run p e below _ (T199.setTop (mkF m 45 #[.val (.ref a)] [(.ref b194), (.ref b174)]))
    refine go (fun _ => XS.aloadN X199.here hx rfl (hb hby d_p7_m4_45) rfl rfl) ?_
    show Run p e below _ (T199.setTop (mkF m 46 #[.val (.ref a)] [(.ref a), (.ref b194), (.ref b174)]))
    obtain ⟨T200, X200, e200, st200⟩ := getF X199 hx hZ hown (host := "") (Or.inl (wd hw 16 rfl)) Via.refl e199 F_high_a (g := (mkF m 46 #[.val (.ref a)] [(.ref a), (.ref b194), (.ref b174)])) rfl rfl (hb hby d_p7_m4_46)
    refine go st200 ?_
    show Run p e below _ (T200.setTop (mkF m 49 #[.val (.ref a)] [(.int hi), (.ref b194), (.ref b174)]))
    refine callVi X200 hx hZ hown (wd hw 122 rfl) (wd hw 123 rfl) (notFace_of_selects (args := #[]) (mvT hZ (wd hw 125 rfl))) (wd hw 125 rfl) (wd hw 124 rfl) (wd hw 126 rfl) (wd hw 25 rfl) (by decide) e200 E_b194 (argsL := [(.int hi)]) (rest := [(.ref b174)]) (rm_sI_16 l Z a0 hw [] zc b194 d195 kd195 (([] : List Int32) ++ ([32, 116, 111, 32] : List Int32)) hi nh st d1 D1 d2 D2 h199 n0 O0 S_COMPACT_STRINGS hzc E_b194 F_value_b194 F_coder_b194 F_count_b194 V_d195 E_d195 g_b194 g_d195 hn2 hx2 D (own_dg _ _ (by decide))) (W := 1) (by decide) (by decide) (by decide) (by decide) (by rw [hml]; rfl) (lenOf pd_23 rfl) rfl (Nat.le_of_eq rfl) (hb hby d_p7_m4_49) ?_
    intro v201 T201 L201 h201 X201 e201 q201
    obtain ⟨rfl, n201, K201, F_value_b194, F_coder_b194, F_count_b194, V_d195⟩ := q201
    have CHo := CH
    have SF_b174o := SF_b174
    have SF_d175o := SF_d175
    have SF_d179o := SF_d179
    have SF_b194o := SF_b194
    have SF_d195o := SF_d195
    have hk := Nat.le_trans hk K201.1
    have O0 := O0.keep K201 (allS g_b194 (allS g_d195 all0))
    have E_a := E_a.keep K201
    have F_low_a := F_low_a.keep K201 (ninS ne_a_b194 (ninS ne_a_d195 nin0))
    have F_high_a := F_high_a.keep K201 (ninS ne_a_b194 (ninS ne_a_d195 nin0))
    have K0 := K0.trans K201 (allS (Or.inr sz_b194) (allS (Or.inr sz_d195) all0))
    have SF_b174 := Safe.keep K201 (allS SF_b194o (allS SF_d195o all0)) CHo.1 SF_b174o
    have E_b174 := E_b174.keep K201
    have SF_d175 := Safe.keep K201 (allS SF_b194o (allS SF_d195o all0)) CHo.1 SF_d175o
    have E_d175 := E_d175.keep K201
    have T_b177 := T_b177.keep K201 (ninS ne_b177_b194 (ninS ne_b177_d195 nin0)) (ninS ne_t177_b194 (ninS ne_t177_d195 nin0))
    have SF_d179 := Safe.keep K201 (allS SF_b194o (allS SF_d195o all0)) CHo.1 SF_d179o
    have E_d179 := E_d179.keep K201
    have F_value_b174 := F_value_b174.keep K201 (ninS ne_b174_b194 (ninS ne_b174_d195 nin0))
    have F_coder_b174 := F_coder_b174.keep K201 (ninS ne_b174_b194 (ninS ne_b174_d195 nin0))
    have F_count_b174 := F_count_b174.keep K201 (ninS ne_b174_b194 (ninS ne_b174_d195 nin0))
    have V_d179 := V_d179.keep K201 (ninS ne_d179_b194 (ninS ne_d179_d195 nin0))
    have SF_b194 := Safe.keep K201 (allS SF_b194o (allS SF_d195o all0)) CHo.1 SF_b194o
    have E_b194 := E_b194.keep K201
    have SF_d195 := Safe.keep K201 (allS SF_b194o (allS SF_d195o all0)) CHo.1 SF_d195o
    have CH := CHo.trans (CHr.keep K201 (allS SF_b194o (allS SF_d195o all0)) CHo.1)
    have E_d195 := E_d195.keep K201
    have T_b197 := T_b197.keep K201 (ninS (Ne.symm ne_b194_b197) (ninS (Ne.symm ne_d195_b197) nin0)) (ninS (Ne.symm ne_b194_t197) (ninS (Ne.symm ne_d195_t197) nin0))
    have N201 := Fr.app N199 n201
    show Run p e below _ (T201.setTop (mkF m 52 #[.val (.ref a)] [(.ref b194), (.ref b174)]))
    refine callVi X201 hx hZ hown (wd hw 146 rfl) (wd hw 147 rfl) (notFace_of_selects (args := #[]) (mvT hZ (wd hw 149 rfl))) (wd hw 149 rfl) (wd hw 148 rfl) (wd hw 150 rfl) (wd hw 25 rfl) (by decide) e201 E_b194 (argsL := []) (rest := [(.ref b174)]) (rm_ts l Z a0 hw [] zc b194 d195 kd195 (16 : Int32) ((([] : List Int32) ++ ([32, 116, 111, 32] : List Int32)) ++ decI hi nh) h201 n0 O0 S_COMPACT_STRINGS hzc E_b194 F_value_b194 F_coder_b194 F_count_b194 V_d195 E_d195 g_b194 g_d195 (by show _ ≤ 16; have := own_dg hi nh (k := 4) (z := 16) (by decide); simp only [List.length_append, decI_len, List.length_cons, List.length_nil]; omega) (by decide) (by decide)) (W := 1) (by decide) (by decide) (by decide) (by decide) (by rw [hml]; rfl) (lenOf pd_24 rfl) rfl (Nat.le_of_eq rfl) (hb hby d_p7_m4_52) ?_
    intro v202 T202 L202 h202 X202 e202 q202
    have lt203_a := E_a.lt
    have lt203_b174 := E_b174.lt
    have lt203_d175 := E_d175.lt
    have lt203_b177 := T_b177.1.lt
    have lt203_t177 := T_b177.2.2.2.lt
    have lt203_d179 := E_d179.lt
    have lt203_b194 := E_b194.lt
    have lt203_d195 := E_d195.lt
    have lt203_b197 := T_b197.1.lt
    have lt203_t197 := T_b197.2.2.2.lt
    obtain ⟨x202, t202, kb202, rfl, n202, K202, sx202, g_x202, sb202, g_t202, T_x202⟩ := q202
    have szq202 := K0.1
    have ne_a_t202 : a ≠ t202 := Nat.ne_of_lt (Nat.lt_of_lt_of_le lt203_a sb202)
    have ne_b174_t202 : b174 ≠ t202 := Nat.ne_of_lt (Nat.lt_of_lt_of_le lt203_b174 sb202)
    have ne_d175_t202 : d175 ≠ t202 := Nat.ne_of_lt (Nat.lt_of_lt_of_le lt203_d175 sb202)
    have ne_b177_t202 : b177 ≠ t202 := Nat.ne_of_lt (Nat.lt_of_lt_of_le lt203_b177 sb202)
    have ne_t177_t202 : t177 ≠ t202 := Nat.ne_of_lt (Nat.lt_of_lt_of_le lt203_t177 sb202)
    have ne_d179_t202 : d179 ≠ t202 := Nat.ne_of_lt (Nat.lt_of_lt_of_le lt203_d179 sb202)
    have ne_b194_t202 : b194 ≠ t202 := Nat.ne_of_lt (Nat.lt_of_lt_of_le lt203_b194 sb202)
    have ne_d195_t202 : d195 ≠ t202 := Nat.ne_of_lt (Nat.lt_of_lt_of_le lt203_d195 sb202)
    have ne_b197_t202 : b197 ≠ t202 := Nat.ne_of_lt (Nat.lt_of_lt_of_le lt203_b197 sb202)
    have ne_t197_t202 : t197 ≠ t202 := Nat.ne_of_lt (Nat.lt_of_lt_of_le lt203_t197 sb202)
    have sz_t202 : h0.size ≤ t202 := Nat.le_trans szq202 sb202
    have SF_t202 : Safe Z consts_1 T197.vm h201 t202 := Safe.new sb202
    have CHo := CH
    have SF_b174o := SF_b174
    have SF_d175o := SF_d175
    have SF_d179o := SF_d179
    have SF_b194o := SF_b194
    have SF_d195o := SF_d195
    have SF_t202o := SF_t202
    have hk := Nat.le_trans hk K202.1
    have O0 := O0.keep K202 all0
    have E_a := E_a.keep K202
    have F_low_a := F_low_a.keep K202 nin0
    have F_high_a := F_high_a.keep K202 nin0
    have K0 := K0.trans K202 all0
    have SF_b174 := Safe.keep K202 all0 CHo.1 SF_b174o
    have E_b174 := E_b174.keep K202
    have SF_d175 := Safe.keep K202 all0 CHo.1 SF_d175o
    have E_d175 := E_d175.keep K202
    have T_b177 := T_b177.keep K202 nin0 nin0
    have SF_d179 := Safe.keep K202 all0 CHo.1 SF_d179o
    have E_d179 := E_d179.keep K202
    have F_value_b174 := F_value_b174.keep K202 nin0
    have F_coder_b174 := F_coder_b174.keep K202 nin0
    have F_count_b174 := F_count_b174.keep K202 nin0
    have V_d179 := V_d179.keep K202 nin0
    have SF_b194 := Safe.keep K202 all0 CHo.1 SF_b194o
    have E_b194 := E_b194.keep K202
    have SF_d195 := Safe.keep K202 all0 CHo.1 SF_d195o
    have E_d195 := E_d195.keep K202
    have T_b197 := T_b197.keep K202 nin0 nin0
    have F_value_b194 := F_value_b194.keep K202 nin0
    have F_coder_b194 := F_coder_b194.keep K202 nin0
    have F_count_b194 := F_count_b194.keep K202 nin0
    have V_d195 := V_d195.keep K202 nin0
    have SF_t202 := Safe.keep K202 all0 CHo.1 SF_t202o
    have CH := CHo.trans (CHr.keep K202 all0 CHo.1)
    have N202 := Fr.app N201 n202
    show Run p e below _ (T202.setTop (mkF m 55 #[.val (.ref a)] [(.ref x202), (.ref b174)]))
    have lq1 : ((([] : List Int32) ++ ([97, 32, 119, 104, 111, 108, 101, 32, 110, 117, 109, 98, 101, 114, 32, 102, 114, 111, 109, 32] : List Int32)) ++ decI lo nl).length ≤ 31 := by simp only [List.length_append, decI_len, List.length_cons, List.length_nil]; have := (SBG.digits_pos nl).2; have := sgn_le lo; omega
    have lq2 : ((([] : List Int32) ++ ([32, 116, 111, 32] : List Int32)) ++ decI hi nh).length ≤ 15 := by simp only [List.length_append, decI_len, List.length_cons, List.length_nil]; have := (SBG.digits_pos nh).2; have := sgn_le hi; omega
    by_cases hg : ((([] : List Int32) ++ ([97, 32, 119, 104, 111, 108, 101, 32, 110, 117, 109, 98, 101, 114, 32, 102, 114, 111, 109, 32] : List Int32)) ++ decI lo nl).length + ((([] : List Int32) ++ ([32, 116, 111, 32] : List Int32)) ++ decI hi nh).length ≤ 34
    · skip
      refine callVi X202 hx hZ hown (wd hw 49 rfl) (wd hw 50 rfl) (notFace_of_selects (args := #[]) (mvT hZ (wd hw 52 rfl))) (wd hw 52 rfl) (wd hw 51 rfl) (wd hw 53 rfl) (wd hw 25 rfl) (by decide) e202 E_b174 (argsL := [(.ref x202)]) (rest := []) (rm_sa0_34 l Z a0 hw [] zc b174 d179 kd179 ((([] : List Int32) ++ ([97, 32, 119, 104, 111, 108, 101, 32, 110, 117, 109, 98, 101, 114, 32, 102, 114, 111, 109, 32] : List Int32)) ++ decI lo nl) x202 t202 kb202 ((([] : List Int32) ++ ([32, 116, 111, 32] : List Int32)) ++ decI hi nh) h202 n0 O0 S_COMPACT_STRINGS hzc E_b174 F_value_b174 F_coder_b174 F_count_b174 V_d179 E_d179 g_b174 g_d179 T_x202 ne_d179_t202 (in8_app (by unfold In8; decide) (in8_dec _ _)) (by omega) hg) (W := 0) (by decide) (by decide) (by decide) (by decide) (by rw [hml]; rfl) (lenOf pd_22 rfl) rfl (Nat.le_of_eq rfl) (hb hby d_p7_m4_55) ?_
      intro v204 T204 L204 h204 X204 e204 q204
      have ne_x202_b174 : x202 ≠ b174 := ne_exa T_x202.1 E_b174 (by decide)
      have ne_x202_d179 : x202 ≠ d179 := ne_exa T_x202.1 E_d179 (by decide)
      obtain ⟨rfl, n204, K204, F_value_b174, F_coder_b174, F_count_b174, V_d179⟩ := q204
      have CHo := CH
      have SF_b174o := SF_b174
      have SF_d175o := SF_d175
      have SF_d179o := SF_d179
      have SF_b194o := SF_b194
      have SF_d195o := SF_d195
      have SF_t202o := SF_t202
      have hk := Nat.le_trans hk K204.1
      have O0 := O0.keep K204 (allS g_b174 (allS g_d179 all0))
      have E_a := E_a.keep K204
      have F_low_a := F_low_a.keep K204 (ninS ne_a_b174 (ninS ne_a_d179 nin0))
      have F_high_a := F_high_a.keep K204 (ninS ne_a_b174 (ninS ne_a_d179 nin0))
      have K0 := K0.trans K204 (allS (Or.inr sz_b174) (allS (Or.inr sz_d179) all0))
      have SF_b174 := Safe.keep K204 (allS SF_b174o (allS SF_d179o all0)) CHo.1 SF_b174o
      have E_b174 := E_b174.keep K204
      have SF_d175 := Safe.keep K204 (allS SF_b174o (allS SF_d179o all0)) CHo.1 SF_d175o
      have E_d175 := E_d175.keep K204
      have T_b177 := T_b177.keep K204 (ninS (Ne.symm ne_b174_b177) (ninS ne_b177_d179 nin0)) (ninS (Ne.symm ne_b174_t177) (ninS ne_t177_d179 nin0))
      have SF_d179 := Safe.keep K204 (allS SF_b174o (allS SF_d179o all0)) CHo.1 SF_d179o
      have E_d179 := E_d179.keep K204
      have SF_b194 := Safe.keep K204 (allS SF_b174o (allS SF_d179o all0)) CHo.1 SF_b194o
      have E_b194 := E_b194.keep K204
      have SF_d195 := Safe.keep K204 (allS SF_b174o (allS SF_d179o all0)) CHo.1 SF_d195o
      have E_d195 := E_d195.keep K204
      have T_b197 := T_b197.keep K204 (ninS (Ne.symm ne_b174_b197) (ninS (Ne.symm ne_d179_b197) nin0)) (ninS (Ne.symm ne_b174_t197) (ninS (Ne.symm ne_d179_t197) nin0))
      have F_value_b194 := F_value_b194.keep K204 (ninS (Ne.symm ne_b174_b194) (ninS (Ne.symm ne_d179_b194) nin0))
      have F_coder_b194 := F_coder_b194.keep K204 (ninS (Ne.symm ne_b174_b194) (ninS (Ne.symm ne_d179_b194) nin0))
      have F_count_b194 := F_count_b194.keep K204 (ninS (Ne.symm ne_b174_b194) (ninS (Ne.symm ne_d179_b194) nin0))
      have V_d195 := V_d195.keep K204 (ninS (Ne.symm ne_b174_d195) (ninS (Ne.symm ne_d179_d195) nin0))
      have SF_t202 := Safe.keep K204 (allS SF_b174o (allS SF_d179o all0)) CHo.1 SF_t202o
      have CH := CHo.trans (CHr.keep K204 (allS SF_b174o (allS SF_d179o all0)) CHo.1)
      have T_x202 := T_x202.keep K204 (ninS ne_x202_b174 (ninS ne_x202_d179 nin0)) (ninS (Ne.symm ne_b174_t202) (ninS (Ne.symm ne_d179_t202) nin0))
      have N204 := Fr.app N202 n204
      show Run p e below _ (T204.setTop (mkF m 58 #[.val (.ref a)] [(.ref b174)]))
      have lq3 : (((([] : List Int32) ++ ([97, 32, 119, 104, 111, 108, 101, 32, 110, 117, 109, 98, 101, 114, 32, 102, 114, 111, 109, 32] : List Int32)) ++ decI lo nl) ++ ((([] : List Int32) ++ ([32, 116, 111, 32] : List Int32)) ++ decI hi nh)).length ≤ 34 := by rw [List.length_append]; omega
      refine callVi X204 hx hZ hown (wd hw 146 rfl) (wd hw 147 rfl) (notFace_of_selects (args := #[]) (mvT hZ (wd hw 149 rfl))) (wd hw 149 rfl) (wd hw 148 rfl) (wd hw 150 rfl) (wd hw 25 rfl) (by decide) e204 E_b174 (argsL := []) (rest := []) (rm_ts l Z a0 hw [] zc b174 d179 kd179 (34 : Int32) (((([] : List Int32) ++ ([97, 32, 119, 104, 111, 108, 101, 32, 110, 117, 109, 98, 101, 114, 32, 102, 114, 111, 109, 32] : List Int32)) ++ decI lo nl) ++ ((([] : List Int32) ++ ([32, 116, 111, 32] : List Int32)) ++ decI hi nh)) h204 n0 O0 S_COMPACT_STRINGS hzc E_b174 F_value_b174 F_coder_b174 F_count_b174 V_d179 E_d179 g_b174 g_d179 (by show _ ≤ 34; omega) (by decide) (by decide)) (W := 0) (by decide) (by decide) (by decide) (by decide) (by rw [hml]; rfl) (lenOf pd_24 rfl) rfl (Nat.le_of_eq rfl) (hb hby d_p7_m4_58) ?_
      intro v205 T205 L205 h205 X205 e205 q205
      have lt206_a := E_a.lt
      have lt206_b174 := E_b174.lt
      have lt206_d175 := E_d175.lt
      have lt206_b177 := T_b177.1.lt
      have lt206_t177 := T_b177.2.2.2.lt
      have lt206_d179 := E_d179.lt
      have lt206_b194 := E_b194.lt
      have lt206_d195 := E_d195.lt
      have lt206_b197 := T_b197.1.lt
      have lt206_t197 := T_b197.2.2.2.lt
      have lt206_x202 := T_x202.1.lt
      have lt206_t202 := T_x202.2.2.2.lt
      obtain ⟨x205, t205, kb205, rfl, n205, K205, sx205, g_x205, sb205, g_t205, T_x205⟩ := q205
      have szq205 := K0.1
      have ne_a_t205 : a ≠ t205 := Nat.ne_of_lt (Nat.lt_of_lt_of_le lt206_a sb205)
      have ne_b174_t205 : b174 ≠ t205 := Nat.ne_of_lt (Nat.lt_of_lt_of_le lt206_b174 sb205)
      have ne_d175_t205 : d175 ≠ t205 := Nat.ne_of_lt (Nat.lt_of_lt_of_le lt206_d175 sb205)
      have ne_b177_t205 : b177 ≠ t205 := Nat.ne_of_lt (Nat.lt_of_lt_of_le lt206_b177 sb205)
      have ne_t177_t205 : t177 ≠ t205 := Nat.ne_of_lt (Nat.lt_of_lt_of_le lt206_t177 sb205)
      have ne_d179_t205 : d179 ≠ t205 := Nat.ne_of_lt (Nat.lt_of_lt_of_le lt206_d179 sb205)
      have ne_b194_t205 : b194 ≠ t205 := Nat.ne_of_lt (Nat.lt_of_lt_of_le lt206_b194 sb205)
      have ne_d195_t205 : d195 ≠ t205 := Nat.ne_of_lt (Nat.lt_of_lt_of_le lt206_d195 sb205)
      have ne_b197_t205 : b197 ≠ t205 := Nat.ne_of_lt (Nat.lt_of_lt_of_le lt206_b197 sb205)
      have ne_t197_t205 : t197 ≠ t205 := Nat.ne_of_lt (Nat.lt_of_lt_of_le lt206_t197 sb205)
      have ne_x202_t205 : x202 ≠ t205 := Nat.ne_of_lt (Nat.lt_of_lt_of_le lt206_x202 sb205)
      have ne_t202_t205 : t202 ≠ t205 := Nat.ne_of_lt (Nat.lt_of_lt_of_le lt206_t202 sb205)
      have sz_t205 : h0.size ≤ t205 := Nat.le_trans szq205 sb205
      have SF_t205 : Safe Z consts_1 T197.vm h204 t205 := Safe.new sb205
      have CHo := CH
      have SF_b174o := SF_b174
      have SF_d175o := SF_d175
      have SF_d179o := SF_d179
      have SF_b194o := SF_b194
      have SF_d195o := SF_d195
      have SF_t202o := SF_t202
      have SF_t205o := SF_t205
      have hk := Nat.le_trans hk K205.1
      have O0 := O0.keep K205 all0
      have E_a := E_a.keep K205
      have F_low_a := F_low_a.keep K205 nin0
      have F_high_a := F_high_a.keep K205 nin0
      have K0 := K0.trans K205 all0
      have SF_b174 := Safe.keep K205 all0 CHo.1 SF_b174o
      have E_b174 := E_b174.keep K205
      have SF_d175 := Safe.keep K205 all0 CHo.1 SF_d175o
      have E_d175 := E_d175.keep K205
      have T_b177 := T_b177.keep K205 nin0 nin0
      have SF_d179 := Safe.keep K205 all0 CHo.1 SF_d179o
      have E_d179 := E_d179.keep K205
      have SF_b194 := Safe.keep K205 all0 CHo.1 SF_b194o
      have E_b194 := E_b194.keep K205
      have SF_d195 := Safe.keep K205 all0 CHo.1 SF_d195o
      have E_d195 := E_d195.keep K205
      have T_b197 := T_b197.keep K205 nin0 nin0
      have F_value_b194 := F_value_b194.keep K205 nin0
      have F_coder_b194 := F_coder_b194.keep K205 nin0
      have F_count_b194 := F_count_b194.keep K205 nin0
      have V_d195 := V_d195.keep K205 nin0
      have SF_t202 := Safe.keep K205 all0 CHo.1 SF_t202o
      have T_x202 := T_x202.keep K205 nin0 nin0
      have F_value_b174 := F_value_b174.keep K205 nin0
      have F_coder_b174 := F_coder_b174.keep K205 nin0
      have F_count_b174 := F_count_b174.keep K205 nin0
      have V_d179 := V_d179.keep K205 nin0
      have SF_t205 := Safe.keep K205 all0 CHo.1 SF_t205o
      have CH := CHo.trans (CHr.keep K205 all0 CHo.1)
      have N205 := Fr.app N204 n205
      show Run p e below _ (T205.setTop (mkF m 61 #[.val (.ref a)] [(.ref x205)]))
      exact endAS X205 hx hlk hZ hEL e205 eS CH hS hk (w := (.ref x205)) hret rfl rfl (hb hby d_p7_m4_61) (by rw [e205]; exact ⟨_, _, _, rfl, N205, K0, by rw [rcs_to c184]; exact T_x205⟩) (by decide) (by decide)
    · skip
      refine callVi X202 hx hZ hown (wd hw 49 rfl) (wd hw 50 rfl) (notFace_of_selects (args := #[]) (mvT hZ (wd hw 52 rfl))) (wd hw 52 rfl) (wd hw 51 rfl) (wd hw 53 rfl) (wd hw 25 rfl) (by decide) e202 E_b174 (argsL := [(.ref x202)]) (rest := []) (rm_sa1_34 l Z a0 hw [] zc b174 d179 kd179 ((([] : List Int32) ++ ([97, 32, 119, 104, 111, 108, 101, 32, 110, 117, 109, 98, 101, 114, 32, 102, 114, 111, 109, 32] : List Int32)) ++ decI lo nl) x202 t202 kb202 ((([] : List Int32) ++ ([32, 116, 111, 32] : List Int32)) ++ decI hi nh) h202 n0 O0 S_COMPACT_STRINGS hzc E_b174 F_value_b174 F_coder_b174 F_count_b174 V_d179 E_d179 g_b174 g_d179 T_x202 ne_d179_t202 (in8_app (by unfold In8; decide) (in8_dec _ _)) (by omega) (by omega) (by omega)) (W := 0) (by decide) (by decide) (by decide) (by decide) (by rw [hml]; rfl) (lenOf pd_22 rfl) rfl (Nat.le_of_eq rfl) (hb hby d_p7_m4_55) ?_
      intro v207 T207 L207 h207 X207 e207 q207
      have ne_x202_b174 : x202 ≠ b174 := ne_exa T_x202.1 E_b174 (by decide)
      have lt208_a := E_a.lt
      have lt208_b174 := E_b174.lt
      have lt208_d175 := E_d175.lt
      have lt208_b177 := T_b177.1.lt
      have lt208_t177 := T_b177.2.2.2.lt
      have lt208_d179 := E_d179.lt
      have lt208_b194 := E_b194.lt
      have lt208_d195 := E_d195.lt
      have lt208_b197 := T_b197.1.lt
      have lt208_t197 := T_b197.2.2.2.lt
      have lt208_x202 := T_x202.1.lt
      have lt208_t202 := T_x202.2.2.2.lt
      obtain ⟨d207, kd207, rfl, n207, K207, sb207, g_d207, E_d207, F_value_b174, F_coder_b174, F_count_b174, V_d207⟩ := q207
      have szq207 := K0.1
      have ne_a_d207 : a ≠ d207 := Nat.ne_of_lt (Nat.lt_of_lt_of_le lt208_a sb207)
      have ne_b174_d207 : b174 ≠ d207 := Nat.ne_of_lt (Nat.lt_of_lt_of_le lt208_b174 sb207)
      have ne_d175_d207 : d175 ≠ d207 := Nat.ne_of_lt (Nat.lt_of_lt_of_le lt208_d175 sb207)
      have ne_b177_d207 : b177 ≠ d207 := Nat.ne_of_lt (Nat.lt_of_lt_of_le lt208_b177 sb207)
      have ne_t177_d207 : t177 ≠ d207 := Nat.ne_of_lt (Nat.lt_of_lt_of_le lt208_t177 sb207)
      have ne_d179_d207 : d179 ≠ d207 := Nat.ne_of_lt (Nat.lt_of_lt_of_le lt208_d179 sb207)
      have ne_b194_d207 : b194 ≠ d207 := Nat.ne_of_lt (Nat.lt_of_lt_of_le lt208_b194 sb207)
      have ne_d195_d207 : d195 ≠ d207 := Nat.ne_of_lt (Nat.lt_of_lt_of_le lt208_d195 sb207)
      have ne_b197_d207 : b197 ≠ d207 := Nat.ne_of_lt (Nat.lt_of_lt_of_le lt208_b197 sb207)
      have ne_t197_d207 : t197 ≠ d207 := Nat.ne_of_lt (Nat.lt_of_lt_of_le lt208_t197 sb207)
      have ne_x202_d207 : x202 ≠ d207 := Nat.ne_of_lt (Nat.lt_of_lt_of_le lt208_x202 sb207)
      have ne_t202_d207 : t202 ≠ d207 := Nat.ne_of_lt (Nat.lt_of_lt_of_le lt208_t202 sb207)
      have sz_d207 : h0.size ≤ d207 := Nat.le_trans szq207 sb207
      have SF_d207 : Safe Z consts_1 T197.vm h202 d207 := Safe.new sb207
      have CHo := CH
      have SF_b174o := SF_b174
      have SF_d175o := SF_d175
      have SF_d179o := SF_d179
      have SF_b194o := SF_b194
      have SF_d195o := SF_d195
      have SF_t202o := SF_t202
      have SF_d207o := SF_d207
      have hk := Nat.le_trans hk K207.1
      have O0 := O0.keep K207 (allS g_b174 all0)
      have E_a := E_a.keep K207
      have F_low_a := F_low_a.keep K207 (ninS ne_a_b174 nin0)
      have F_high_a := F_high_a.keep K207 (ninS ne_a_b174 nin0)
      have K0 := K0.trans K207 (allS (Or.inr sz_b174) all0)
      have SF_b174 := Safe.keep K207 (allS SF_b174o all0) CHo.1 SF_b174o
      have E_b174 := E_b174.keep K207
      have SF_d175 := Safe.keep K207 (allS SF_b174o all0) CHo.1 SF_d175o
      have E_d175 := E_d175.keep K207
      have T_b177 := T_b177.keep K207 (ninS (Ne.symm ne_b174_b177) nin0) (ninS (Ne.symm ne_b174_t177) nin0)
      have SF_d179 := Safe.keep K207 (allS SF_b174o all0) CHo.1 SF_d179o
      have E_d179 := E_d179.keep K207
      have SF_b194 := Safe.keep K207 (allS SF_b174o all0) CHo.1 SF_b194o
      have E_b194 := E_b194.keep K207
      have SF_d195 := Safe.keep K207 (allS SF_b174o all0) CHo.1 SF_d195o
      have E_d195 := E_d195.keep K207
      have T_b197 := T_b197.keep K207 (ninS (Ne.symm ne_b174_b197) nin0) (ninS (Ne.symm ne_b174_t197) nin0)
      have F_value_b194 := F_value_b194.keep K207 (ninS (Ne.symm ne_b174_b194) nin0)
      have F_coder_b194 := F_coder_b194.keep K207 (ninS (Ne.symm ne_b174_b194) nin0)
      have F_count_b194 := F_count_b194.keep K207 (ninS (Ne.symm ne_b174_b194) nin0)
      have V_d195 := V_d195.keep K207 (ninS (Ne.symm ne_b174_d195) nin0)
      have SF_t202 := Safe.keep K207 (allS SF_b174o all0) CHo.1 SF_t202o
      have T_x202 := T_x202.keep K207 (ninS ne_x202_b174 nin0) (ninS (Ne.symm ne_b174_t202) nin0)
      have SF_d207 := Safe.keep K207 (allS SF_b174o all0) CHo.1 SF_d207o
      have CH := CHo.trans (CHr.keep K207 (allS SF_b174o all0) CHo.1)
      have N207 := Fr.app N202 n207
      show Run p e below _ (T207.setTop (mkF m 58 #[.val (.ref a)] [(.ref b174)]))
      have lq3 : (((([] : List Int32) ++ ([97, 32, 119, 104, 111, 108, 101, 32, 110, 117, 109, 98, 101, 114, 32, 102, 114, 111, 109, 32] : List Int32)) ++ decI lo nl) ++ ((([] : List Int32) ++ ([32, 116, 111, 32] : List Int32)) ++ decI hi nh)).length ≤ 70 := by rw [List.length_append]; omega
      refine callVi X207 hx hZ hown (wd hw 146 rfl) (wd hw 147 rfl) (notFace_of_selects (args := #[]) (mvT hZ (wd hw 149 rfl))) (wd hw 149 rfl) (wd hw 148 rfl) (wd hw 150 rfl) (wd hw 25 rfl) (by decide) e207 E_b174 (argsL := []) (rest := []) (rm_ts l Z a0 hw [] zc b174 d207 kd207 (70 : Int32) (((([] : List Int32) ++ ([97, 32, 119, 104, 111, 108, 101, 32, 110, 117, 109, 98, 101, 114, 32, 102, 114, 111, 109, 32] : List Int32)) ++ decI lo nl) ++ ((([] : List Int32) ++ ([32, 116, 111, 32] : List Int32)) ++ decI hi nh)) h207 n0 O0 S_COMPACT_STRINGS hzc E_b174 F_value_b174 F_coder_b174 F_count_b174 V_d207 E_d207 g_b174 g_d207 (by show _ ≤ 70; omega) (by decide) (by decide)) (W := 0) (by decide) (by decide) (by decide) (by decide) (by rw [hml]; rfl) (lenOf pd_24 rfl) rfl (Nat.le_of_eq rfl) (hb hby d_p7_m4_58) ?_
      intro v209 T209 L209 h209 X209 e209 q209
      have lt210_a := E_a.lt
      have lt210_b174 := E_b174.lt
      have lt210_d175 := E_d175.lt
      have lt210_b177 := T_b177.1.lt
      have lt210_t177 := T_b177.2.2.2.lt
      have lt210_d179 := E_d179.lt
      have lt210_b194 := E_b194.lt
      have lt210_d195 := E_d195.lt
      have lt210_b197 := T_b197.1.lt
      have lt210_t197 := T_b197.2.2.2.lt
      have lt210_x202 := T_x202.1.lt
      have lt210_t202 := T_x202.2.2.2.lt
      have lt210_d207 := E_d207.lt
      obtain ⟨x209, t209, kb209, rfl, n209, K209, sx209, g_x209, sb209, g_t209, T_x209⟩ := q209
      have szq209 := K0.1
      have ne_a_t209 : a ≠ t209 := Nat.ne_of_lt (Nat.lt_of_lt_of_le lt210_a sb209)
      have ne_b174_t209 : b174 ≠ t209 := Nat.ne_of_lt (Nat.lt_of_lt_of_le lt210_b174 sb209)
      have ne_d175_t209 : d175 ≠ t209 := Nat.ne_of_lt (Nat.lt_of_lt_of_le lt210_d175 sb209)
      have ne_b177_t209 : b177 ≠ t209 := Nat.ne_of_lt (Nat.lt_of_lt_of_le lt210_b177 sb209)
      have ne_t177_t209 : t177 ≠ t209 := Nat.ne_of_lt (Nat.lt_of_lt_of_le lt210_t177 sb209)
      have ne_d179_t209 : d179 ≠ t209 := Nat.ne_of_lt (Nat.lt_of_lt_of_le lt210_d179 sb209)
      have ne_b194_t209 : b194 ≠ t209 := Nat.ne_of_lt (Nat.lt_of_lt_of_le lt210_b194 sb209)
      have ne_d195_t209 : d195 ≠ t209 := Nat.ne_of_lt (Nat.lt_of_lt_of_le lt210_d195 sb209)
      have ne_b197_t209 : b197 ≠ t209 := Nat.ne_of_lt (Nat.lt_of_lt_of_le lt210_b197 sb209)
      have ne_t197_t209 : t197 ≠ t209 := Nat.ne_of_lt (Nat.lt_of_lt_of_le lt210_t197 sb209)
      have ne_x202_t209 : x202 ≠ t209 := Nat.ne_of_lt (Nat.lt_of_lt_of_le lt210_x202 sb209)
      have ne_t202_t209 : t202 ≠ t209 := Nat.ne_of_lt (Nat.lt_of_lt_of_le lt210_t202 sb209)
      have ne_d207_t209 : d207 ≠ t209 := Nat.ne_of_lt (Nat.lt_of_lt_of_le lt210_d207 sb209)
      have sz_t209 : h0.size ≤ t209 := Nat.le_trans szq209 sb209
      have SF_t209 : Safe Z consts_1 T197.vm h207 t209 := Safe.new sb209
      have CHo := CH
      have SF_b174o := SF_b174
      have SF_d175o := SF_d175
      have SF_d179o := SF_d179
      have SF_b194o := SF_b194
      have SF_d195o := SF_d195
      have SF_t202o := SF_t202
      have SF_d207o := SF_d207
      have SF_t209o := SF_t209
      have hk := Nat.le_trans hk K209.1
      have O0 := O0.keep K209 all0
      have E_a := E_a.keep K209
      have F_low_a := F_low_a.keep K209 nin0
      have F_high_a := F_high_a.keep K209 nin0
      have K0 := K0.trans K209 all0
      have SF_b174 := Safe.keep K209 all0 CHo.1 SF_b174o
      have E_b174 := E_b174.keep K209
      have SF_d175 := Safe.keep K209 all0 CHo.1 SF_d175o
      have E_d175 := E_d175.keep K209
      have T_b177 := T_b177.keep K209 nin0 nin0
      have SF_d179 := Safe.keep K209 all0 CHo.1 SF_d179o
      have E_d179 := E_d179.keep K209
      have SF_b194 := Safe.keep K209 all0 CHo.1 SF_b194o
      have E_b194 := E_b194.keep K209
      have SF_d195 := Safe.keep K209 all0 CHo.1 SF_d195o
      have E_d195 := E_d195.keep K209
      have T_b197 := T_b197.keep K209 nin0 nin0
      have F_value_b194 := F_value_b194.keep K209 nin0
      have F_coder_b194 := F_coder_b194.keep K209 nin0
      have F_count_b194 := F_count_b194.keep K209 nin0
      have V_d195 := V_d195.keep K209 nin0
      have SF_t202 := Safe.keep K209 all0 CHo.1 SF_t202o
      have T_x202 := T_x202.keep K209 nin0 nin0
      have SF_d207 := Safe.keep K209 all0 CHo.1 SF_d207o
      have E_d207 := E_d207.keep K209
      have F_value_b174 := F_value_b174.keep K209 nin0
      have F_coder_b174 := F_coder_b174.keep K209 nin0
      have F_count_b174 := F_count_b174.keep K209 nin0
      have V_d207 := V_d207.keep K209 nin0
      have SF_t209 := Safe.keep K209 all0 CHo.1 SF_t209o
      have CH := CHo.trans (CHr.keep K209 all0 CHo.1)
      have N209 := Fr.app N207 n209
      show Run p e below _ (T209.setTop (mkF m 61 #[.val (.ref a)] [(.ref x209)]))
      exact endAS X209 hx hlk hZ hEL e209 eS CH hS hk (w := (.ref x209)) hret rfl rfl (hb hby d_p7_m4_61) (by rw [e209]; exact ⟨_, _, _, rfl, N209, K0, by rw [rcs_to c184]; exact T_x209⟩) (by decide) (by decide)
theorem d_j29_m61_0 : decode jdk_29_method_61_code 0 = .ok (.lload_n 0, 1) := by decide +kernel
theorem d_j29_m61_1 : decode jdk_29_method_61_code 1 = .ok (.lconst 0, 1) := by decide +kernel
theorem d_j29_m61_2 : decode jdk_29_method_61_code 2 = .ok (.lcmp, 1) := by decide +kernel
theorem d_j29_m61_3 : decode jdk_29_method_61_code 3 = .ok (.ifCond .ge 8, 3) := by decide +kernel
theorem d_j29_m61_6 : decode jdk_29_method_61_code 6 = .ok (.lload_n 0, 1) := by decide +kernel
theorem d_j29_m61_7 : decode jdk_29_method_61_code 7 = .ok (.lneg, 1) := by decide +kernel
theorem d_j29_m61_8 : decode jdk_29_method_61_code 8 = .ok (.goto 4, 3) := by decide +kernel
theorem d_j29_m61_12 : decode jdk_29_method_61_code 12 = .ok (.lreturn, 1) := by decide +kernel
theorem d_j29_m61_11 : decode jdk_29_method_61_code 11 = .ok (.lload_n 0, 1) := by decide +kernel
theorem pn_11 : plainFor (⟨"java/lang/Math", "abs", "(J)J"⟩ : MethodName) = true := by decide +kernel
def Q_rm_abs (l1 : Int64) (h0 : Heap) (n0 : Nat) (v : Option Value) (h : Heap) (L : List Loc) : Prop := v = some (.long (if lcmpW l1 (0 : Int64) < 0 then (-l1) else l1)) ∧ Fr n0 L ∧ h = h0
set_option maxRecDepth 65536 in
set_option maxHeartbeats 40000000 in
theorem rm_abs (l : Launch) (Z : State) (a0 : Array Value) (hw : ∀ d ∈ tables_1, d.before a0 Z = true) (ws : List Jvm.Cond) (l1 : Int64) (h0 : Heap) (n0 : Nat) (O0 : Old Z n0 h0)  :
    Meets l (⟨"java/lang/Math", "abs", "(J)J"⟩ : MethodName) jdk_29_method_61_code 2 (some .long) ws ({ frames := 0, cells := 0, slots := 0, locals := 0 } : Room) Z #[(.long l1)] h0 (Q_rm_abs l1 h0 n0) 0 0 := by
  refine enter (Ls := #[.val (.long l1), .second]) pn_11 (fun m => by first | (simp [entryFrame, mkF, argsToLocals, Value.category]; done) | rfl) ?_
  intro p e s m below meth c T0 hx hby hml hown hnm hret hlk hZ X0 e0
  have N0 := Fr.nil n0
  replace hown : s.vm.findClass "java/lang/Math" = some m.cls := hown
  show Run p e below _ (T0.setTop (mkF m 0 #[.val (.long l1), .second] []))
  refine go (fun _ => XS.lloadN X0.here hx rfl (hb hby d_j29_m61_0) rfl) ?_
  show Run p e below _ (T0.setTop (mkF m 1 #[.val (.long l1), .second] [(.long l1)]))
  refine go (fun _ => XS.lconst X0.here hx rfl (hb hby d_j29_m61_1)) ?_
  show Run p e below _ (T0.setTop (mkF m 2 #[.val (.long l1), .second] [(.long (0 : Int64)), (.long l1)]))
  refine go (fun _ => XS.lcmp X0.here hx rfl (hb hby d_j29_m61_2) rfl) ?_
  show Run p e below _ (T0.setTop (mkF m 3 #[.val (.long l1), .second] [(.int (lcmpW l1 (0 : Int64)))]))
  by_cases c211 : (lcmpW l1 (0 : Int64)) < 0
  · skip
    refine go (fun _ => XS.ifNo X0.here hx rfl (hb hby d_j29_m61_3) rfl ((if0 _ _).trans (tlt c211).2.1)) ?_
    show Run p e below _ (T0.setTop (mkF m 6 #[.val (.long l1), .second] []))
    refine go (fun _ => XS.lloadN X0.here hx rfl (hb hby d_j29_m61_6) rfl) ?_
    show Run p e below _ (T0.setTop (mkF m 7 #[.val (.long l1), .second] [(.long l1)]))
    refine go (fun _ => XS.lneg X0.here hx rfl (hb hby d_j29_m61_7) rfl) ?_
    show Run p e below _ (T0.setTop (mkF m 8 #[.val (.long l1), .second] [(.long (-l1))]))
    refine go (fun _ => XS.goto X0.here hx rfl (pc0 := 8) (pc' := 12) rfl (hb hby d_j29_m61_8) (by decide) (by decide)) ?_
    show Run p e below _ (T0.setTop (mkF m 12 #[.val (.long l1), .second] [(.long (-l1))]))
    exact endJ X0 hx hlk hret (hb hby d_j29_m61_12) (⟨by rw [if_pos c211], N0, e0⟩) (by decide) (by decide)
  · skip
    refine go (fun _ => XS.ifYes X0.here hx rfl (pc0 := 3) (pc' := 11) rfl (hb hby d_j29_m61_3) rfl ((if0 _ _).trans (flt c211).2.1) (by decide) (by decide)) ?_
    show Run p e below _ (T0.setTop (mkF m 11 #[.val (.long l1), .second] []))
    refine go (fun _ => XS.lloadN X0.here hx rfl (hb hby d_j29_m61_11) rfl) ?_
    show Run p e below _ (T0.setTop (mkF m 12 #[.val (.long l1), .second] [(.long l1)]))
    exact endJ X0 hx hlk hret (hb hby d_j29_m61_12) (⟨by rw [if_neg c211], N0, e0⟩) (by decide) (by decide)
theorem d_m3_0 : decode method_3_code 0 = .ok (.lload_n 0, 1) := by decide +kernel
theorem d_m3_1 : decode method_3_code 1 = .ok (.ldc2_w 45, 3) := by decide +kernel
theorem d_m3_4 : decode method_3_code 4 = .ok (.lcmp, 1) := by decide +kernel
theorem d_m3_5 : decode method_3_code 5 = .ok (.ifCond .ge 5, 3) := by decide +kernel
theorem d_m3_8 : decode method_3_code 8 = .ok (.iconst 1, 1) := by decide +kernel
theorem d_m3_9 : decode method_3_code 9 = .ok (.ireturn, 1) := by decide +kernel
theorem d_m3_10 : decode method_3_code 10 = .ok (.lload_n 0, 1) := by decide +kernel
theorem d_m3_11 : decode method_3_code 11 = .ok (.ldc2_w 47, 3) := by decide +kernel
theorem d_m3_14 : decode method_3_code 14 = .ok (.lcmp, 1) := by decide +kernel
theorem d_m3_15 : decode method_3_code 15 = .ok (.ifCond .ge 5, 3) := by decide +kernel
theorem d_m3_18 : decode method_3_code 18 = .ok (.iconst 2, 1) := by decide +kernel
theorem d_m3_19 : decode method_3_code 19 = .ok (.ireturn, 1) := by decide +kernel
theorem d_m3_20 : decode method_3_code 20 = .ok (.lload_n 0, 1) := by decide +kernel
theorem d_m3_21 : decode method_3_code 21 = .ok (.ldc2_w 49, 3) := by decide +kernel
theorem d_m3_24 : decode method_3_code 24 = .ok (.lcmp, 1) := by decide +kernel
theorem d_m3_25 : decode method_3_code 25 = .ok (.ifCond .ge 5, 3) := by decide +kernel
theorem d_m3_28 : decode method_3_code 28 = .ok (.iconst 3, 1) := by decide +kernel
theorem d_m3_29 : decode method_3_code 29 = .ok (.ireturn, 1) := by decide +kernel
theorem d_m3_30 : decode method_3_code 30 = .ok (.lload_n 0, 1) := by decide +kernel
theorem d_m3_31 : decode method_3_code 31 = .ok (.ldc2_w 51, 3) := by decide +kernel
theorem d_m3_34 : decode method_3_code 34 = .ok (.lcmp, 1) := by decide +kernel
theorem d_m3_35 : decode method_3_code 35 = .ok (.ifCond .ge 5, 3) := by decide +kernel
theorem d_m3_38 : decode method_3_code 38 = .ok (.iconst 4, 1) := by decide +kernel
theorem d_m3_39 : decode method_3_code 39 = .ok (.ireturn, 1) := by decide +kernel
theorem d_m3_40 : decode method_3_code 40 = .ok (.lload_n 0, 1) := by decide +kernel
theorem d_m3_41 : decode method_3_code 41 = .ok (.ldc2_w 53, 3) := by decide +kernel
theorem d_m3_44 : decode method_3_code 44 = .ok (.lcmp, 1) := by decide +kernel
theorem d_m3_45 : decode method_3_code 45 = .ok (.ifCond .ge 5, 3) := by decide +kernel
theorem d_m3_48 : decode method_3_code 48 = .ok (.iconst 5, 1) := by decide +kernel
theorem d_m3_49 : decode method_3_code 49 = .ok (.ireturn, 1) := by decide +kernel
theorem d_m3_50 : decode method_3_code 50 = .ok (.lload_n 0, 1) := by decide +kernel
theorem d_m3_51 : decode method_3_code 51 = .ok (.ldc2_w 55, 3) := by decide +kernel
theorem d_m3_54 : decode method_3_code 54 = .ok (.lcmp, 1) := by decide +kernel
theorem d_m3_55 : decode method_3_code 55 = .ok (.ifCond .ge 6, 3) := by decide +kernel
theorem d_m3_58 : decode method_3_code 58 = .ok (.bipush 6, 2) := by decide +kernel
theorem d_m3_60 : decode method_3_code 60 = .ok (.ireturn, 1) := by decide +kernel
theorem d_m3_61 : decode method_3_code 61 = .ok (.lload_n 0, 1) := by decide +kernel
theorem d_m3_62 : decode method_3_code 62 = .ok (.ldc2_w 57, 3) := by decide +kernel
theorem d_m3_65 : decode method_3_code 65 = .ok (.lcmp, 1) := by decide +kernel
theorem d_m3_66 : decode method_3_code 66 = .ok (.ifCond .ge 6, 3) := by decide +kernel
theorem d_m3_69 : decode method_3_code 69 = .ok (.bipush 7, 2) := by decide +kernel
theorem d_m3_71 : decode method_3_code 71 = .ok (.ireturn, 1) := by decide +kernel
theorem d_m3_72 : decode method_3_code 72 = .ok (.lload_n 0, 1) := by decide +kernel
theorem d_m3_73 : decode method_3_code 73 = .ok (.ldc2_w 59, 3) := by decide +kernel
theorem d_m3_76 : decode method_3_code 76 = .ok (.lcmp, 1) := by decide +kernel
theorem d_m3_77 : decode method_3_code 77 = .ok (.ifCond .ge 6, 3) := by decide +kernel
theorem d_m3_80 : decode method_3_code 80 = .ok (.bipush 8, 2) := by decide +kernel
theorem d_m3_82 : decode method_3_code 82 = .ok (.ireturn, 1) := by decide +kernel
theorem d_m3_83 : decode method_3_code 83 = .ok (.lload_n 0, 1) := by decide +kernel
theorem d_m3_84 : decode method_3_code 84 = .ok (.ldc2_w 61, 3) := by decide +kernel
theorem d_m3_87 : decode method_3_code 87 = .ok (.lcmp, 1) := by decide +kernel
theorem d_m3_88 : decode method_3_code 88 = .ok (.ifCond .ge 6, 3) := by decide +kernel
theorem d_m3_91 : decode method_3_code 91 = .ok (.bipush 9, 2) := by decide +kernel
theorem d_m3_93 : decode method_3_code 93 = .ok (.ireturn, 1) := by decide +kernel
theorem d_m3_94 : decode method_3_code 94 = .ok (.bipush 10, 2) := by decide +kernel
theorem d_m3_96 : decode method_3_code 96 = .ok (.ireturn, 1) := by decide +kernel
theorem pn_12 : plainName "com/example/visit_by_value/visitbyvalue/cli/WholeNumberRangePinLaw" = true := by first | (simp [plainName, overriddenIn]; done) | decide +kernel
def Q_rm_nd (n : Nat) (h0 : Heap) (n0 : Nat) (v : Option Value) (h : Heap) (L : List Loc) : Prop := v = some (.int (Int32.ofNat (SBG.digits n))) ∧ Fr n0 L ∧ h = h0
set_option maxRecDepth 65536 in
set_option maxHeartbeats 40000000 in
theorem rm_nd (l : Launch) (Z : State) (a0 : Array Value) (hw : ∀ d ∈ tables_1, d.before a0 Z = true) (ws : List Jvm.Cond) (n : Nat) (h0 : Heap) (n0 : Nat) (O0 : Old Z n0 h0) (hn : n ≤ 2 ^ 31) :
    Meets l (⟨"com/example/visit_by_value/visitbyvalue/cli/WholeNumberRangePinLaw", "ndig", "(J)I"⟩ : MethodName) method_3_code 2 (some .int) ws ({ frames := 0, cells := 0, slots := 0, locals := 0 } : Room) Z #[(.long (Int64.ofNat n))] h0 (Q_rm_nd n h0 n0) 0 0 := by
  refine enter (Ls := #[.val (.long (Int64.ofNat n)), .second]) (plainFor_of_name pn_12) (fun m => by first | (simp [entryFrame, mkF, argsToLocals, Value.category]; done) | rfl) ?_
  intro p e s m below meth c T0 hx hby hml hown hnm hret hlk hZ X0 e0
  have N0 := Fr.nil n0
  replace hown : s.vm.findClass "com/example/visit_by_value/visitbyvalue/cli/WholeNumberRangePinLaw" = some m.cls := hown
  show Run p e below _ (T0.setTop (mkF m 0 #[.val (.long (Int64.ofNat n)), .second] []))
  refine go (fun _ => XS.lloadN X0.here hx rfl (hb hby d_m3_0) rfl) ?_
  show Run p e below _ (T0.setTop (mkF m 1 #[.val (.long (Int64.ofNat n)), .second] [(.long (Int64.ofNat n))]))
  refine go (fun _ => X0.ldc2J hx hown (mvT hZ (wd hw 193 rfl)) rfl (hb hby d_m3_1)) ?_
  show Run p e below _ (T0.setTop (mkF m 4 #[.val (.long (Int64.ofNat n)), .second] [(.long (10 : Int64)), (.long (Int64.ofNat n))]))
  refine go (fun _ => XS.lcmp X0.here hx rfl (hb hby d_m3_4) rfl) ?_
  show Run p e below _ (T0.setTop (mkF m 5 #[.val (.long (Int64.ofNat n)), .second] [(.int (lcmpW (Int64.ofNat n) (10 : Int64)))]))
  by_cases c212 : (lcmpW (Int64.ofNat n) (10 : Int64)) < 0
  · skip
    refine go (fun _ => XS.ifNo X0.here hx rfl (hb hby d_m3_5) rfl ((if0 _ _).trans (tlt c212).2.1)) ?_
    show Run p e below _ (T0.setTop (mkF m 8 #[.val (.long (Int64.ofNat n)), .second] []))
    refine go (fun _ => XS.iconst X0.here hx rfl (hb hby d_m3_8)) ?_
    show Run p e below _ (T0.setTop (mkF m 9 #[.val (.long (Int64.ofNat n)), .second] [(.int (1 : Int32))]))
    exact endI X0 hx hlk hret (hb hby d_m3_9) (⟨by unfold SBG.digits; rw [if_pos ((own_lw hn (k := 10) (by decide)).mp c212)]; rfl, N0, e0⟩) (by decide) (by decide)
  · skip
    refine go (fun _ => XS.ifYes X0.here hx rfl (pc0 := 5) (pc' := 10) rfl (hb hby d_m3_5) rfl ((if0 _ _).trans (flt c212).2.1) (by decide) (by decide)) ?_
    show Run p e below _ (T0.setTop (mkF m 10 #[.val (.long (Int64.ofNat n)), .second] []))
    refine go (fun _ => XS.lloadN X0.here hx rfl (hb hby d_m3_10) rfl) ?_
    show Run p e below _ (T0.setTop (mkF m 11 #[.val (.long (Int64.ofNat n)), .second] [(.long (Int64.ofNat n))]))
    refine go (fun _ => X0.ldc2J hx hown (mvT hZ (wd hw 235 rfl)) rfl (hb hby d_m3_11)) ?_
    show Run p e below _ (T0.setTop (mkF m 14 #[.val (.long (Int64.ofNat n)), .second] [(.long (100 : Int64)), (.long (Int64.ofNat n))]))
    refine go (fun _ => XS.lcmp X0.here hx rfl (hb hby d_m3_14) rfl) ?_
    show Run p e below _ (T0.setTop (mkF m 15 #[.val (.long (Int64.ofNat n)), .second] [(.int (lcmpW (Int64.ofNat n) (100 : Int64)))]))
    by_cases c213 : (lcmpW (Int64.ofNat n) (100 : Int64)) < 0
    · skip
      refine go (fun _ => XS.ifNo X0.here hx rfl (hb hby d_m3_15) rfl ((if0 _ _).trans (tlt c213).2.1)) ?_
      show Run p e below _ (T0.setTop (mkF m 18 #[.val (.long (Int64.ofNat n)), .second] []))
      refine go (fun _ => XS.iconst X0.here hx rfl (hb hby d_m3_18)) ?_
      show Run p e below _ (T0.setTop (mkF m 19 #[.val (.long (Int64.ofNat n)), .second] [(.int (2 : Int32))]))
      exact endI X0 hx hlk hret (hb hby d_m3_19) (⟨by unfold SBG.digits; rw [if_neg (mt (own_lw hn (k := 10) (by decide)).mpr c212), if_pos ((own_lw hn (k := 100) (by decide)).mp c213)]; rfl, N0, e0⟩) (by decide) (by decide)
    · skip
      refine go (fun _ => XS.ifYes X0.here hx rfl (pc0 := 15) (pc' := 20) rfl (hb hby d_m3_15) rfl ((if0 _ _).trans (flt c213).2.1) (by decide) (by decide)) ?_
      show Run p e below _ (T0.setTop (mkF m 20 #[.val (.long (Int64.ofNat n)), .second] []))
      refine go (fun _ => XS.lloadN X0.here hx rfl (hb hby d_m3_20) rfl) ?_
      show Run p e below _ (T0.setTop (mkF m 21 #[.val (.long (Int64.ofNat n)), .second] [(.long (Int64.ofNat n))]))
      refine go (fun _ => X0.ldc2J hx hown (mvT hZ (wd hw 236 rfl)) rfl (hb hby d_m3_21)) ?_
      show Run p e below _ (T0.setTop (mkF m 24 #[.val (.long (Int64.ofNat n)), .second] [(.long (1000 : Int64)), (.long (Int64.ofNat n))]))
      refine go (fun _ => XS.lcmp X0.here hx rfl (hb hby d_m3_24) rfl) ?_
      show Run p e below _ (T0.setTop (mkF m 25 #[.val (.long (Int64.ofNat n)), .second] [(.int (lcmpW (Int64.ofNat n) (1000 : Int64)))]))
      by_cases c214 : (lcmpW (Int64.ofNat n) (1000 : Int64)) < 0
      · skip
        refine go (fun _ => XS.ifNo X0.here hx rfl (hb hby d_m3_25) rfl ((if0 _ _).trans (tlt c214).2.1)) ?_
        show Run p e below _ (T0.setTop (mkF m 28 #[.val (.long (Int64.ofNat n)), .second] []))
        refine go (fun _ => XS.iconst X0.here hx rfl (hb hby d_m3_28)) ?_
        show Run p e below _ (T0.setTop (mkF m 29 #[.val (.long (Int64.ofNat n)), .second] [(.int (3 : Int32))]))
        exact endI X0 hx hlk hret (hb hby d_m3_29) (⟨by unfold SBG.digits; rw [if_neg (mt (own_lw hn (k := 10) (by decide)).mpr c212), if_neg (mt (own_lw hn (k := 100) (by decide)).mpr c213), if_pos ((own_lw hn (k := 1000) (by decide)).mp c214)]; rfl, N0, e0⟩) (by decide) (by decide)
      · skip
        refine go (fun _ => XS.ifYes X0.here hx rfl (pc0 := 25) (pc' := 30) rfl (hb hby d_m3_25) rfl ((if0 _ _).trans (flt c214).2.1) (by decide) (by decide)) ?_
        show Run p e below _ (T0.setTop (mkF m 30 #[.val (.long (Int64.ofNat n)), .second] []))
        refine go (fun _ => XS.lloadN X0.here hx rfl (hb hby d_m3_30) rfl) ?_
        show Run p e below _ (T0.setTop (mkF m 31 #[.val (.long (Int64.ofNat n)), .second] [(.long (Int64.ofNat n))]))
        refine go (fun _ => X0.ldc2J hx hown (mvT hZ (wd hw 237 rfl)) rfl (hb hby d_m3_31)) ?_
        show Run p e below _ (T0.setTop (mkF m 34 #[.val (.long (Int64.ofNat n)), .second] [(.long (10000 : Int64)), (.long (Int64.ofNat n))]))
        refine go (fun _ => XS.lcmp X0.here hx rfl (hb hby d_m3_34) rfl) ?_
        show Run p e below _ (T0.setTop (mkF m 35 #[.val (.long (Int64.ofNat n)), .second] [(.int (lcmpW (Int64.ofNat n) (10000 : Int64)))]))
        by_cases c215 : (lcmpW (Int64.ofNat n) (10000 : Int64)) < 0
        · skip
          refine go (fun _ => XS.ifNo X0.here hx rfl (hb hby d_m3_35) rfl ((if0 _ _).trans (tlt c215).2.1)) ?_
          show Run p e below _ (T0.setTop (mkF m 38 #[.val (.long (Int64.ofNat n)), .second] []))
          refine go (fun _ => XS.iconst X0.here hx rfl (hb hby d_m3_38)) ?_
          show Run p e below _ (T0.setTop (mkF m 39 #[.val (.long (Int64.ofNat n)), .second] [(.int (4 : Int32))]))
          exact endI X0 hx hlk hret (hb hby d_m3_39) (⟨by unfold SBG.digits; rw [if_neg (mt (own_lw hn (k := 10) (by decide)).mpr c212), if_neg (mt (own_lw hn (k := 100) (by decide)).mpr c213), if_neg (mt (own_lw hn (k := 1000) (by decide)).mpr c214), if_pos ((own_lw hn (k := 10000) (by decide)).mp c215)]; rfl, N0, e0⟩) (by decide) (by decide)
        · skip
          refine go (fun _ => XS.ifYes X0.here hx rfl (pc0 := 35) (pc' := 40) rfl (hb hby d_m3_35) rfl ((if0 _ _).trans (flt c215).2.1) (by decide) (by decide)) ?_
          show Run p e below _ (T0.setTop (mkF m 40 #[.val (.long (Int64.ofNat n)), .second] []))
          refine go (fun _ => XS.lloadN X0.here hx rfl (hb hby d_m3_40) rfl) ?_
          show Run p e below _ (T0.setTop (mkF m 41 #[.val (.long (Int64.ofNat n)), .second] [(.long (Int64.ofNat n))]))
          refine go (fun _ => X0.ldc2J hx hown (mvT hZ (wd hw 238 rfl)) rfl (hb hby d_m3_41)) ?_
          show Run p e below _ (T0.setTop (mkF m 44 #[.val (.long (Int64.ofNat n)), .second] [(.long (100000 : Int64)), (.long (Int64.ofNat n))]))
          refine go (fun _ => XS.lcmp X0.here hx rfl (hb hby d_m3_44) rfl) ?_
          show Run p e below _ (T0.setTop (mkF m 45 #[.val (.long (Int64.ofNat n)), .second] [(.int (lcmpW (Int64.ofNat n) (100000 : Int64)))]))
          by_cases c216 : (lcmpW (Int64.ofNat n) (100000 : Int64)) < 0
          · skip
            refine go (fun _ => XS.ifNo X0.here hx rfl (hb hby d_m3_45) rfl ((if0 _ _).trans (tlt c216).2.1)) ?_
            show Run p e below _ (T0.setTop (mkF m 48 #[.val (.long (Int64.ofNat n)), .second] []))
            refine go (fun _ => XS.iconst X0.here hx rfl (hb hby d_m3_48)) ?_
            show Run p e below _ (T0.setTop (mkF m 49 #[.val (.long (Int64.ofNat n)), .second] [(.int (5 : Int32))]))
            exact endI X0 hx hlk hret (hb hby d_m3_49) (⟨by unfold SBG.digits; rw [if_neg (mt (own_lw hn (k := 10) (by decide)).mpr c212), if_neg (mt (own_lw hn (k := 100) (by decide)).mpr c213), if_neg (mt (own_lw hn (k := 1000) (by decide)).mpr c214), if_neg (mt (own_lw hn (k := 10000) (by decide)).mpr c215), if_pos ((own_lw hn (k := 100000) (by decide)).mp c216)]; rfl, N0, e0⟩) (by decide) (by decide)
          · skip
            refine go (fun _ => XS.ifYes X0.here hx rfl (pc0 := 45) (pc' := 50) rfl (hb hby d_m3_45) rfl ((if0 _ _).trans (flt c216).2.1) (by decide) (by decide)) ?_
            show Run p e below _ (T0.setTop (mkF m 50 #[.val (.long (Int64.ofNat n)), .second] []))
            refine go (fun _ => XS.lloadN X0.here hx rfl (hb hby d_m3_50) rfl) ?_
            show Run p e below _ (T0.setTop (mkF m 51 #[.val (.long (Int64.ofNat n)), .second] [(.long (Int64.ofNat n))]))
            refine go (fun _ => X0.ldc2J hx hown (mvT hZ (wd hw 239 rfl)) rfl (hb hby d_m3_51)) ?_
            show Run p e below _ (T0.setTop (mkF m 54 #[.val (.long (Int64.ofNat n)), .second] [(.long (1000000 : Int64)), (.long (Int64.ofNat n))]))
            refine go (fun _ => XS.lcmp X0.here hx rfl (hb hby d_m3_54) rfl) ?_
            show Run p e below _ (T0.setTop (mkF m 55 #[.val (.long (Int64.ofNat n)), .second] [(.int (lcmpW (Int64.ofNat n) (1000000 : Int64)))]))
            by_cases c217 : (lcmpW (Int64.ofNat n) (1000000 : Int64)) < 0
            · skip
              refine go (fun _ => XS.ifNo X0.here hx rfl (hb hby d_m3_55) rfl ((if0 _ _).trans (tlt c217).2.1)) ?_
              show Run p e below _ (T0.setTop (mkF m 58 #[.val (.long (Int64.ofNat n)), .second] []))
              refine go (fun _ => XS.bipush X0.here hx rfl (hb hby d_m3_58)) ?_
              show Run p e below _ (T0.setTop (mkF m 60 #[.val (.long (Int64.ofNat n)), .second] [(.int (6 : Int32))]))
              exact endI X0 hx hlk hret (hb hby d_m3_60) (⟨by unfold SBG.digits; rw [if_neg (mt (own_lw hn (k := 10) (by decide)).mpr c212), if_neg (mt (own_lw hn (k := 100) (by decide)).mpr c213), if_neg (mt (own_lw hn (k := 1000) (by decide)).mpr c214), if_neg (mt (own_lw hn (k := 10000) (by decide)).mpr c215), if_neg (mt (own_lw hn (k := 100000) (by decide)).mpr c216), if_pos ((own_lw hn (k := 1000000) (by decide)).mp c217)]; rfl, N0, e0⟩) (by decide) (by decide)
            · skip
              refine go (fun _ => XS.ifYes X0.here hx rfl (pc0 := 55) (pc' := 61) rfl (hb hby d_m3_55) rfl ((if0 _ _).trans (flt c217).2.1) (by decide) (by decide)) ?_
              show Run p e below _ (T0.setTop (mkF m 61 #[.val (.long (Int64.ofNat n)), .second] []))
              refine go (fun _ => XS.lloadN X0.here hx rfl (hb hby d_m3_61) rfl) ?_
              show Run p e below _ (T0.setTop (mkF m 62 #[.val (.long (Int64.ofNat n)), .second] [(.long (Int64.ofNat n))]))
              refine go (fun _ => X0.ldc2J hx hown (mvT hZ (wd hw 240 rfl)) rfl (hb hby d_m3_62)) ?_
              show Run p e below _ (T0.setTop (mkF m 65 #[.val (.long (Int64.ofNat n)), .second] [(.long (10000000 : Int64)), (.long (Int64.ofNat n))]))
              refine go (fun _ => XS.lcmp X0.here hx rfl (hb hby d_m3_65) rfl) ?_
              show Run p e below _ (T0.setTop (mkF m 66 #[.val (.long (Int64.ofNat n)), .second] [(.int (lcmpW (Int64.ofNat n) (10000000 : Int64)))]))
              by_cases c218 : (lcmpW (Int64.ofNat n) (10000000 : Int64)) < 0
              · skip
                refine go (fun _ => XS.ifNo X0.here hx rfl (hb hby d_m3_66) rfl ((if0 _ _).trans (tlt c218).2.1)) ?_
                show Run p e below _ (T0.setTop (mkF m 69 #[.val (.long (Int64.ofNat n)), .second] []))
                refine go (fun _ => XS.bipush X0.here hx rfl (hb hby d_m3_69)) ?_
                show Run p e below _ (T0.setTop (mkF m 71 #[.val (.long (Int64.ofNat n)), .second] [(.int (7 : Int32))]))
                exact endI X0 hx hlk hret (hb hby d_m3_71) (⟨by unfold SBG.digits; rw [if_neg (mt (own_lw hn (k := 10) (by decide)).mpr c212), if_neg (mt (own_lw hn (k := 100) (by decide)).mpr c213), if_neg (mt (own_lw hn (k := 1000) (by decide)).mpr c214), if_neg (mt (own_lw hn (k := 10000) (by decide)).mpr c215), if_neg (mt (own_lw hn (k := 100000) (by decide)).mpr c216), if_neg (mt (own_lw hn (k := 1000000) (by decide)).mpr c217), if_pos ((own_lw hn (k := 10000000) (by decide)).mp c218)]; rfl, N0, e0⟩) (by decide) (by decide)
              · skip
                refine go (fun _ => XS.ifYes X0.here hx rfl (pc0 := 66) (pc' := 72) rfl (hb hby d_m3_66) rfl ((if0 _ _).trans (flt c218).2.1) (by decide) (by decide)) ?_
                show Run p e below _ (T0.setTop (mkF m 72 #[.val (.long (Int64.ofNat n)), .second] []))
                refine go (fun _ => XS.lloadN X0.here hx rfl (hb hby d_m3_72) rfl) ?_
                show Run p e below _ (T0.setTop (mkF m 73 #[.val (.long (Int64.ofNat n)), .second] [(.long (Int64.ofNat n))]))
                refine go (fun _ => X0.ldc2J hx hown (mvT hZ (wd hw 241 rfl)) rfl (hb hby d_m3_73)) ?_
                show Run p e below _ (T0.setTop (mkF m 76 #[.val (.long (Int64.ofNat n)), .second] [(.long (100000000 : Int64)), (.long (Int64.ofNat n))]))
                refine go (fun _ => XS.lcmp X0.here hx rfl (hb hby d_m3_76) rfl) ?_
                show Run p e below _ (T0.setTop (mkF m 77 #[.val (.long (Int64.ofNat n)), .second] [(.int (lcmpW (Int64.ofNat n) (100000000 : Int64)))]))
                by_cases c219 : (lcmpW (Int64.ofNat n) (100000000 : Int64)) < 0
                · skip
                  refine go (fun _ => XS.ifNo X0.here hx rfl (hb hby d_m3_77) rfl ((if0 _ _).trans (tlt c219).2.1)) ?_
                  show Run p e below _ (T0.setTop (mkF m 80 #[.val (.long (Int64.ofNat n)), .second] []))
                  refine go (fun _ => XS.bipush X0.here hx rfl (hb hby d_m3_80)) ?_
                  show Run p e below _ (T0.setTop (mkF m 82 #[.val (.long (Int64.ofNat n)), .second] [(.int (8 : Int32))]))
                  exact endI X0 hx hlk hret (hb hby d_m3_82) (⟨by unfold SBG.digits; rw [if_neg (mt (own_lw hn (k := 10) (by decide)).mpr c212), if_neg (mt (own_lw hn (k := 100) (by decide)).mpr c213), if_neg (mt (own_lw hn (k := 1000) (by decide)).mpr c214), if_neg (mt (own_lw hn (k := 10000) (by decide)).mpr c215), if_neg (mt (own_lw hn (k := 100000) (by decide)).mpr c216), if_neg (mt (own_lw hn (k := 1000000) (by decide)).mpr c217), if_neg (mt (own_lw hn (k := 10000000) (by decide)).mpr c218), if_pos ((own_lw hn (k := 100000000) (by decide)).mp c219)]; rfl, N0, e0⟩) (by decide) (by decide)
                · skip
                  refine go (fun _ => XS.ifYes X0.here hx rfl (pc0 := 77) (pc' := 83) rfl (hb hby d_m3_77) rfl ((if0 _ _).trans (flt c219).2.1) (by decide) (by decide)) ?_
                  show Run p e below _ (T0.setTop (mkF m 83 #[.val (.long (Int64.ofNat n)), .second] []))
                  refine go (fun _ => XS.lloadN X0.here hx rfl (hb hby d_m3_83) rfl) ?_
                  show Run p e below _ (T0.setTop (mkF m 84 #[.val (.long (Int64.ofNat n)), .second] [(.long (Int64.ofNat n))]))
                  refine go (fun _ => X0.ldc2J hx hown (mvT hZ (wd hw 242 rfl)) rfl (hb hby d_m3_84)) ?_
                  show Run p e below _ (T0.setTop (mkF m 87 #[.val (.long (Int64.ofNat n)), .second] [(.long (1000000000 : Int64)), (.long (Int64.ofNat n))]))
                  refine go (fun _ => XS.lcmp X0.here hx rfl (hb hby d_m3_87) rfl) ?_
                  show Run p e below _ (T0.setTop (mkF m 88 #[.val (.long (Int64.ofNat n)), .second] [(.int (lcmpW (Int64.ofNat n) (1000000000 : Int64)))]))
                  by_cases c220 : (lcmpW (Int64.ofNat n) (1000000000 : Int64)) < 0
                  · skip
                    refine go (fun _ => XS.ifNo X0.here hx rfl (hb hby d_m3_88) rfl ((if0 _ _).trans (tlt c220).2.1)) ?_
                    show Run p e below _ (T0.setTop (mkF m 91 #[.val (.long (Int64.ofNat n)), .second] []))
                    refine go (fun _ => XS.bipush X0.here hx rfl (hb hby d_m3_91)) ?_
                    show Run p e below _ (T0.setTop (mkF m 93 #[.val (.long (Int64.ofNat n)), .second] [(.int (9 : Int32))]))
                    exact endI X0 hx hlk hret (hb hby d_m3_93) (⟨by unfold SBG.digits; rw [if_neg (mt (own_lw hn (k := 10) (by decide)).mpr c212), if_neg (mt (own_lw hn (k := 100) (by decide)).mpr c213), if_neg (mt (own_lw hn (k := 1000) (by decide)).mpr c214), if_neg (mt (own_lw hn (k := 10000) (by decide)).mpr c215), if_neg (mt (own_lw hn (k := 100000) (by decide)).mpr c216), if_neg (mt (own_lw hn (k := 1000000) (by decide)).mpr c217), if_neg (mt (own_lw hn (k := 10000000) (by decide)).mpr c218), if_neg (mt (own_lw hn (k := 100000000) (by decide)).mpr c219), if_pos ((own_lw hn (k := 1000000000) (by decide)).mp c220)]; rfl, N0, e0⟩) (by decide) (by decide)
                  · skip
                    refine go (fun _ => XS.ifYes X0.here hx rfl (pc0 := 88) (pc' := 94) rfl (hb hby d_m3_88) rfl ((if0 _ _).trans (flt c220).2.1) (by decide) (by decide)) ?_
                    show Run p e below _ (T0.setTop (mkF m 94 #[.val (.long (Int64.ofNat n)), .second] []))
                    refine go (fun _ => XS.bipush X0.here hx rfl (hb hby d_m3_94)) ?_
                    show Run p e below _ (T0.setTop (mkF m 96 #[.val (.long (Int64.ofNat n)), .second] [(.int (10 : Int32))]))
                    exact endI X0 hx hlk hret (hb hby d_m3_96) (⟨by unfold SBG.digits; rw [if_neg (mt (own_lw hn (k := 10) (by decide)).mpr c212), if_neg (mt (own_lw hn (k := 100) (by decide)).mpr c213), if_neg (mt (own_lw hn (k := 1000) (by decide)).mpr c214), if_neg (mt (own_lw hn (k := 10000) (by decide)).mpr c215), if_neg (mt (own_lw hn (k := 100000) (by decide)).mpr c216), if_neg (mt (own_lw hn (k := 1000000) (by decide)).mpr c217), if_neg (mt (own_lw hn (k := 10000000) (by decide)).mpr c218), if_neg (mt (own_lw hn (k := 100000000) (by decide)).mpr c219), if_neg (mt (own_lw hn (k := 1000000000) (by decide)).mpr c220)]; rfl, N0, e0⟩) (by decide) (by decide)
theorem d_m4_0 : decode method_4_code 0 = .ok (.iload_n 0, 1) := by decide +kernel
theorem d_m4_1 : decode method_4_code 1 = .ok (.i2l, 1) := by decide +kernel
theorem d_m4_2 : decode method_4_code 2 = .ok (.invokestatic 63, 3) := by decide +kernel
theorem pd_25 : parseMethodDescriptor "(J)J" = some ⟨[.long], some .long⟩ := by decide +kernel
theorem d_m4_5 : decode method_4_code 5 = .ok (.lstore_n 1, 1) := by decide +kernel
theorem d_m4_6 : decode method_4_code 6 = .ok (.iload_n 0, 1) := by decide +kernel
theorem d_m4_7 : decode method_4_code 7 = .ok (.ifCond .ge 7, 3) := by decide +kernel
theorem d_m4_10 : decode method_4_code 10 = .ok (.iconst 1, 1) := by decide +kernel
theorem d_m4_11 : decode method_4_code 11 = .ok (.goto 4, 3) := by decide +kernel
theorem d_m4_15 : decode method_4_code 15 = .ok (.lload_n 1, 1) := by decide +kernel
theorem d_m4_16 : decode method_4_code 16 = .ok (.invokestatic 69, 3) := by decide +kernel
theorem pd_26 : parseMethodDescriptor "(J)I" = some ⟨[.long], some .int⟩ := by decide +kernel
theorem d_m4_19 : decode method_4_code 19 = .ok (.iadd, 1) := by decide +kernel
theorem d_m4_20 : decode method_4_code 20 = .ok (.ireturn, 1) := by decide +kernel
theorem d_m4_14 : decode method_4_code 14 = .ok (.iconst 0, 1) := by decide +kernel
def Q_rm_wd (p0 : Int32) (n : Nat) (h0 : Heap) (n0 : Nat) (v : Option Value) (h : Heap) (L : List Loc) : Prop := v = some (.int (Int32.ofNat (SBG.digits n + SBG.GetChars.sgn p0))) ∧ Fr n0 L ∧ h = h0
set_option maxRecDepth 65536 in
set_option maxHeartbeats 40000000 in
theorem rm_wd (l : Launch) (Z : State) (a0 : Array Value) (hw : ∀ d ∈ tables_1, d.before a0 Z = true) (ws : List Jvm.Cond) (p0 : Int32) (n : Nat) (h0 : Heap) (n0 : Nat) (O0 : Old Z n0 h0) (hn : n ≤ 2 ^ 31) (hx1 : (if p0 < 0 then p0 else -p0) = SBG.negI n) :
    Meets l (⟨"com/example/visit_by_value/visitbyvalue/cli/WholeNumberRangePinLaw", "width", "(I)I"⟩ : MethodName) method_4_code 3 (some .int) ws ({ frames := 1, cells := 0, slots := 0, locals := 14 } : Room) Z #[(.int p0)] h0 (Q_rm_wd p0 n h0 n0) 0 0 := by
  refine enter (Ls := #[.val (.int p0), .unset, .unset]) (plainFor_of_name pn_12) (fun m => by first | (simp [entryFrame, mkF, argsToLocals, Value.category]; done) | rfl) ?_
  intro p e s m below meth c T0 hx hby hml hown hnm hret hlk hZ X0 e0
  have N0 := Fr.nil n0
  replace hown : s.vm.findClass "com/example/visit_by_value/visitbyvalue/cli/WholeNumberRangePinLaw" = some m.cls := hown
  show Run p e below _ (T0.setTop (mkF m 0 #[.val (.int p0), .unset, .unset] []))
  refine go (fun _ => XS.iloadN X0.here hx rfl (hb hby d_m4_0) rfl) ?_
  show Run p e below _ (T0.setTop (mkF m 1 #[.val (.int p0), .unset, .unset] [(.int p0)]))
  refine go (fun _ => XS.i2l X0.here hx rfl (hb hby d_m4_1) rfl) ?_
  show Run p e below _ (T0.setTop (mkF m 2 #[.val (.int p0), .unset, .unset] [(.long (p0.toInt64))]))
  refine callSt X0 hx hZ hown (wd hw 187 rfl) (wd hw 188 rfl) (wd hw 90 rfl) (wd hw 189 rfl) (by decide) e0 (argsL := [(.long (p0.toInt64))]) (rest := []) (rm_abs l Z a0 hw [] (p0.toInt64) h0 n0 O0) (W := 0) (by decide) (by decide) (by decide) (by decide) (by rw [hml]; rfl) (lenOf pd_25 rfl) rfl (Nat.le_of_eq rfl) (hb hby d_m4_2) ?_
  intro v221 T221 L221 h221 X221 e221 q221
  obtain ⟨rv, n221, k221⟩ := q221
  replace rv : v221 = some (.long (Int64.ofNat n)) := by rw [own_abs hn hx1] at rv; exact rv
  subst rv
  have e221 := e221.trans k221
  have N221 := Fr.app N0 n221
  show Run p e below _ (T221.setTop (mkF m 5 #[.val (.int p0), .unset, .unset] [(.long (Int64.ofNat n))]))
  refine go (fun _ => XS.lstoreN X221.here hx rfl (hb hby d_m4_5) rfl (l' := #[.val (.int p0), .val (.long (Int64.ofNat n)), .second]) rfl) ?_
  show Run p e below _ (T221.setTop (mkF m 6 #[.val (.int p0), .val (.long (Int64.ofNat n)), .second] []))
  refine go (fun _ => XS.iloadN X221.here hx rfl (hb hby d_m4_6) rfl) ?_
  show Run p e below _ (T221.setTop (mkF m 7 #[.val (.int p0), .val (.long (Int64.ofNat n)), .second] [(.int p0)]))
  by_cases c222 : p0 < 0
  · skip
    refine go (fun _ => XS.ifNo X221.here hx rfl (hb hby d_m4_7) rfl ((if0 _ _).trans (tlt c222).2.1)) ?_
    show Run p e below _ (T221.setTop (mkF m 10 #[.val (.int p0), .val (.long (Int64.ofNat n)), .second] []))
    refine go (fun _ => XS.iconst X221.here hx rfl (hb hby d_m4_10)) ?_
    show Run p e below _ (T221.setTop (mkF m 11 #[.val (.int p0), .val (.long (Int64.ofNat n)), .second] [(.int (1 : Int32))]))
    refine go (fun _ => XS.goto X221.here hx rfl (pc0 := 11) (pc' := 15) rfl (hb hby d_m4_11) (by decide) (by decide)) ?_
    show Run p e below _ (T221.setTop (mkF m 15 #[.val (.int p0), .val (.long (Int64.ofNat n)), .second] [(.int (1 : Int32))]))
    refine go (fun _ => XS.lloadN X221.here hx rfl (hb hby d_m4_15) rfl) ?_
    show Run p e below _ (T221.setTop (mkF m 16 #[.val (.int p0), .val (.long (Int64.ofNat n)), .second] [(.long (Int64.ofNat n)), (.int (1 : Int32))]))
    refine callSt X221 hx hZ hown (wd hw 190 rfl) (wd hw 191 rfl) (wd hw 185 rfl) (wd hw 192 rfl) (by decide) e221 (argsL := [(.long (Int64.ofNat n))]) (rest := [(.int (1 : Int32))]) (rm_nd l Z a0 hw [] n h0 n0 O0 hn) (W := 1) (by decide) (by decide) (by decide) (by decide) (by rw [hml]; rfl) (lenOf pd_26 rfl) rfl (Nat.le_of_eq rfl) (hb hby d_m4_16) ?_
    intro v223 T223 L223 h223 X223 e223 q223
    obtain ⟨rv, n223, k223⟩ := q223
    replace rv : v223 = some (.int (Int32.ofNat (SBG.digits n))) := rv
    subst rv
    have e223 := e223.trans k223
    have N223 := Fr.app N221 n223
    show Run p e below _ (T223.setTop (mkF m 19 #[.val (.int p0), .val (.long (Int64.ofNat n)), .second] [(.int (Int32.ofNat (SBG.digits n))), (.int (1 : Int32))]))
    refine go (fun _ => XS.iadd X223.here hx rfl (hb hby d_m4_19) rfl) ?_
    show Run p e below _ (T223.setTop (mkF m 20 #[.val (.int p0), .val (.long (Int64.ofNat n)), .second] [(.int ((1 : Int32) + (Int32.ofNat (SBG.digits n))))]))
    exact endI X223 hx hlk hret (hb hby d_m4_20) (⟨congrArg (fun z => some (Value.int z)) (own_w1 _ c222), N223, e223⟩) (by decide) (by decide)
  · skip
    refine go (fun _ => XS.ifYes X221.here hx rfl (pc0 := 7) (pc' := 14) rfl (hb hby d_m4_7) rfl ((if0 _ _).trans (flt c222).2.1) (by decide) (by decide)) ?_
    show Run p e below _ (T221.setTop (mkF m 14 #[.val (.int p0), .val (.long (Int64.ofNat n)), .second] []))
    refine go (fun _ => XS.iconst X221.here hx rfl (hb hby d_m4_14)) ?_
    show Run p e below _ (T221.setTop (mkF m 15 #[.val (.int p0), .val (.long (Int64.ofNat n)), .second] [(.int (0 : Int32))]))
    refine go (fun _ => XS.lloadN X221.here hx rfl (hb hby d_m4_15) rfl) ?_
    show Run p e below _ (T221.setTop (mkF m 16 #[.val (.int p0), .val (.long (Int64.ofNat n)), .second] [(.long (Int64.ofNat n)), (.int (0 : Int32))]))
    refine callSt X221 hx hZ hown (wd hw 190 rfl) (wd hw 191 rfl) (wd hw 185 rfl) (wd hw 192 rfl) (by decide) e221 (argsL := [(.long (Int64.ofNat n))]) (rest := [(.int (0 : Int32))]) (rm_nd l Z a0 hw [] n h0 n0 O0 hn) (W := 1) (by decide) (by decide) (by decide) (by decide) (by rw [hml]; rfl) (lenOf pd_26 rfl) rfl (Nat.le_of_eq rfl) (hb hby d_m4_16) ?_
    intro v224 T224 L224 h224 X224 e224 q224
    obtain ⟨rv, n224, k224⟩ := q224
    replace rv : v224 = some (.int (Int32.ofNat (SBG.digits n))) := rv
    subst rv
    have e224 := e224.trans k224
    have N224 := Fr.app N221 n224
    show Run p e below _ (T224.setTop (mkF m 19 #[.val (.int p0), .val (.long (Int64.ofNat n)), .second] [(.int (Int32.ofNat (SBG.digits n))), (.int (0 : Int32))]))
    refine go (fun _ => XS.iadd X224.here hx rfl (hb hby d_m4_19) rfl) ?_
    show Run p e below _ (T224.setTop (mkF m 20 #[.val (.int p0), .val (.long (Int64.ofNat n)), .second] [(.int ((0 : Int32) + (Int32.ofNat (SBG.digits n))))]))
    exact endI X224 hx hlk hret (hb hby d_m4_20) (⟨congrArg (fun z => some (Value.int z)) (own_w0 _ c222), N224, e224⟩) (by decide) (by decide)
theorem d_m5_0 : decode method_5_code 0 = .ok (.bipush 10, 2) := by decide +kernel
theorem d_m5_2 : decode method_5_code 2 = .ok (.newarray .long, 2) := by decide +kernel
theorem d_m5_4 : decode method_5_code 4 = .ok (.dup, 1) := by decide +kernel
theorem d_m5_5 : decode method_5_code 5 = .ok (.iconst 0, 1) := by decide +kernel
theorem d_m5_6 : decode method_5_code 6 = .ok (.lconst 1, 1) := by decide +kernel
theorem d_m5_7 : decode method_5_code 7 = .ok (.lastore, 1) := by decide +kernel
theorem d_m5_8 : decode method_5_code 8 = .ok (.dup, 1) := by decide +kernel
theorem d_m5_9 : decode method_5_code 9 = .ok (.iconst 1, 1) := by decide +kernel
theorem d_m5_10 : decode method_5_code 10 = .ok (.ldc2_w 45, 3) := by decide +kernel
theorem d_m5_13 : decode method_5_code 13 = .ok (.lastore, 1) := by decide +kernel
theorem d_m5_14 : decode method_5_code 14 = .ok (.dup, 1) := by decide +kernel
theorem d_m5_15 : decode method_5_code 15 = .ok (.iconst 2, 1) := by decide +kernel
theorem d_m5_16 : decode method_5_code 16 = .ok (.ldc2_w 47, 3) := by decide +kernel
theorem d_m5_19 : decode method_5_code 19 = .ok (.lastore, 1) := by decide +kernel
theorem d_m5_20 : decode method_5_code 20 = .ok (.dup, 1) := by decide +kernel
theorem d_m5_21 : decode method_5_code 21 = .ok (.iconst 3, 1) := by decide +kernel
theorem d_m5_22 : decode method_5_code 22 = .ok (.ldc2_w 49, 3) := by decide +kernel
theorem d_m5_25 : decode method_5_code 25 = .ok (.lastore, 1) := by decide +kernel
theorem d_m5_26 : decode method_5_code 26 = .ok (.dup, 1) := by decide +kernel
theorem d_m5_27 : decode method_5_code 27 = .ok (.iconst 4, 1) := by decide +kernel
theorem d_m5_28 : decode method_5_code 28 = .ok (.ldc2_w 51, 3) := by decide +kernel
theorem d_m5_31 : decode method_5_code 31 = .ok (.lastore, 1) := by decide +kernel
theorem d_m5_32 : decode method_5_code 32 = .ok (.dup, 1) := by decide +kernel
theorem d_m5_33 : decode method_5_code 33 = .ok (.iconst 5, 1) := by decide +kernel
theorem d_m5_34 : decode method_5_code 34 = .ok (.ldc2_w 53, 3) := by decide +kernel
theorem d_m5_37 : decode method_5_code 37 = .ok (.lastore, 1) := by decide +kernel
theorem d_m5_38 : decode method_5_code 38 = .ok (.dup, 1) := by decide +kernel
theorem d_m5_39 : decode method_5_code 39 = .ok (.bipush 6, 2) := by decide +kernel
theorem d_m5_41 : decode method_5_code 41 = .ok (.ldc2_w 55, 3) := by decide +kernel
theorem d_m5_44 : decode method_5_code 44 = .ok (.lastore, 1) := by decide +kernel
theorem d_m5_45 : decode method_5_code 45 = .ok (.dup, 1) := by decide +kernel
theorem d_m5_46 : decode method_5_code 46 = .ok (.bipush 7, 2) := by decide +kernel
theorem d_m5_48 : decode method_5_code 48 = .ok (.ldc2_w 57, 3) := by decide +kernel
theorem d_m5_51 : decode method_5_code 51 = .ok (.lastore, 1) := by decide +kernel
theorem d_m5_52 : decode method_5_code 52 = .ok (.dup, 1) := by decide +kernel
theorem d_m5_53 : decode method_5_code 53 = .ok (.bipush 8, 2) := by decide +kernel
theorem d_m5_55 : decode method_5_code 55 = .ok (.ldc2_w 59, 3) := by decide +kernel
theorem d_m5_58 : decode method_5_code 58 = .ok (.lastore, 1) := by decide +kernel
theorem d_m5_59 : decode method_5_code 59 = .ok (.dup, 1) := by decide +kernel
theorem d_m5_60 : decode method_5_code 60 = .ok (.bipush 9, 2) := by decide +kernel
theorem d_m5_62 : decode method_5_code 62 = .ok (.ldc2_w 61, 3) := by decide +kernel
theorem d_m5_65 : decode method_5_code 65 = .ok (.lastore, 1) := by decide +kernel
theorem d_m5_66 : decode method_5_code 66 = .ok (.astore_n 1, 1) := by decide +kernel
theorem d_m5_67 : decode method_5_code 67 = .ok (.aload_n 1, 1) := by decide +kernel
theorem d_m5_68 : decode method_5_code 68 = .ok (.iload_n 0, 1) := by decide +kernel
theorem d_m5_69 : decode method_5_code 69 = .ok (.laload, 1) := by decide +kernel
theorem d_m5_70 : decode method_5_code 70 = .ok (.lreturn, 1) := by decide +kernel
def Q_rm_pw (k : Nat) (h0 : Heap) (n0 : Nat) (v : Option Value) (h : Heap) (L : List Loc) : Prop := v = some (.long (Int64.ofNat (10 ^ k))) ∧ Fr n0 L ∧ Keep h0 h []
set_option maxRecDepth 65536 in
set_option maxHeartbeats 40000000 in
theorem rm_pw (l : Launch) (Z : State) (a0 : Array Value) (hw : ∀ d ∈ tables_1, d.before a0 Z = true) (ws : List Jvm.Cond) (k : Nat) (h0 : Heap) (n0 : Nat) (O0 : Old Z n0 h0) (hk : k < 10) :
    Meets l (⟨"com/example/visit_by_value/visitbyvalue/cli/WholeNumberRangePinLaw", "pow", "(I)J"⟩ : MethodName) method_5_code 2 (some .long) ws ({ frames := 0, cells := 1, slots := 10, locals := 0 } : Room) Z #[(.int (Int32.ofNat k))] h0 (Q_rm_pw k h0 n0) 1 10 := by
  refine enter (Ls := #[.val (.int (Int32.ofNat k)), .unset]) (plainFor_of_name pn_12) (fun m => by first | (simp [entryFrame, mkF, argsToLocals, Value.category]; done) | rfl) ?_
  intro p e s m below meth c T0 hx hby hml hown hnm hret hlk hZ X0 e0
  have N0 := Fr.nil n0
  replace hown : s.vm.findClass "com/example/visit_by_value/visitbyvalue/cli/WholeNumberRangePinLaw" = some m.cls := hown
  show Run p e below _ (T0.setTop (mkF m 0 #[.val (.int (Int32.ofNat k)), .unset] []))
  have K0 := Keep.refl h0 []
  refine go (fun _ => XS.bipush X0.here hx rfl (hb hby d_m5_0)) ?_
  show Run p e below _ (T0.setTop (mkF m 2 #[.val (.int (Int32.ofNat k)), .unset] [(.int (10 : Int32))]))
  obtain ⟨T225, h225, k225, X225, e225, E225, A225, st225⟩ := newP X0 hx hZ (wd hw 234 rfl) e0 (g := (mkF m 2 #[.val (.int (Int32.ofNat k)), .unset] [(.int (10 : Int32))])) rfl (hb hby d_m5_2) rfl (by decide) (cap := 10) (by decide) (by decide) (by decide) (by decide)
  obtain ⟨b225, y225⟩ : ∃ z, z = h0.size := ⟨_, rfl⟩
  rw [← y225] at A225 st225
  have g_b225 : n0 ≤ b225 := y225.symm ▸ old_sz O0
  have sz_b225 : h0.size ≤ b225 := y225.symm ▸ K0.1
  have O0 := O0.ext E225
  have K0 := K0.ext E225
  have V_b225 : Arv Z h225 b225 k225 .long (10 : Int32) [(.long (0 : Int64)), (.long (0 : Int64)), (.long (0 : Int64)), (.long (0 : Int64)), (.long (0 : Int64)), (.long (0 : Int64)), (.long (0 : Int64)), (.long (0 : Int64)), (.long (0 : Int64)), (.long (0 : Int64))] (.long (0 : Int64)) := (Arv.new A225 (by decide)).pad (pad_rep [] (.long (0 : Int64)) 10)
  refine go st225 ?_
  show Run p e below _ (T225.setTop (mkF m 4 #[.val (.int (Int32.ofNat k)), .unset] [(.ref b225)]))
  refine go (fun _ => XS.dup X225.here hx rfl (hb hby d_m5_4) rfl rfl) ?_
  show Run p e below _ (T225.setTop (mkF m 5 #[.val (.int (Int32.ofNat k)), .unset] [(.ref b225), (.ref b225)]))
  refine go (fun _ => XS.iconst X225.here hx rfl (hb hby d_m5_5)) ?_
  show Run p e below _ (T225.setTop (mkF m 6 #[.val (.int (Int32.ofNat k)), .unset] [(.int (0 : Int32)), (.ref b225), (.ref b225)]))
  refine go (fun _ => XS.lconst X225.here hx rfl (hb hby d_m5_6)) ?_
  show Run p e below _ (T225.setTop (mkF m 7 #[.val (.int (Int32.ofNat k)), .unset] [(.long (1 : Int64)), (.int (0 : Int32)), (.ref b225), (.ref b225)]))
  obtain ⟨cl226, Ar226, ak226, as226, an226, ah226, ag226⟩ := id V_b225
  have hin226 := inb_of as226 (j := (0 : Int32)) ⟨by decide, by decide⟩
  obtain ⟨T226, h226, X226, e226, W226, st226⟩ := stJ X225 hx hZ e225 Ar226 (j := (0 : Int32)) hin226 (g := (mkF m 7 #[.val (.int (Int32.ofNat k)), .unset] [(.long (1 : Int64)), (.int (0 : Int32)), (.ref b225), (.ref b225)])) rfl rfl (hb hby d_m5_7)
  have O0 := O0.wr W226 g_b225
  have K0 := K0.wr W226 (Or.inr sz_b225)
  have V_b225 := (Arv.set Ar226 ak226 as226 an226 ah226 ag226 rfl W226 0 rfl (Nat.le_of_ble_eq_true rfl) : Arv Z h226 b225 k225 .long (10 : Int32) [(.long (1 : Int64)), (.long (0 : Int64)), (.long (0 : Int64)), (.long (0 : Int64)), (.long (0 : Int64)), (.long (0 : Int64)), (.long (0 : Int64)), (.long (0 : Int64)), (.long (0 : Int64)), (.long (0 : Int64))] (.long (0 : Int64)))
  have N226 := Fr.snoc X226 N0 g_b225
  refine go st226 ?_
  show Run p e below _ (T226.setTop (mkF m 8 #[.val (.int (Int32.ofNat k)), .unset] [(.ref b225)]))
  refine go (fun _ => XS.dup X226.here hx rfl (hb hby d_m5_8) rfl rfl) ?_
  show Run p e below _ (T226.setTop (mkF m 9 #[.val (.int (Int32.ofNat k)), .unset] [(.ref b225), (.ref b225)]))
  refine go (fun _ => XS.iconst X226.here hx rfl (hb hby d_m5_9)) ?_
  show Run p e below _ (T226.setTop (mkF m 10 #[.val (.int (Int32.ofNat k)), .unset] [(.int (1 : Int32)), (.ref b225), (.ref b225)]))
  refine go (fun _ => X226.ldc2J hx hown (mvT hZ (wd hw 193 rfl)) rfl (hb hby d_m5_10)) ?_
  show Run p e below _ (T226.setTop (mkF m 13 #[.val (.int (Int32.ofNat k)), .unset] [(.long (10 : Int64)), (.int (1 : Int32)), (.ref b225), (.ref b225)]))
  obtain ⟨cl227, Ar227, ak227, as227, an227, ah227, ag227⟩ := id V_b225
  have hin227 := inb_of as227 (j := (1 : Int32)) ⟨by decide, by decide⟩
  obtain ⟨T227, h227, X227, e227, W227, st227⟩ := stJ X226 hx hZ e226 Ar227 (j := (1 : Int32)) hin227 (g := (mkF m 13 #[.val (.int (Int32.ofNat k)), .unset] [(.long (10 : Int64)), (.int (1 : Int32)), (.ref b225), (.ref b225)])) rfl rfl (hb hby d_m5_13)
  have O0 := O0.wr W227 g_b225
  have K0 := K0.wr W227 (Or.inr sz_b225)
  have V_b225 := (Arv.set Ar227 ak227 as227 an227 ah227 ag227 rfl W227 1 rfl (Nat.le_of_ble_eq_true rfl) : Arv Z h227 b225 k225 .long (10 : Int32) [(.long (1 : Int64)), (.long (10 : Int64)), (.long (0 : Int64)), (.long (0 : Int64)), (.long (0 : Int64)), (.long (0 : Int64)), (.long (0 : Int64)), (.long (0 : Int64)), (.long (0 : Int64)), (.long (0 : Int64))] (.long (0 : Int64)))
  have N227 := Fr.snoc X227 N226 g_b225
  refine go st227 ?_
  show Run p e below _ (T227.setTop (mkF m 14 #[.val (.int (Int32.ofNat k)), .unset] [(.ref b225)]))
  refine go (fun _ => XS.dup X227.here hx rfl (hb hby d_m5_14) rfl rfl) ?_
  show Run p e below _ (T227.setTop (mkF m 15 #[.val (.int (Int32.ofNat k)), .unset] [(.ref b225), (.ref b225)]))
  refine go (fun _ => XS.iconst X227.here hx rfl (hb hby d_m5_15)) ?_
  show Run p e below _ (T227.setTop (mkF m 16 #[.val (.int (Int32.ofNat k)), .unset] [(.int (2 : Int32)), (.ref b225), (.ref b225)]))
  refine go (fun _ => X227.ldc2J hx hown (mvT hZ (wd hw 235 rfl)) rfl (hb hby d_m5_16)) ?_
  show Run p e below _ (T227.setTop (mkF m 19 #[.val (.int (Int32.ofNat k)), .unset] [(.long (100 : Int64)), (.int (2 : Int32)), (.ref b225), (.ref b225)]))
  obtain ⟨cl228, Ar228, ak228, as228, an228, ah228, ag228⟩ := id V_b225
  have hin228 := inb_of as228 (j := (2 : Int32)) ⟨by decide, by decide⟩
  obtain ⟨T228, h228, X228, e228, W228, st228⟩ := stJ X227 hx hZ e227 Ar228 (j := (2 : Int32)) hin228 (g := (mkF m 19 #[.val (.int (Int32.ofNat k)), .unset] [(.long (100 : Int64)), (.int (2 : Int32)), (.ref b225), (.ref b225)])) rfl rfl (hb hby d_m5_19)
  have O0 := O0.wr W228 g_b225
  have K0 := K0.wr W228 (Or.inr sz_b225)
  have V_b225 := (Arv.set Ar228 ak228 as228 an228 ah228 ag228 rfl W228 2 rfl (Nat.le_of_ble_eq_true rfl) : Arv Z h228 b225 k225 .long (10 : Int32) [(.long (1 : Int64)), (.long (10 : Int64)), (.long (100 : Int64)), (.long (0 : Int64)), (.long (0 : Int64)), (.long (0 : Int64)), (.long (0 : Int64)), (.long (0 : Int64)), (.long (0 : Int64)), (.long (0 : Int64))] (.long (0 : Int64)))
  have N228 := Fr.snoc X228 N227 g_b225
  refine go st228 ?_
  show Run p e below _ (T228.setTop (mkF m 20 #[.val (.int (Int32.ofNat k)), .unset] [(.ref b225)]))
  refine go (fun _ => XS.dup X228.here hx rfl (hb hby d_m5_20) rfl rfl) ?_
  show Run p e below _ (T228.setTop (mkF m 21 #[.val (.int (Int32.ofNat k)), .unset] [(.ref b225), (.ref b225)]))
  refine go (fun _ => XS.iconst X228.here hx rfl (hb hby d_m5_21)) ?_
  show Run p e below _ (T228.setTop (mkF m 22 #[.val (.int (Int32.ofNat k)), .unset] [(.int (3 : Int32)), (.ref b225), (.ref b225)]))
  refine go (fun _ => X228.ldc2J hx hown (mvT hZ (wd hw 236 rfl)) rfl (hb hby d_m5_22)) ?_
  show Run p e below _ (T228.setTop (mkF m 25 #[.val (.int (Int32.ofNat k)), .unset] [(.long (1000 : Int64)), (.int (3 : Int32)), (.ref b225), (.ref b225)]))
  obtain ⟨cl229, Ar229, ak229, as229, an229, ah229, ag229⟩ := id V_b225
  have hin229 := inb_of as229 (j := (3 : Int32)) ⟨by decide, by decide⟩
  obtain ⟨T229, h229, X229, e229, W229, st229⟩ := stJ X228 hx hZ e228 Ar229 (j := (3 : Int32)) hin229 (g := (mkF m 25 #[.val (.int (Int32.ofNat k)), .unset] [(.long (1000 : Int64)), (.int (3 : Int32)), (.ref b225), (.ref b225)])) rfl rfl (hb hby d_m5_25)
  have O0 := O0.wr W229 g_b225
  have K0 := K0.wr W229 (Or.inr sz_b225)
  have V_b225 := (Arv.set Ar229 ak229 as229 an229 ah229 ag229 rfl W229 3 rfl (Nat.le_of_ble_eq_true rfl) : Arv Z h229 b225 k225 .long (10 : Int32) [(.long (1 : Int64)), (.long (10 : Int64)), (.long (100 : Int64)), (.long (1000 : Int64)), (.long (0 : Int64)), (.long (0 : Int64)), (.long (0 : Int64)), (.long (0 : Int64)), (.long (0 : Int64)), (.long (0 : Int64))] (.long (0 : Int64)))
  have N229 := Fr.snoc X229 N228 g_b225
  refine go st229 ?_
  show Run p e below _ (T229.setTop (mkF m 26 #[.val (.int (Int32.ofNat k)), .unset] [(.ref b225)]))
  refine go (fun _ => XS.dup X229.here hx rfl (hb hby d_m5_26) rfl rfl) ?_
  show Run p e below _ (T229.setTop (mkF m 27 #[.val (.int (Int32.ofNat k)), .unset] [(.ref b225), (.ref b225)]))
  refine go (fun _ => XS.iconst X229.here hx rfl (hb hby d_m5_27)) ?_
  show Run p e below _ (T229.setTop (mkF m 28 #[.val (.int (Int32.ofNat k)), .unset] [(.int (4 : Int32)), (.ref b225), (.ref b225)]))
  refine go (fun _ => X229.ldc2J hx hown (mvT hZ (wd hw 237 rfl)) rfl (hb hby d_m5_28)) ?_
  show Run p e below _ (T229.setTop (mkF m 31 #[.val (.int (Int32.ofNat k)), .unset] [(.long (10000 : Int64)), (.int (4 : Int32)), (.ref b225), (.ref b225)]))
  obtain ⟨cl230, Ar230, ak230, as230, an230, ah230, ag230⟩ := id V_b225
  have hin230 := inb_of as230 (j := (4 : Int32)) ⟨by decide, by decide⟩
  obtain ⟨T230, h230, X230, e230, W230, st230⟩ := stJ X229 hx hZ e229 Ar230 (j := (4 : Int32)) hin230 (g := (mkF m 31 #[.val (.int (Int32.ofNat k)), .unset] [(.long (10000 : Int64)), (.int (4 : Int32)), (.ref b225), (.ref b225)])) rfl rfl (hb hby d_m5_31)
  have O0 := O0.wr W230 g_b225
  have K0 := K0.wr W230 (Or.inr sz_b225)
  have V_b225 := (Arv.set Ar230 ak230 as230 an230 ah230 ag230 rfl W230 4 rfl (Nat.le_of_ble_eq_true rfl) : Arv Z h230 b225 k225 .long (10 : Int32) [(.long (1 : Int64)), (.long (10 : Int64)), (.long (100 : Int64)), (.long (1000 : Int64)), (.long (10000 : Int64)), (.long (0 : Int64)), (.long (0 : Int64)), (.long (0 : Int64)), (.long (0 : Int64)), (.long (0 : Int64))] (.long (0 : Int64)))
  have N230 := Fr.snoc X230 N229 g_b225
  refine go st230 ?_
  show Run p e below _ (T230.setTop (mkF m 32 #[.val (.int (Int32.ofNat k)), .unset] [(.ref b225)]))
  refine go (fun _ => XS.dup X230.here hx rfl (hb hby d_m5_32) rfl rfl) ?_
  show Run p e below _ (T230.setTop (mkF m 33 #[.val (.int (Int32.ofNat k)), .unset] [(.ref b225), (.ref b225)]))
  refine go (fun _ => XS.iconst X230.here hx rfl (hb hby d_m5_33)) ?_
  show Run p e below _ (T230.setTop (mkF m 34 #[.val (.int (Int32.ofNat k)), .unset] [(.int (5 : Int32)), (.ref b225), (.ref b225)]))
  refine go (fun _ => X230.ldc2J hx hown (mvT hZ (wd hw 238 rfl)) rfl (hb hby d_m5_34)) ?_
  show Run p e below _ (T230.setTop (mkF m 37 #[.val (.int (Int32.ofNat k)), .unset] [(.long (100000 : Int64)), (.int (5 : Int32)), (.ref b225), (.ref b225)]))
  obtain ⟨cl231, Ar231, ak231, as231, an231, ah231, ag231⟩ := id V_b225
  have hin231 := inb_of as231 (j := (5 : Int32)) ⟨by decide, by decide⟩
  obtain ⟨T231, h231, X231, e231, W231, st231⟩ := stJ X230 hx hZ e230 Ar231 (j := (5 : Int32)) hin231 (g := (mkF m 37 #[.val (.int (Int32.ofNat k)), .unset] [(.long (100000 : Int64)), (.int (5 : Int32)), (.ref b225), (.ref b225)])) rfl rfl (hb hby d_m5_37)
  have O0 := O0.wr W231 g_b225
  have K0 := K0.wr W231 (Or.inr sz_b225)
  have V_b225 := (Arv.set Ar231 ak231 as231 an231 ah231 ag231 rfl W231 5 rfl (Nat.le_of_ble_eq_true rfl) : Arv Z h231 b225 k225 .long (10 : Int32) [(.long (1 : Int64)), (.long (10 : Int64)), (.long (100 : Int64)), (.long (1000 : Int64)), (.long (10000 : Int64)), (.long (100000 : Int64)), (.long (0 : Int64)), (.long (0 : Int64)), (.long (0 : Int64)), (.long (0 : Int64))] (.long (0 : Int64)))
  have N231 := Fr.snoc X231 N230 g_b225
  refine go st231 ?_
  show Run p e below _ (T231.setTop (mkF m 38 #[.val (.int (Int32.ofNat k)), .unset] [(.ref b225)]))
  refine go (fun _ => XS.dup X231.here hx rfl (hb hby d_m5_38) rfl rfl) ?_
  show Run p e below _ (T231.setTop (mkF m 39 #[.val (.int (Int32.ofNat k)), .unset] [(.ref b225), (.ref b225)]))
  refine go (fun _ => XS.bipush X231.here hx rfl (hb hby d_m5_39)) ?_
  show Run p e below _ (T231.setTop (mkF m 41 #[.val (.int (Int32.ofNat k)), .unset] [(.int (6 : Int32)), (.ref b225), (.ref b225)]))
  refine go (fun _ => X231.ldc2J hx hown (mvT hZ (wd hw 239 rfl)) rfl (hb hby d_m5_41)) ?_
  show Run p e below _ (T231.setTop (mkF m 44 #[.val (.int (Int32.ofNat k)), .unset] [(.long (1000000 : Int64)), (.int (6 : Int32)), (.ref b225), (.ref b225)]))
  obtain ⟨cl232, Ar232, ak232, as232, an232, ah232, ag232⟩ := id V_b225
  have hin232 := inb_of as232 (j := (6 : Int32)) ⟨by decide, by decide⟩
  obtain ⟨T232, h232, X232, e232, W232, st232⟩ := stJ X231 hx hZ e231 Ar232 (j := (6 : Int32)) hin232 (g := (mkF m 44 #[.val (.int (Int32.ofNat k)), .unset] [(.long (1000000 : Int64)), (.int (6 : Int32)), (.ref b225), (.ref b225)])) rfl rfl (hb hby d_m5_44)
  have O0 := O0.wr W232 g_b225
  have K0 := K0.wr W232 (Or.inr sz_b225)
  have V_b225 := (Arv.set Ar232 ak232 as232 an232 ah232 ag232 rfl W232 6 rfl (Nat.le_of_ble_eq_true rfl) : Arv Z h232 b225 k225 .long (10 : Int32) [(.long (1 : Int64)), (.long (10 : Int64)), (.long (100 : Int64)), (.long (1000 : Int64)), (.long (10000 : Int64)), (.long (100000 : Int64)), (.long (1000000 : Int64)), (.long (0 : Int64)), (.long (0 : Int64)), (.long (0 : Int64))] (.long (0 : Int64)))
  have N232 := Fr.snoc X232 N231 g_b225
  refine go st232 ?_
  show Run p e below _ (T232.setTop (mkF m 45 #[.val (.int (Int32.ofNat k)), .unset] [(.ref b225)]))
  refine go (fun _ => XS.dup X232.here hx rfl (hb hby d_m5_45) rfl rfl) ?_
  show Run p e below _ (T232.setTop (mkF m 46 #[.val (.int (Int32.ofNat k)), .unset] [(.ref b225), (.ref b225)]))
  refine go (fun _ => XS.bipush X232.here hx rfl (hb hby d_m5_46)) ?_
  show Run p e below _ (T232.setTop (mkF m 48 #[.val (.int (Int32.ofNat k)), .unset] [(.int (7 : Int32)), (.ref b225), (.ref b225)]))
  refine go (fun _ => X232.ldc2J hx hown (mvT hZ (wd hw 240 rfl)) rfl (hb hby d_m5_48)) ?_
  show Run p e below _ (T232.setTop (mkF m 51 #[.val (.int (Int32.ofNat k)), .unset] [(.long (10000000 : Int64)), (.int (7 : Int32)), (.ref b225), (.ref b225)]))
  obtain ⟨cl233, Ar233, ak233, as233, an233, ah233, ag233⟩ := id V_b225
  have hin233 := inb_of as233 (j := (7 : Int32)) ⟨by decide, by decide⟩
  obtain ⟨T233, h233, X233, e233, W233, st233⟩ := stJ X232 hx hZ e232 Ar233 (j := (7 : Int32)) hin233 (g := (mkF m 51 #[.val (.int (Int32.ofNat k)), .unset] [(.long (10000000 : Int64)), (.int (7 : Int32)), (.ref b225), (.ref b225)])) rfl rfl (hb hby d_m5_51)
  have O0 := O0.wr W233 g_b225
  have K0 := K0.wr W233 (Or.inr sz_b225)
  have V_b225 := (Arv.set Ar233 ak233 as233 an233 ah233 ag233 rfl W233 7 rfl (Nat.le_of_ble_eq_true rfl) : Arv Z h233 b225 k225 .long (10 : Int32) [(.long (1 : Int64)), (.long (10 : Int64)), (.long (100 : Int64)), (.long (1000 : Int64)), (.long (10000 : Int64)), (.long (100000 : Int64)), (.long (1000000 : Int64)), (.long (10000000 : Int64)), (.long (0 : Int64)), (.long (0 : Int64))] (.long (0 : Int64)))
  have N233 := Fr.snoc X233 N232 g_b225
  refine go st233 ?_
  show Run p e below _ (T233.setTop (mkF m 52 #[.val (.int (Int32.ofNat k)), .unset] [(.ref b225)]))
  refine go (fun _ => XS.dup X233.here hx rfl (hb hby d_m5_52) rfl rfl) ?_
  show Run p e below _ (T233.setTop (mkF m 53 #[.val (.int (Int32.ofNat k)), .unset] [(.ref b225), (.ref b225)]))
  refine go (fun _ => XS.bipush X233.here hx rfl (hb hby d_m5_53)) ?_
  show Run p e below _ (T233.setTop (mkF m 55 #[.val (.int (Int32.ofNat k)), .unset] [(.int (8 : Int32)), (.ref b225), (.ref b225)]))
  refine go (fun _ => X233.ldc2J hx hown (mvT hZ (wd hw 241 rfl)) rfl (hb hby d_m5_55)) ?_
  show Run p e below _ (T233.setTop (mkF m 58 #[.val (.int (Int32.ofNat k)), .unset] [(.long (100000000 : Int64)), (.int (8 : Int32)), (.ref b225), (.ref b225)]))
  obtain ⟨cl234, Ar234, ak234, as234, an234, ah234, ag234⟩ := id V_b225
  have hin234 := inb_of as234 (j := (8 : Int32)) ⟨by decide, by decide⟩
  obtain ⟨T234, h234, X234, e234, W234, st234⟩ := stJ X233 hx hZ e233 Ar234 (j := (8 : Int32)) hin234 (g := (mkF m 58 #[.val (.int (Int32.ofNat k)), .unset] [(.long (100000000 : Int64)), (.int (8 : Int32)), (.ref b225), (.ref b225)])) rfl rfl (hb hby d_m5_58)
  have O0 := O0.wr W234 g_b225
  have K0 := K0.wr W234 (Or.inr sz_b225)
  have V_b225 := (Arv.set Ar234 ak234 as234 an234 ah234 ag234 rfl W234 8 rfl (Nat.le_of_ble_eq_true rfl) : Arv Z h234 b225 k225 .long (10 : Int32) [(.long (1 : Int64)), (.long (10 : Int64)), (.long (100 : Int64)), (.long (1000 : Int64)), (.long (10000 : Int64)), (.long (100000 : Int64)), (.long (1000000 : Int64)), (.long (10000000 : Int64)), (.long (100000000 : Int64)), (.long (0 : Int64))] (.long (0 : Int64)))
  have N234 := Fr.snoc X234 N233 g_b225
  refine go st234 ?_
  show Run p e below _ (T234.setTop (mkF m 59 #[.val (.int (Int32.ofNat k)), .unset] [(.ref b225)]))
  refine go (fun _ => XS.dup X234.here hx rfl (hb hby d_m5_59) rfl rfl) ?_
  show Run p e below _ (T234.setTop (mkF m 60 #[.val (.int (Int32.ofNat k)), .unset] [(.ref b225), (.ref b225)]))
  refine go (fun _ => XS.bipush X234.here hx rfl (hb hby d_m5_60)) ?_
  show Run p e below _ (T234.setTop (mkF m 62 #[.val (.int (Int32.ofNat k)), .unset] [(.int (9 : Int32)), (.ref b225), (.ref b225)]))
  refine go (fun _ => X234.ldc2J hx hown (mvT hZ (wd hw 242 rfl)) rfl (hb hby d_m5_62)) ?_
  show Run p e below _ (T234.setTop (mkF m 65 #[.val (.int (Int32.ofNat k)), .unset] [(.long (1000000000 : Int64)), (.int (9 : Int32)), (.ref b225), (.ref b225)]))
  obtain ⟨cl235, Ar235, ak235, as235, an235, ah235, ag235⟩ := id V_b225
  have hin235 := inb_of as235 (j := (9 : Int32)) ⟨by decide, by decide⟩
  obtain ⟨T235, h235, X235, e235, W235, st235⟩ := stJ X234 hx hZ e234 Ar235 (j := (9 : Int32)) hin235 (g := (mkF m 65 #[.val (.int (Int32.ofNat k)), .unset] [(.long (1000000000 : Int64)), (.int (9 : Int32)), (.ref b225), (.ref b225)])) rfl rfl (hb hby d_m5_65)
  have O0 := O0.wr W235 g_b225
  have K0 := K0.wr W235 (Or.inr sz_b225)
  have V_b225 := (Arv.set Ar235 ak235 as235 an235 ah235 ag235 rfl W235 9 rfl (Nat.le_of_ble_eq_true rfl) : Arv Z h235 b225 k225 .long (10 : Int32) [(.long (1 : Int64)), (.long (10 : Int64)), (.long (100 : Int64)), (.long (1000 : Int64)), (.long (10000 : Int64)), (.long (100000 : Int64)), (.long (1000000 : Int64)), (.long (10000000 : Int64)), (.long (100000000 : Int64)), (.long (1000000000 : Int64))] (.long (0 : Int64)))
  have N235 := Fr.snoc X235 N234 g_b225
  refine go st235 ?_
  show Run p e below _ (T235.setTop (mkF m 66 #[.val (.int (Int32.ofNat k)), .unset] [(.ref b225)]))
  refine go (fun _ => XS.astoreN X235.here hx rfl (hb hby d_m5_66) rfl rfl (l' := #[.val (.int (Int32.ofNat k)), .val (.ref b225)]) rfl) ?_
  show Run p e below _ (T235.setTop (mkF m 67 #[.val (.int (Int32.ofNat k)), .val (.ref b225)] []))
  refine go (fun _ => XS.aloadN X235.here hx rfl (hb hby d_m5_67) rfl rfl) ?_
  show Run p e below _ (T235.setTop (mkF m 68 #[.val (.int (Int32.ofNat k)), .val (.ref b225)] [(.ref b225)]))
  refine go (fun _ => XS.iloadN X235.here hx rfl (hb hby d_m5_68) rfl) ?_
  show Run p e below _ (T235.setTop (mkF m 69 #[.val (.int (Int32.ofNat k)), .val (.ref b225)] [(.int (Int32.ofNat k)), (.ref b225)]))
  have hk10 : k = 0 ∨ k = 1 ∨ k = 2 ∨ k = 3 ∨ k = 4 ∨ k = 5 ∨ k = 6 ∨ k = 7 ∨ k = 8 ∨ k = 9 := by omega
  rcases hk10 with rfl | rfl | rfl | rfl | rfl | rfl | rfl | rfl | rfl | rfl
  · skip
    show Run p e below _ (T235.setTop (mkF m 69 #[.val (.int (0 : Int32)), .val (.ref b225)] [(.int (0 : Int32)), (.ref b225)]))
    obtain ⟨cl236, Ar236, ak236, as236, an236, ah236, ag236⟩ := id V_b225
    have hin236 := inb_of as236 (j := (0 : Int32)) ⟨by decide, by decide⟩
    have hat236 := ah236.at hin236 (v := (.long (1 : Int64))) rfl
    refine go (fun _ => X235.laload hx (j := (0 : Int32)) (v := (.long (1 : Int64))) (by rw [e235]; exact Ar236.1) (State.isArrayOf_alike hZ.alike Ar236.2.1) Ar236.2.2 hin236 hat236 (g := (mkF m 69 #[.val (.int (0 : Int32)), .val (.ref b225)] [(.int (0 : Int32)), (.ref b225)])) rfl rfl (hb hby d_m5_69) _) ?_
    show Run p e below _ (T235.setTop (mkF m 70 #[.val (.int (0 : Int32)), .val (.ref b225)] [(.long (1 : Int64))]))
    exact endJ X235 hx hlk hret (hb hby d_m5_70) (by rw [e235]; exact ⟨congrArg (fun z => some (Value.long z)) (by decide), N235, K0⟩) (by decide) (by decide)
  · skip
    show Run p e below _ (T235.setTop (mkF m 69 #[.val (.int (1 : Int32)), .val (.ref b225)] [(.int (1 : Int32)), (.ref b225)]))
    obtain ⟨cl237, Ar237, ak237, as237, an237, ah237, ag237⟩ := id V_b225
    have hin237 := inb_of as237 (j := (1 : Int32)) ⟨by decide, by decide⟩
    have hat237 := ah237.at hin237 (v := (.long (10 : Int64))) rfl
    refine go (fun _ => X235.laload hx (j := (1 : Int32)) (v := (.long (10 : Int64))) (by rw [e235]; exact Ar237.1) (State.isArrayOf_alike hZ.alike Ar237.2.1) Ar237.2.2 hin237 hat237 (g := (mkF m 69 #[.val (.int (1 : Int32)), .val (.ref b225)] [(.int (1 : Int32)), (.ref b225)])) rfl rfl (hb hby d_m5_69) _) ?_
    show Run p e below _ (T235.setTop (mkF m 70 #[.val (.int (1 : Int32)), .val (.ref b225)] [(.long (10 : Int64))]))
    exact endJ X235 hx hlk hret (hb hby d_m5_70) (by rw [e235]; exact ⟨congrArg (fun z => some (Value.long z)) (by decide), N235, K0⟩) (by decide) (by decide)
  · skip
    show Run p e below _ (T235.setTop (mkF m 69 #[.val (.int (2 : Int32)), .val (.ref b225)] [(.int (2 : Int32)), (.ref b225)]))
    obtain ⟨cl238, Ar238, ak238, as238, an238, ah238, ag238⟩ := id V_b225
    have hin238 := inb_of as238 (j := (2 : Int32)) ⟨by decide, by decide⟩
    have hat238 := ah238.at hin238 (v := (.long (100 : Int64))) rfl
    refine go (fun _ => X235.laload hx (j := (2 : Int32)) (v := (.long (100 : Int64))) (by rw [e235]; exact Ar238.1) (State.isArrayOf_alike hZ.alike Ar238.2.1) Ar238.2.2 hin238 hat238 (g := (mkF m 69 #[.val (.int (2 : Int32)), .val (.ref b225)] [(.int (2 : Int32)), (.ref b225)])) rfl rfl (hb hby d_m5_69) _) ?_
    show Run p e below _ (T235.setTop (mkF m 70 #[.val (.int (2 : Int32)), .val (.ref b225)] [(.long (100 : Int64))]))
    exact endJ X235 hx hlk hret (hb hby d_m5_70) (by rw [e235]; exact ⟨congrArg (fun z => some (Value.long z)) (by decide), N235, K0⟩) (by decide) (by decide)
  · skip
    show Run p e below _ (T235.setTop (mkF m 69 #[.val (.int (3 : Int32)), .val (.ref b225)] [(.int (3 : Int32)), (.ref b225)]))
    obtain ⟨cl239, Ar239, ak239, as239, an239, ah239, ag239⟩ := id V_b225
    have hin239 := inb_of as239 (j := (3 : Int32)) ⟨by decide, by decide⟩
    have hat239 := ah239.at hin239 (v := (.long (1000 : Int64))) rfl
    refine go (fun _ => X235.laload hx (j := (3 : Int32)) (v := (.long (1000 : Int64))) (by rw [e235]; exact Ar239.1) (State.isArrayOf_alike hZ.alike Ar239.2.1) Ar239.2.2 hin239 hat239 (g := (mkF m 69 #[.val (.int (3 : Int32)), .val (.ref b225)] [(.int (3 : Int32)), (.ref b225)])) rfl rfl (hb hby d_m5_69) _) ?_
    show Run p e below _ (T235.setTop (mkF m 70 #[.val (.int (3 : Int32)), .val (.ref b225)] [(.long (1000 : Int64))]))
    exact endJ X235 hx hlk hret (hb hby d_m5_70) (by rw [e235]; exact ⟨congrArg (fun z => some (Value.long z)) (by decide), N235, K0⟩) (by decide) (by decide)
  · skip
    show Run p e below _ (T235.setTop (mkF m 69 #[.val (.int (4 : Int32)), .val (.ref b225)] [(.int (4 : Int32)), (.ref b225)]))
    obtain ⟨cl240, Ar240, ak240, as240, an240, ah240, ag240⟩ := id V_b225
    have hin240 := inb_of as240 (j := (4 : Int32)) ⟨by decide, by decide⟩
    have hat240 := ah240.at hin240 (v := (.long (10000 : Int64))) rfl
    refine go (fun _ => X235.laload hx (j := (4 : Int32)) (v := (.long (10000 : Int64))) (by rw [e235]; exact Ar240.1) (State.isArrayOf_alike hZ.alike Ar240.2.1) Ar240.2.2 hin240 hat240 (g := (mkF m 69 #[.val (.int (4 : Int32)), .val (.ref b225)] [(.int (4 : Int32)), (.ref b225)])) rfl rfl (hb hby d_m5_69) _) ?_
    show Run p e below _ (T235.setTop (mkF m 70 #[.val (.int (4 : Int32)), .val (.ref b225)] [(.long (10000 : Int64))]))
    exact endJ X235 hx hlk hret (hb hby d_m5_70) (by rw [e235]; exact ⟨congrArg (fun z => some (Value.long z)) (by decide), N235, K0⟩) (by decide) (by decide)
  · skip
    show Run p e below _ (T235.setTop (mkF m 69 #[.val (.int (5 : Int32)), .val (.ref b225)] [(.int (5 : Int32)), (.ref b225)]))
    obtain ⟨cl241, Ar241, ak241, as241, an241, ah241, ag241⟩ := id V_b225
    have hin241 := inb_of as241 (j := (5 : Int32)) ⟨by decide, by decide⟩
    have hat241 := ah241.at hin241 (v := (.long (100000 : Int64))) rfl
    refine go (fun _ => X235.laload hx (j := (5 : Int32)) (v := (.long (100000 : Int64))) (by rw [e235]; exact Ar241.1) (State.isArrayOf_alike hZ.alike Ar241.2.1) Ar241.2.2 hin241 hat241 (g := (mkF m 69 #[.val (.int (5 : Int32)), .val (.ref b225)] [(.int (5 : Int32)), (.ref b225)])) rfl rfl (hb hby d_m5_69) _) ?_
    show Run p e below _ (T235.setTop (mkF m 70 #[.val (.int (5 : Int32)), .val (.ref b225)] [(.long (100000 : Int64))]))
    exact endJ X235 hx hlk hret (hb hby d_m5_70) (by rw [e235]; exact ⟨congrArg (fun z => some (Value.long z)) (by decide), N235, K0⟩) (by decide) (by decide)
  · skip
    show Run p e below _ (T235.setTop (mkF m 69 #[.val (.int (6 : Int32)), .val (.ref b225)] [(.int (6 : Int32)), (.ref b225)]))
    obtain ⟨cl242, Ar242, ak242, as242, an242, ah242, ag242⟩ := id V_b225
    have hin242 := inb_of as242 (j := (6 : Int32)) ⟨by decide, by decide⟩
    have hat242 := ah242.at hin242 (v := (.long (1000000 : Int64))) rfl
    refine go (fun _ => X235.laload hx (j := (6 : Int32)) (v := (.long (1000000 : Int64))) (by rw [e235]; exact Ar242.1) (State.isArrayOf_alike hZ.alike Ar242.2.1) Ar242.2.2 hin242 hat242 (g := (mkF m 69 #[.val (.int (6 : Int32)), .val (.ref b225)] [(.int (6 : Int32)), (.ref b225)])) rfl rfl (hb hby d_m5_69) _) ?_
    show Run p e below _ (T235.setTop (mkF m 70 #[.val (.int (6 : Int32)), .val (.ref b225)] [(.long (1000000 : Int64))]))
    exact endJ X235 hx hlk hret (hb hby d_m5_70) (by rw [e235]; exact ⟨congrArg (fun z => some (Value.long z)) (by decide), N235, K0⟩) (by decide) (by decide)
  · skip
    show Run p e below _ (T235.setTop (mkF m 69 #[.val (.int (7 : Int32)), .val (.ref b225)] [(.int (7 : Int32)), (.ref b225)]))
    obtain ⟨cl243, Ar243, ak243, as243, an243, ah243, ag243⟩ := id V_b225
    have hin243 := inb_of as243 (j := (7 : Int32)) ⟨by decide, by decide⟩
    have hat243 := ah243.at hin243 (v := (.long (10000000 : Int64))) rfl
    refine go (fun _ => X235.laload hx (j := (7 : Int32)) (v := (.long (10000000 : Int64))) (by rw [e235]; exact Ar243.1) (State.isArrayOf_alike hZ.alike Ar243.2.1) Ar243.2.2 hin243 hat243 (g := (mkF m 69 #[.val (.int (7 : Int32)), .val (.ref b225)] [(.int (7 : Int32)), (.ref b225)])) rfl rfl (hb hby d_m5_69) _) ?_
    show Run p e below _ (T235.setTop (mkF m 70 #[.val (.int (7 : Int32)), .val (.ref b225)] [(.long (10000000 : Int64))]))
    exact endJ X235 hx hlk hret (hb hby d_m5_70) (by rw [e235]; exact ⟨congrArg (fun z => some (Value.long z)) (by decide), N235, K0⟩) (by decide) (by decide)
  · skip
    show Run p e below _ (T235.setTop (mkF m 69 #[.val (.int (8 : Int32)), .val (.ref b225)] [(.int (8 : Int32)), (.ref b225)]))
    obtain ⟨cl244, Ar244, ak244, as244, an244, ah244, ag244⟩ := id V_b225
    have hin244 := inb_of as244 (j := (8 : Int32)) ⟨by decide, by decide⟩
    have hat244 := ah244.at hin244 (v := (.long (100000000 : Int64))) rfl
    refine go (fun _ => X235.laload hx (j := (8 : Int32)) (v := (.long (100000000 : Int64))) (by rw [e235]; exact Ar244.1) (State.isArrayOf_alike hZ.alike Ar244.2.1) Ar244.2.2 hin244 hat244 (g := (mkF m 69 #[.val (.int (8 : Int32)), .val (.ref b225)] [(.int (8 : Int32)), (.ref b225)])) rfl rfl (hb hby d_m5_69) _) ?_
    show Run p e below _ (T235.setTop (mkF m 70 #[.val (.int (8 : Int32)), .val (.ref b225)] [(.long (100000000 : Int64))]))
    exact endJ X235 hx hlk hret (hb hby d_m5_70) (by rw [e235]; exact ⟨congrArg (fun z => some (Value.long z)) (by decide), N235, K0⟩) (by decide) (by decide)
  · skip
    show Run p e below _ (T235.setTop (mkF m 69 #[.val (.int (9 : Int32)), .val (.ref b225)] [(.int (9 : Int32)), (.ref b225)]))
    obtain ⟨cl245, Ar245, ak245, as245, an245, ah245, ag245⟩ := id V_b225
    have hin245 := inb_of as245 (j := (9 : Int32)) ⟨by decide, by decide⟩
    have hat245 := ah245.at hin245 (v := (.long (1000000000 : Int64))) rfl
    refine go (fun _ => X235.laload hx (j := (9 : Int32)) (v := (.long (1000000000 : Int64))) (by rw [e235]; exact Ar245.1) (State.isArrayOf_alike hZ.alike Ar245.2.1) Ar245.2.2 hin245 hat245 (g := (mkF m 69 #[.val (.int (9 : Int32)), .val (.ref b225)] [(.int (9 : Int32)), (.ref b225)])) rfl rfl (hb hby d_m5_69) _) ?_
    show Run p e below _ (T235.setTop (mkF m 70 #[.val (.int (9 : Int32)), .val (.ref b225)] [(.long (1000000000 : Int64))]))
    exact endJ X235 hx hlk hret (hb hby d_m5_70) (by rw [e235]; exact ⟨congrArg (fun z => some (Value.long z)) (by decide), N235, K0⟩) (by decide) (by decide)
theorem d_m6_0 : decode method_6_code 0 = .ok (.iload 5, 2) := by decide +kernel
theorem d_m6_2 : decode method_6_code 2 = .ok (.iload 4, 2) := by decide +kernel
theorem d_m6_4 : decode method_6_code 4 = .ok (.if_icmp .lt 5, 3) := by decide +kernel
theorem d_m6_9 : decode method_6_code 9 = .ok (.lload_n 2, 1) := by decide +kernel
theorem d_m6_10 : decode method_6_code 10 = .ok (.iload 4, 2) := by decide +kernel
theorem d_m6_12 : decode method_6_code 12 = .ok (.iconst 1, 1) := by decide +kernel
theorem d_m6_13 : decode method_6_code 13 = .ok (.isub, 1) := by decide +kernel
theorem d_m6_14 : decode method_6_code 14 = .ok (.iload 5, 2) := by decide +kernel
theorem d_m6_16 : decode method_6_code 16 = .ok (.isub, 1) := by decide +kernel
theorem d_m6_17 : decode method_6_code 17 = .ok (.invokestatic 73, 3) := by decide +kernel
theorem pd_27 : parseMethodDescriptor "(I)J" = some ⟨[.int], some .long⟩ := by decide +kernel
theorem d_m6_20 : decode method_6_code 20 = .ok (.ldiv, 1) := by decide +kernel
theorem d_m6_21 : decode method_6_code 21 = .ok (.ldc2_w 45, 3) := by decide +kernel
theorem d_m6_24 : decode method_6_code 24 = .ok (.lrem, 1) := by decide +kernel
theorem d_m6_25 : decode method_6_code 25 = .ok (.lstore 6, 2) := by decide +kernel
theorem d_m6_27 : decode method_6_code 27 = .ok (.aload_n 0, 1) := by decide +kernel
theorem d_m6_28 : decode method_6_code 28 = .ok (.iload_n 1, 1) := by decide +kernel
theorem d_m6_29 : decode method_6_code 29 = .ok (.iload 5, 2) := by decide +kernel
theorem d_m6_31 : decode method_6_code 31 = .ok (.iadd, 1) := by decide +kernel
theorem d_m6_32 : decode method_6_code 32 = .ok (.invokevirtual 77, 3) := by decide +kernel
theorem pd_28 : parseMethodDescriptor "(I)C" = some ⟨[.int], some .char⟩ := by decide +kernel
theorem d_m6_35 : decode method_6_code 35 = .ok (.ldc2_w 81, 3) := by decide +kernel
theorem d_m6_38 : decode method_6_code 38 = .ok (.lload 6, 2) := by decide +kernel
theorem d_m6_40 : decode method_6_code 40 = .ok (.ladd, 1) := by decide +kernel
theorem d_m6_41 : decode method_6_code 41 = .ok (.l2i, 1) := by decide +kernel
theorem d_m6_42 : decode method_6_code 42 = .ok (.i2c, 1) := by decide +kernel
theorem d_m6_43 : decode method_6_code 43 = .ok (.if_icmp .ne 7, 3) := by decide +kernel
theorem d_m6_46 : decode method_6_code 46 = .ok (.iconst 1, 1) := by decide +kernel
theorem d_m6_47 : decode method_6_code 47 = .ok (.goto 4, 3) := by decide +kernel
theorem d_m6_51 : decode method_6_code 51 = .ok (.ireturn, 1) := by decide +kernel
theorem d_m6_7 : decode method_6_code 7 = .ok (.iconst 1, 1) := by decide +kernel
theorem d_m6_8 : decode method_6_code 8 = .ok (.ireturn, 1) := by decide +kernel
def Q_rm_d (zc : Int32) (fm : Value) (x t : Addr) (kb : ClassId) (cs : List Int32) (off n i : Nat) (h0 : Heap) (n0 : Nat) (v : Option Value) (h : Heap) (L : List Loc) : Prop := v = some (.int 1) ∧ Fr n0 L ∧ Keep h0 h []
set_option maxRecDepth 65536 in
set_option maxHeartbeats 40000000 in
theorem rm_d (l : Launch) (Z : State) (a0 : Array Value) (hw : ∀ d ∈ tables_1, d.before a0 Z = true) (ws : List Jvm.Cond) (zc : Int32) (fm : Value) (x t : Addr) (kb : ClassId) (cs : List Int32) (off n i : Nat) (h0 : Heap) (n0 : Nat) (O0 : Old Z n0 h0) (S_COMPACT_STRINGS : Sta Z Z.heap "java/lang/String" "COMPACT_STRINGS" "Z" (.int zc)) (hzc : ¬ zc = 0) (S_SIOOBE_FORMATTER : Sta Z Z.heap "jdk/internal/util/Preconditions" "SIOOBE_FORMATTER" "Ljava/util/function/BiFunction;" fm) (hfm : fm.isRef = true) (T_x : Str Z h0 x t kb cs) (Hx : In8 cs) (lx : cs.length ≤ 4000) (hn : n ≤ 2 ^ 31) (hi : i < 10) (hin : off + SBG.digits n ≤ cs.length) (hch : ∀ j, j < SBG.digits n → cs.getD (off + j) 0 = Int32.ofNat (48 + n / 10 ^ (SBG.digits n - 1 - j) % 10)) :
    Meets l (⟨"com/example/visit_by_value/visitbyvalue/cli/WholeNumberRangePinLaw", "d", "(Ljava/lang/String;IJII)Z"⟩ : MethodName) method_6_code 8 (some .boolean) ws ({ frames := 4, cells := 1, slots := 10, locals := 53 } : Room) Z #[(.ref x), (.int (Int32.ofNat off)), (.long (Int64.ofNat n)), (.int (Int32.ofNat (SBG.digits n))), (.int (Int32.ofNat i))] h0 (Q_rm_d zc fm x t kb cs off n i h0 n0) 1 10 := by
  refine enter (Ls := #[.val (.ref x), .val (.int (Int32.ofNat off)), .val (.long (Int64.ofNat n)), .second, .val (.int (Int32.ofNat (SBG.digits n))), .val (.int (Int32.ofNat i)), .unset, .unset]) (plainFor_of_name pn_12) (fun m => by first | (simp [entryFrame, mkF, argsToLocals, Value.category]; done) | rfl) ?_
  intro p e s m below meth c T0 hx hby hml hown hnm hret hlk hZ X0 e0
  have N0 := Fr.nil n0
  replace hown : s.vm.findClass "com/example/visit_by_value/visitbyvalue/cli/WholeNumberRangePinLaw" = some m.cls := hown
  show Run p e below _ (T0.setTop (mkF m 0 #[.val (.ref x), .val (.int (Int32.ofNat off)), .val (.long (Int64.ofNat n)), .second, .val (.int (Int32.ofNat (SBG.digits n))), .val (.int (Int32.ofNat i)), .unset, .unset] []))
  have K0 := Keep.refl h0 []
  refine go (fun _ => XS.iload X0.here hx rfl (hb hby d_m6_0) rfl) ?_
  show Run p e below _ (T0.setTop (mkF m 2 #[.val (.ref x), .val (.int (Int32.ofNat off)), .val (.long (Int64.ofNat n)), .second, .val (.int (Int32.ofNat (SBG.digits n))), .val (.int (Int32.ofNat i)), .unset, .unset] [(.int (Int32.ofNat i))]))
  refine go (fun _ => XS.iload X0.here hx rfl (hb hby d_m6_2) rfl) ?_
  show Run p e below _ (T0.setTop (mkF m 4 #[.val (.ref x), .val (.int (Int32.ofNat off)), .val (.long (Int64.ofNat n)), .second, .val (.int (Int32.ofNat (SBG.digits n))), .val (.int (Int32.ofNat i)), .unset, .unset] [(.int (Int32.ofNat (SBG.digits n))), (.int (Int32.ofNat i))]))
  by_cases c246 : (Int32.ofNat i) < (Int32.ofNat (SBG.digits n))
  · skip
    refine go (fun _ => XS.icmpYes X0.here hx rfl (pc0 := 4) (pc' := 9) rfl (hb hby d_m6_4) rfl (tlt c246).1 (by decide) (by decide)) ?_
    show Run p e below _ (T0.setTop (mkF m 9 #[.val (.ref x), .val (.int (Int32.ofNat off)), .val (.long (Int64.ofNat n)), .second, .val (.int (Int32.ofNat (SBG.digits n))), .val (.int (Int32.ofNat i)), .unset, .unset] []))
    refine go (fun _ => XS.lloadN X0.here hx rfl (hb hby d_m6_9) rfl) ?_
    show Run p e below _ (T0.setTop (mkF m 10 #[.val (.ref x), .val (.int (Int32.ofNat off)), .val (.long (Int64.ofNat n)), .second, .val (.int (Int32.ofNat (SBG.digits n))), .val (.int (Int32.ofNat i)), .unset, .unset] [(.long (Int64.ofNat n))]))
    refine go (fun _ => XS.iload X0.here hx rfl (hb hby d_m6_10) rfl) ?_
    show Run p e below _ (T0.setTop (mkF m 12 #[.val (.ref x), .val (.int (Int32.ofNat off)), .val (.long (Int64.ofNat n)), .second, .val (.int (Int32.ofNat (SBG.digits n))), .val (.int (Int32.ofNat i)), .unset, .unset] [(.int (Int32.ofNat (SBG.digits n))), (.long (Int64.ofNat n))]))
    refine go (fun _ => XS.iconst X0.here hx rfl (hb hby d_m6_12)) ?_
    show Run p e below _ (T0.setTop (mkF m 13 #[.val (.ref x), .val (.int (Int32.ofNat off)), .val (.long (Int64.ofNat n)), .second, .val (.int (Int32.ofNat (SBG.digits n))), .val (.int (Int32.ofNat i)), .unset, .unset] [(.int (1 : Int32)), (.int (Int32.ofNat (SBG.digits n))), (.long (Int64.ofNat n))]))
    refine go (fun _ => XS.isub X0.here hx rfl (hb hby d_m6_13) rfl) ?_
    show Run p e below _ (T0.setTop (mkF m 14 #[.val (.ref x), .val (.int (Int32.ofNat off)), .val (.long (Int64.ofNat n)), .second, .val (.int (Int32.ofNat (SBG.digits n))), .val (.int (Int32.ofNat i)), .unset, .unset] [(.int ((Int32.ofNat (SBG.digits n)) - (1 : Int32))), (.long (Int64.ofNat n))]))
    refine go (fun _ => XS.iload X0.here hx rfl (hb hby d_m6_14) rfl) ?_
    show Run p e below _ (T0.setTop (mkF m 16 #[.val (.ref x), .val (.int (Int32.ofNat off)), .val (.long (Int64.ofNat n)), .second, .val (.int (Int32.ofNat (SBG.digits n))), .val (.int (Int32.ofNat i)), .unset, .unset] [(.int (Int32.ofNat i)), (.int ((Int32.ofNat (SBG.digits n)) - (1 : Int32))), (.long (Int64.ofNat n))]))
    refine go (fun _ => XS.isub X0.here hx rfl (hb hby d_m6_16) rfl) ?_
    show Run p e below _ (T0.setTop (mkF m 17 #[.val (.ref x), .val (.int (Int32.ofNat off)), .val (.long (Int64.ofNat n)), .second, .val (.int (Int32.ofNat (SBG.digits n))), .val (.int (Int32.ofNat i)), .unset, .unset] [(.int (((Int32.ofNat (SBG.digits n)) - (1 : Int32)) - (Int32.ofNat i))), (.long (Int64.ofNat n))]))
    have hlt : i < SBG.digits n := (own_lti (by omega) (by have := (SBG.digits_pos n).2; omega)).mp c246
    have hd10 := (SBG.digits_pos n).2
    rw [own_s2 hlt hd10]
    show Run p e below _ (T0.setTop (mkF m 17 #[.val (.ref x), .val (.int (Int32.ofNat off)), .val (.long (Int64.ofNat n)), .second, .val (.int (Int32.ofNat (SBG.digits n))), .val (.int (Int32.ofNat i)), .unset, .unset] [(.int (Int32.ofNat (SBG.digits n - 1 - i))), (.long (Int64.ofNat n))]))
    refine callSt X0 hx hZ hown (wd hw 231 rfl) (wd hw 232 rfl) (wd hw 185 rfl) (wd hw 233 rfl) (by decide) e0 (argsL := [(.int (Int32.ofNat (SBG.digits n - 1 - i)))]) (rest := [(.long (Int64.ofNat n))]) (rm_pw l Z a0 hw [] (SBG.digits n - 1 - i) h0 n0 O0 (by omega)) (W := 2) (by decide) (by decide) (by decide) (by decide) (by rw [hml]; rfl) (lenOf pd_27 rfl) rfl (Nat.le_of_eq rfl) (hb hby d_m6_17) ?_
    intro v247 T247 L247 h247 X247 e247 q247
    obtain ⟨rfl, n247, K247⟩ := q247
    have O0 := O0.keep K247 all0
    have T_x := T_x.keep K247 nin0 nin0
    have K0 := K0.trans K247 all0
    have N247 := Fr.app N0 n247
    show Run p e below _ (T247.setTop (mkF m 20 #[.val (.ref x), .val (.int (Int32.ofNat off)), .val (.long (Int64.ofNat n)), .second, .val (.int (Int32.ofNat (SBG.digits n))), .val (.int (Int32.ofNat i)), .unset, .unset] [(.long (Int64.ofNat (10 ^ (SBG.digits n - 1 - i)))), (.long (Int64.ofNat n))]))
    refine go (fun _ => XS.ldiv X247.here hx rfl (hb hby d_m6_20) rfl (own_pnz (by omega))) ?_
    show Run p e below _ (T247.setTop (mkF m 21 #[.val (.ref x), .val (.int (Int32.ofNat off)), .val (.long (Int64.ofNat n)), .second, .val (.int (Int32.ofNat (SBG.digits n))), .val (.int (Int32.ofNat i)), .unset, .unset] [(.long ((Int64.ofNat n) / (Int64.ofNat (10 ^ (SBG.digits n - 1 - i)))))]))
    refine go (fun _ => X247.ldc2J hx hown (mvT hZ (wd hw 193 rfl)) rfl (hb hby d_m6_21)) ?_
    show Run p e below _ (T247.setTop (mkF m 24 #[.val (.ref x), .val (.int (Int32.ofNat off)), .val (.long (Int64.ofNat n)), .second, .val (.int (Int32.ofNat (SBG.digits n))), .val (.int (Int32.ofNat i)), .unset, .unset] [(.long (10 : Int64)), (.long ((Int64.ofNat n) / (Int64.ofNat (10 ^ (SBG.digits n - 1 - i)))))]))
    refine go (fun _ => XS.lrem X247.here hx rfl (hb hby d_m6_24) rfl (by decide)) ?_
    show Run p e below _ (T247.setTop (mkF m 25 #[.val (.ref x), .val (.int (Int32.ofNat off)), .val (.long (Int64.ofNat n)), .second, .val (.int (Int32.ofNat (SBG.digits n))), .val (.int (Int32.ofNat i)), .unset, .unset] [(.long (((Int64.ofNat n) / (Int64.ofNat (10 ^ (SBG.digits n - 1 - i)))) - (((Int64.ofNat n) / (Int64.ofNat (10 ^ (SBG.digits n - 1 - i)))) / (10 : Int64)) * (10 : Int64)))]))
    refine go (fun _ => XS.lstore X247.here hx rfl (hb hby d_m6_25) rfl (l' := #[.val (.ref x), .val (.int (Int32.ofNat off)), .val (.long (Int64.ofNat n)), .second, .val (.int (Int32.ofNat (SBG.digits n))), .val (.int (Int32.ofNat i)), .val (.long (((Int64.ofNat n) / (Int64.ofNat (10 ^ (SBG.digits n - 1 - i)))) - (((Int64.ofNat n) / (Int64.ofNat (10 ^ (SBG.digits n - 1 - i)))) / (10 : Int64)) * (10 : Int64))), .second]) rfl) ?_
    show Run p e below _ (T247.setTop (mkF m 27 #[.val (.ref x), .val (.int (Int32.ofNat off)), .val (.long (Int64.ofNat n)), .second, .val (.int (Int32.ofNat (SBG.digits n))), .val (.int (Int32.ofNat i)), .val (.long (((Int64.ofNat n) / (Int64.ofNat (10 ^ (SBG.digits n - 1 - i)))) - (((Int64.ofNat n) / (Int64.ofNat (10 ^ (SBG.digits n - 1 - i)))) / (10 : Int64)) * (10 : Int64))), .second] []))
    refine go (fun _ => XS.aloadN X247.here hx rfl (hb hby d_m6_27) rfl rfl) ?_
    show Run p e below _ (T247.setTop (mkF m 28 #[.val (.ref x), .val (.int (Int32.ofNat off)), .val (.long (Int64.ofNat n)), .second, .val (.int (Int32.ofNat (SBG.digits n))), .val (.int (Int32.ofNat i)), .val (.long (((Int64.ofNat n) / (Int64.ofNat (10 ^ (SBG.digits n - 1 - i)))) - (((Int64.ofNat n) / (Int64.ofNat (10 ^ (SBG.digits n - 1 - i)))) / (10 : Int64)) * (10 : Int64))), .second] [(.ref x)]))
    refine go (fun _ => XS.iloadN X247.here hx rfl (hb hby d_m6_28) rfl) ?_
    show Run p e below _ (T247.setTop (mkF m 29 #[.val (.ref x), .val (.int (Int32.ofNat off)), .val (.long (Int64.ofNat n)), .second, .val (.int (Int32.ofNat (SBG.digits n))), .val (.int (Int32.ofNat i)), .val (.long (((Int64.ofNat n) / (Int64.ofNat (10 ^ (SBG.digits n - 1 - i)))) - (((Int64.ofNat n) / (Int64.ofNat (10 ^ (SBG.digits n - 1 - i)))) / (10 : Int64)) * (10 : Int64))), .second] [(.int (Int32.ofNat off)), (.ref x)]))
    refine go (fun _ => XS.iload X247.here hx rfl (hb hby d_m6_29) rfl) ?_
    show Run p e below _ (T247.setTop (mkF m 31 #[.val (.ref x), .val (.int (Int32.ofNat off)), .val (.long (Int64.ofNat n)), .second, .val (.int (Int32.ofNat (SBG.digits n))), .val (.int (Int32.ofNat i)), .val (.long (((Int64.ofNat n) / (Int64.ofNat (10 ^ (SBG.digits n - 1 - i)))) - (((Int64.ofNat n) / (Int64.ofNat (10 ^ (SBG.digits n - 1 - i)))) / (10 : Int64)) * (10 : Int64))), .second] [(.int (Int32.ofNat i)), (.int (Int32.ofNat off)), (.ref x)]))
    refine go (fun _ => XS.iadd X247.here hx rfl (hb hby d_m6_31) rfl) ?_
    rw [own_add]
    show Run p e below _ (T247.setTop (mkF m 32 #[.val (.ref x), .val (.int (Int32.ofNat off)), .val (.long (Int64.ofNat n)), .second, .val (.int (Int32.ofNat (SBG.digits n))), .val (.int (Int32.ofNat i)), .val (.long (((Int64.ofNat n) / (Int64.ofNat (10 ^ (SBG.digits n - 1 - i)))) - (((Int64.ofNat n) / (Int64.ofNat (10 ^ (SBG.digits n - 1 - i)))) / (10 : Int64)) * (10 : Int64))), .second] [(.int (Int32.ofNat (off + i))), (.ref x)]))
    refine callVi X247 hx hZ hown (wd hw 203 rfl) (wd hw 204 rfl) (notFace_of_selects (args := #[]) (mvT hZ (wd hw 206 rfl))) (wd hw 206 rfl) (wd hw 205 rfl) (wd hw 207 rfl) (wd hw 37 rfl) (by decide) e247 T_x.1 (argsL := [(.int (Int32.ofNat (off + i)))]) (rest := []) (rm_ch l Z a0 hw [] zc fm x t kb cs (off + i) h247 n0 O0 S_COMPACT_STRINGS hzc S_SIOOBE_FORMATTER hfm T_x Hx lx (by omega)) (W := 0) (by decide) (by decide) (by decide) (by decide) (by rw [hml]; rfl) (lenOf pd_28 rfl) rfl (Nat.le_of_eq rfl) (hb hby d_m6_32) ?_
    intro v248 T248 L248 h248 X248 e248 q248
    obtain ⟨rv, n248, k248⟩ := q248
    replace rv : v248 = some (.int (Int32.ofNat (48 + n / 10 ^ (SBG.digits n - 1 - i) % 10))) := by rw [hch i hlt] at rv; exact rv
    subst rv
    have e248 := e248.trans k248
    have N248 := Fr.app N247 n248
    show Run p e below _ (T248.setTop (mkF m 35 #[.val (.ref x), .val (.int (Int32.ofNat off)), .val (.long (Int64.ofNat n)), .second, .val (.int (Int32.ofNat (SBG.digits n))), .val (.int (Int32.ofNat i)), .val (.long (((Int64.ofNat n) / (Int64.ofNat (10 ^ (SBG.digits n - 1 - i)))) - (((Int64.ofNat n) / (Int64.ofNat (10 ^ (SBG.digits n - 1 - i)))) / (10 : Int64)) * (10 : Int64))), .second] [(.int (Int32.ofNat (48 + n / 10 ^ (SBG.digits n - 1 - i) % 10)))]))
    refine go (fun _ => X248.ldc2J hx hown (mvT hZ (wd hw 243 rfl)) rfl (hb hby d_m6_35)) ?_
    show Run p e below _ (T248.setTop (mkF m 38 #[.val (.ref x), .val (.int (Int32.ofNat off)), .val (.long (Int64.ofNat n)), .second, .val (.int (Int32.ofNat (SBG.digits n))), .val (.int (Int32.ofNat i)), .val (.long (((Int64.ofNat n) / (Int64.ofNat (10 ^ (SBG.digits n - 1 - i)))) - (((Int64.ofNat n) / (Int64.ofNat (10 ^ (SBG.digits n - 1 - i)))) / (10 : Int64)) * (10 : Int64))), .second] [(.long (48 : Int64)), (.int (Int32.ofNat (48 + n / 10 ^ (SBG.digits n - 1 - i) % 10)))]))
    refine go (fun _ => XS.lload X248.here hx rfl (hb hby d_m6_38) rfl) ?_
    show Run p e below _ (T248.setTop (mkF m 40 #[.val (.ref x), .val (.int (Int32.ofNat off)), .val (.long (Int64.ofNat n)), .second, .val (.int (Int32.ofNat (SBG.digits n))), .val (.int (Int32.ofNat i)), .val (.long (((Int64.ofNat n) / (Int64.ofNat (10 ^ (SBG.digits n - 1 - i)))) - (((Int64.ofNat n) / (Int64.ofNat (10 ^ (SBG.digits n - 1 - i)))) / (10 : Int64)) * (10 : Int64))), .second] [(.long (((Int64.ofNat n) / (Int64.ofNat (10 ^ (SBG.digits n - 1 - i)))) - (((Int64.ofNat n) / (Int64.ofNat (10 ^ (SBG.digits n - 1 - i)))) / (10 : Int64)) * (10 : Int64))), (.long (48 : Int64)), (.int (Int32.ofNat (48 + n / 10 ^ (SBG.digits n - 1 - i) % 10)))]))
    refine go (fun _ => XS.ladd X248.here hx rfl (hb hby d_m6_40) rfl) ?_
    show Run p e below _ (T248.setTop (mkF m 41 #[.val (.ref x), .val (.int (Int32.ofNat off)), .val (.long (Int64.ofNat n)), .second, .val (.int (Int32.ofNat (SBG.digits n))), .val (.int (Int32.ofNat i)), .val (.long (((Int64.ofNat n) / (Int64.ofNat (10 ^ (SBG.digits n - 1 - i)))) - (((Int64.ofNat n) / (Int64.ofNat (10 ^ (SBG.digits n - 1 - i)))) / (10 : Int64)) * (10 : Int64))), .second] [(.long ((48 : Int64) + (((Int64.ofNat n) / (Int64.ofNat (10 ^ (SBG.digits n - 1 - i)))) - (((Int64.ofNat n) / (Int64.ofNat (10 ^ (SBG.digits n - 1 - i)))) / (10 : Int64)) * (10 : Int64)))), (.int (Int32.ofNat (48 + n / 10 ^ (SBG.digits n - 1 - i) % 10)))]))
    refine go (fun _ => XS.l2i X248.here hx rfl (hb hby d_m6_41) rfl) ?_
    show Run p e below _ (T248.setTop (mkF m 42 #[.val (.ref x), .val (.int (Int32.ofNat off)), .val (.long (Int64.ofNat n)), .second, .val (.int (Int32.ofNat (SBG.digits n))), .val (.int (Int32.ofNat i)), .val (.long (((Int64.ofNat n) / (Int64.ofNat (10 ^ (SBG.digits n - 1 - i)))) - (((Int64.ofNat n) / (Int64.ofNat (10 ^ (SBG.digits n - 1 - i)))) / (10 : Int64)) * (10 : Int64))), .second] [(.int (((48 : Int64) + (((Int64.ofNat n) / (Int64.ofNat (10 ^ (SBG.digits n - 1 - i)))) - (((Int64.ofNat n) / (Int64.ofNat (10 ^ (SBG.digits n - 1 - i)))) / (10 : Int64)) * (10 : Int64))).toInt32)), (.int (Int32.ofNat (48 + n / 10 ^ (SBG.digits n - 1 - i) % 10)))]))
    refine go (fun _ => XS.i2c X248.here hx rfl (hb hby d_m6_42) rfl) ?_
    show Run p e below _ (T248.setTop (mkF m 43 #[.val (.ref x), .val (.int (Int32.ofNat off)), .val (.long (Int64.ofNat n)), .second, .val (.int (Int32.ofNat (SBG.digits n))), .val (.int (Int32.ofNat i)), .val (.long (((Int64.ofNat n) / (Int64.ofNat (10 ^ (SBG.digits n - 1 - i)))) - (((Int64.ofNat n) / (Int64.ofNat (10 ^ (SBG.digits n - 1 - i)))) / (10 : Int64)) * (10 : Int64))), .second] [(.int ((((48 : Int64) + (((Int64.ofNat n) / (Int64.ofNat (10 ^ (SBG.digits n - 1 - i)))) - (((Int64.ofNat n) / (Int64.ofNat (10 ^ (SBG.digits n - 1 - i)))) / (10 : Int64)) * (10 : Int64))).toInt32).toUInt32.toUInt16.toUInt32.toInt32)), (.int (Int32.ofNat (48 + n / 10 ^ (SBG.digits n - 1 - i) % 10)))]))
    have hdg : (Int32.ofNat (48 + n / 10 ^ (SBG.digits n - 1 - i) % 10)) = ((((48 : Int64) + (((Int64.ofNat n) / (Int64.ofNat (10 ^ (SBG.digits n - 1 - i)))) - (((Int64.ofNat n) / (Int64.ofNat (10 ^ (SBG.digits n - 1 - i)))) / (10 : Int64)) * (10 : Int64))).toInt32).toUInt32.toUInt16.toUInt32.toInt32) := own_dig hn (by omega)
    refine go (fun _ => XS.icmpNo X248.here hx rfl (hb hby d_m6_43) rfl (teq hdg).2) ?_
    show Run p e below _ (T248.setTop (mkF m 46 #[.val (.ref x), .val (.int (Int32.ofNat off)), .val (.long (Int64.ofNat n)), .second, .val (.int (Int32.ofNat (SBG.digits n))), .val (.int (Int32.ofNat i)), .val (.long (((Int64.ofNat n) / (Int64.ofNat (10 ^ (SBG.digits n - 1 - i)))) - (((Int64.ofNat n) / (Int64.ofNat (10 ^ (SBG.digits n - 1 - i)))) / (10 : Int64)) * (10 : Int64))), .second] []))
    refine go (fun _ => XS.iconst X248.here hx rfl (hb hby d_m6_46)) ?_
    show Run p e below _ (T248.setTop (mkF m 47 #[.val (.ref x), .val (.int (Int32.ofNat off)), .val (.long (Int64.ofNat n)), .second, .val (.int (Int32.ofNat (SBG.digits n))), .val (.int (Int32.ofNat i)), .val (.long (((Int64.ofNat n) / (Int64.ofNat (10 ^ (SBG.digits n - 1 - i)))) - (((Int64.ofNat n) / (Int64.ofNat (10 ^ (SBG.digits n - 1 - i)))) / (10 : Int64)) * (10 : Int64))), .second] [(.int (1 : Int32))]))
    refine go (fun _ => XS.goto X248.here hx rfl (pc0 := 47) (pc' := 51) rfl (hb hby d_m6_47) (by decide) (by decide)) ?_
    show Run p e below _ (T248.setTop (mkF m 51 #[.val (.ref x), .val (.int (Int32.ofNat off)), .val (.long (Int64.ofNat n)), .second, .val (.int (Int32.ofNat (SBG.digits n))), .val (.int (Int32.ofNat i)), .val (.long (((Int64.ofNat n) / (Int64.ofNat (10 ^ (SBG.digits n - 1 - i)))) - (((Int64.ofNat n) / (Int64.ofNat (10 ^ (SBG.digits n - 1 - i)))) / (10 : Int64)) * (10 : Int64))), .second] [(.int (1 : Int32))]))
    exact endN X248 hx hlk (t := .boolean) hret (by simp) (hb hby d_m6_51) (by rw [e248]; exact ⟨rfl, N248, K0⟩) (by decide) (by decide)
  · skip
    refine go (fun _ => XS.icmpNo X0.here hx rfl (hb hby d_m6_4) rfl (flt c246).1) ?_
    show Run p e below _ (T0.setTop (mkF m 7 #[.val (.ref x), .val (.int (Int32.ofNat off)), .val (.long (Int64.ofNat n)), .second, .val (.int (Int32.ofNat (SBG.digits n))), .val (.int (Int32.ofNat i)), .unset, .unset] []))
    refine go (fun _ => XS.iconst X0.here hx rfl (hb hby d_m6_7)) ?_
    show Run p e below _ (T0.setTop (mkF m 8 #[.val (.ref x), .val (.int (Int32.ofNat off)), .val (.long (Int64.ofNat n)), .second, .val (.int (Int32.ofNat (SBG.digits n))), .val (.int (Int32.ofNat i)), .unset, .unset] [(.int (1 : Int32))]))
    exact endN X0 hx hlk (t := .boolean) hret (by simp) (hb hby d_m6_8) (by rw [e0]; exact ⟨rfl, N0, K0⟩) (by decide) (by decide)
theorem d_m7_0 : decode method_7_code 0 = .ok (.iload_n 2, 1) := by decide +kernel
theorem d_m7_1 : decode method_7_code 1 = .ok (.i2l, 1) := by decide +kernel
theorem d_m7_2 : decode method_7_code 2 = .ok (.invokestatic 63, 3) := by decide +kernel
theorem d_m7_5 : decode method_7_code 5 = .ok (.lstore_n 3, 1) := by decide +kernel
theorem d_m7_6 : decode method_7_code 6 = .ok (.lload_n 3, 1) := by decide +kernel
theorem d_m7_7 : decode method_7_code 7 = .ok (.invokestatic 69, 3) := by decide +kernel
theorem d_m7_10 : decode method_7_code 10 = .ok (.istore 5, 2) := by decide +kernel
theorem d_m7_12 : decode method_7_code 12 = .ok (.iload_n 1, 1) := by decide +kernel
theorem d_m7_13 : decode method_7_code 13 = .ok (.istore 6, 2) := by decide +kernel
theorem d_m7_15 : decode method_7_code 15 = .ok (.iload_n 2, 1) := by decide +kernel
theorem d_m7_16 : decode method_7_code 16 = .ok (.ifCond .ge 20, 3) := by decide +kernel
theorem d_m7_19 : decode method_7_code 19 = .ok (.aload_n 0, 1) := by decide +kernel
theorem d_m7_20 : decode method_7_code 20 = .ok (.iload_n 1, 1) := by decide +kernel
theorem d_m7_21 : decode method_7_code 21 = .ok (.invokevirtual 77, 3) := by decide +kernel
theorem d_m7_24 : decode method_7_code 24 = .ok (.bipush 45, 2) := by decide +kernel
theorem d_m7_26 : decode method_7_code 26 = .ok (.if_icmp .eq 5, 3) := by decide +kernel
theorem d_m7_31 : decode method_7_code 31 = .ok (.iload_n 1, 1) := by decide +kernel
theorem d_m7_32 : decode method_7_code 32 = .ok (.iconst 1, 1) := by decide +kernel
theorem d_m7_33 : decode method_7_code 33 = .ok (.iadd, 1) := by decide +kernel
theorem d_m7_34 : decode method_7_code 34 = .ok (.istore 6, 2) := by decide +kernel
theorem d_m7_36 : decode method_7_code 36 = .ok (.aload_n 0, 1) := by decide +kernel
theorem d_m7_37 : decode method_7_code 37 = .ok (.iload 6, 2) := by decide +kernel
theorem d_m7_39 : decode method_7_code 39 = .ok (.lload_n 3, 1) := by decide +kernel
theorem d_m7_40 : decode method_7_code 40 = .ok (.iload 5, 2) := by decide +kernel
theorem d_m7_42 : decode method_7_code 42 = .ok (.iconst 0, 1) := by decide +kernel
theorem d_m7_43 : decode method_7_code 43 = .ok (.invokestatic 83, 3) := by decide +kernel
theorem pd_29 : parseMethodDescriptor "(Ljava/lang/String;IJII)Z" = some ⟨[(.object "java/lang/String"), .int, .long, .int, .int], some .boolean⟩ := by decide +kernel
theorem d_m7_46 : decode method_7_code 46 = .ok (.ifCond .eq 128, 3) := by decide +kernel
theorem d_m7_49 : decode method_7_code 49 = .ok (.aload_n 0, 1) := by decide +kernel
theorem d_m7_50 : decode method_7_code 50 = .ok (.iload 6, 2) := by decide +kernel
theorem d_m7_52 : decode method_7_code 52 = .ok (.lload_n 3, 1) := by decide +kernel
theorem d_m7_53 : decode method_7_code 53 = .ok (.iload 5, 2) := by decide +kernel
theorem d_m7_55 : decode method_7_code 55 = .ok (.iconst 1, 1) := by decide +kernel
theorem d_m7_56 : decode method_7_code 56 = .ok (.invokestatic 83, 3) := by decide +kernel
theorem d_m7_59 : decode method_7_code 59 = .ok (.ifCond .eq 115, 3) := by decide +kernel
theorem d_m7_62 : decode method_7_code 62 = .ok (.aload_n 0, 1) := by decide +kernel
theorem d_m7_63 : decode method_7_code 63 = .ok (.iload 6, 2) := by decide +kernel
theorem d_m7_65 : decode method_7_code 65 = .ok (.lload_n 3, 1) := by decide +kernel
theorem d_m7_66 : decode method_7_code 66 = .ok (.iload 5, 2) := by decide +kernel
theorem d_m7_68 : decode method_7_code 68 = .ok (.iconst 2, 1) := by decide +kernel
theorem d_m7_69 : decode method_7_code 69 = .ok (.invokestatic 83, 3) := by decide +kernel
theorem d_m7_72 : decode method_7_code 72 = .ok (.ifCond .eq 102, 3) := by decide +kernel
theorem d_m7_75 : decode method_7_code 75 = .ok (.aload_n 0, 1) := by decide +kernel
theorem d_m7_76 : decode method_7_code 76 = .ok (.iload 6, 2) := by decide +kernel
theorem d_m7_78 : decode method_7_code 78 = .ok (.lload_n 3, 1) := by decide +kernel
theorem d_m7_79 : decode method_7_code 79 = .ok (.iload 5, 2) := by decide +kernel
theorem d_m7_81 : decode method_7_code 81 = .ok (.iconst 3, 1) := by decide +kernel
theorem d_m7_82 : decode method_7_code 82 = .ok (.invokestatic 83, 3) := by decide +kernel
theorem d_m7_85 : decode method_7_code 85 = .ok (.ifCond .eq 89, 3) := by decide +kernel
theorem d_m7_88 : decode method_7_code 88 = .ok (.aload_n 0, 1) := by decide +kernel
theorem d_m7_89 : decode method_7_code 89 = .ok (.iload 6, 2) := by decide +kernel
theorem d_m7_91 : decode method_7_code 91 = .ok (.lload_n 3, 1) := by decide +kernel
theorem d_m7_92 : decode method_7_code 92 = .ok (.iload 5, 2) := by decide +kernel
theorem d_m7_94 : decode method_7_code 94 = .ok (.iconst 4, 1) := by decide +kernel
theorem d_m7_95 : decode method_7_code 95 = .ok (.invokestatic 83, 3) := by decide +kernel
theorem d_m7_98 : decode method_7_code 98 = .ok (.ifCond .eq 76, 3) := by decide +kernel
theorem d_m7_101 : decode method_7_code 101 = .ok (.aload_n 0, 1) := by decide +kernel
theorem d_m7_102 : decode method_7_code 102 = .ok (.iload 6, 2) := by decide +kernel
theorem d_m7_104 : decode method_7_code 104 = .ok (.lload_n 3, 1) := by decide +kernel
theorem d_m7_105 : decode method_7_code 105 = .ok (.iload 5, 2) := by decide +kernel
theorem d_m7_107 : decode method_7_code 107 = .ok (.iconst 5, 1) := by decide +kernel
theorem d_m7_108 : decode method_7_code 108 = .ok (.invokestatic 83, 3) := by decide +kernel
theorem d_m7_111 : decode method_7_code 111 = .ok (.ifCond .eq 63, 3) := by decide +kernel
theorem d_m7_114 : decode method_7_code 114 = .ok (.aload_n 0, 1) := by decide +kernel
theorem d_m7_115 : decode method_7_code 115 = .ok (.iload 6, 2) := by decide +kernel
theorem d_m7_117 : decode method_7_code 117 = .ok (.lload_n 3, 1) := by decide +kernel
theorem d_m7_118 : decode method_7_code 118 = .ok (.iload 5, 2) := by decide +kernel
theorem d_m7_120 : decode method_7_code 120 = .ok (.bipush 6, 2) := by decide +kernel
theorem d_m7_122 : decode method_7_code 122 = .ok (.invokestatic 83, 3) := by decide +kernel
theorem d_m7_125 : decode method_7_code 125 = .ok (.ifCond .eq 49, 3) := by decide +kernel
theorem d_m7_128 : decode method_7_code 128 = .ok (.aload_n 0, 1) := by decide +kernel
theorem d_m7_129 : decode method_7_code 129 = .ok (.iload 6, 2) := by decide +kernel
theorem d_m7_131 : decode method_7_code 131 = .ok (.lload_n 3, 1) := by decide +kernel
theorem d_m7_132 : decode method_7_code 132 = .ok (.iload 5, 2) := by decide +kernel
theorem d_m7_134 : decode method_7_code 134 = .ok (.bipush 7, 2) := by decide +kernel
theorem d_m7_136 : decode method_7_code 136 = .ok (.invokestatic 83, 3) := by decide +kernel
theorem d_m7_139 : decode method_7_code 139 = .ok (.ifCond .eq 35, 3) := by decide +kernel
theorem d_m7_142 : decode method_7_code 142 = .ok (.aload_n 0, 1) := by decide +kernel
theorem d_m7_143 : decode method_7_code 143 = .ok (.iload 6, 2) := by decide +kernel
theorem d_m7_145 : decode method_7_code 145 = .ok (.lload_n 3, 1) := by decide +kernel
theorem d_m7_146 : decode method_7_code 146 = .ok (.iload 5, 2) := by decide +kernel
theorem d_m7_148 : decode method_7_code 148 = .ok (.bipush 8, 2) := by decide +kernel
theorem d_m7_150 : decode method_7_code 150 = .ok (.invokestatic 83, 3) := by decide +kernel
theorem d_m7_153 : decode method_7_code 153 = .ok (.ifCond .eq 21, 3) := by decide +kernel
theorem d_m7_156 : decode method_7_code 156 = .ok (.aload_n 0, 1) := by decide +kernel
theorem d_m7_157 : decode method_7_code 157 = .ok (.iload 6, 2) := by decide +kernel
theorem d_m7_159 : decode method_7_code 159 = .ok (.lload_n 3, 1) := by decide +kernel
theorem d_m7_160 : decode method_7_code 160 = .ok (.iload 5, 2) := by decide +kernel
theorem d_m7_162 : decode method_7_code 162 = .ok (.bipush 9, 2) := by decide +kernel
theorem d_m7_164 : decode method_7_code 164 = .ok (.invokestatic 83, 3) := by decide +kernel
theorem d_m7_167 : decode method_7_code 167 = .ok (.ifCond .eq 7, 3) := by decide +kernel
theorem d_m7_170 : decode method_7_code 170 = .ok (.iconst 1, 1) := by decide +kernel
theorem d_m7_171 : decode method_7_code 171 = .ok (.goto 4, 3) := by decide +kernel
theorem d_m7_175 : decode method_7_code 175 = .ok (.ireturn, 1) := by decide +kernel
def Q_rm_nm (zc : Int32) (fm : Value) (x t : Addr) (kb : ClassId) (cs : List Int32) (off : Nat) (p2 : Int32) (n : Nat) (h0 : Heap) (n0 : Nat) (v : Option Value) (h : Heap) (L : List Loc) : Prop := v = some (.int 1) ∧ Fr n0 L ∧ Keep h0 h []
set_option maxRecDepth 65536 in
set_option maxHeartbeats 40000000 in
theorem rm_nm (l : Launch) (Z : State) (a0 : Array Value) (hw : ∀ d ∈ tables_1, d.before a0 Z = true) (ws : List Jvm.Cond) (zc : Int32) (fm : Value) (x t : Addr) (kb : ClassId) (cs : List Int32) (off : Nat) (p2 : Int32) (n : Nat) (h0 : Heap) (n0 : Nat) (O0 : Old Z n0 h0) (S_COMPACT_STRINGS : Sta Z Z.heap "java/lang/String" "COMPACT_STRINGS" "Z" (.int zc)) (hzc : ¬ zc = 0) (S_SIOOBE_FORMATTER : Sta Z Z.heap "jdk/internal/util/Preconditions" "SIOOBE_FORMATTER" "Ljava/util/function/BiFunction;" fm) (hfm : fm.isRef = true) (T_x : Str Z h0 x t kb cs) (Hx : In8 cs) (lx : cs.length ≤ 4000) (hn : n ≤ 2 ^ 31) (hx1 : (if p2 < 0 then p2 else -p2) = SBG.negI n) (hin : off + (decI p2 n).length ≤ cs.length) (hch : ∀ j, j < (decI p2 n).length → cs.getD (off + j) 0 = (decI p2 n).getD j 0) :
    Meets l (⟨"com/example/visit_by_value/visitbyvalue/cli/WholeNumberRangePinLaw", "num", "(Ljava/lang/String;II)Z"⟩ : MethodName) method_7_code 7 (some .boolean) ws ({ frames := 5, cells := 10, slots := 100, locals := 72 } : Room) Z #[(.ref x), (.int (Int32.ofNat off)), (.int p2)] h0 (Q_rm_nm zc fm x t kb cs off p2 n h0 n0) 10 100 := by
  refine enter (Ls := #[.val (.ref x), .val (.int (Int32.ofNat off)), .val (.int p2), .unset, .unset, .unset, .unset]) (plainFor_of_name pn_12) (fun m => by first | (simp [entryFrame, mkF, argsToLocals, Value.category]; done) | rfl) ?_
  intro p e s m below meth c T0 hx hby hml hown hnm hret hlk hZ X0 e0
  have N0 := Fr.nil n0
  replace hown : s.vm.findClass "com/example/visit_by_value/visitbyvalue/cli/WholeNumberRangePinLaw" = some m.cls := hown
  show Run p e below _ (T0.setTop (mkF m 0 #[.val (.ref x), .val (.int (Int32.ofNat off)), .val (.int p2), .unset, .unset, .unset, .unset] []))
  have K0 := Keep.refl h0 []
  have hdl := decI_len p2 n
  refine go (fun _ => XS.iloadN X0.here hx rfl (hb hby d_m7_0) rfl) ?_
  show Run p e below _ (T0.setTop (mkF m 1 #[.val (.ref x), .val (.int (Int32.ofNat off)), .val (.int p2), .unset, .unset, .unset, .unset] [(.int p2)]))
  refine go (fun _ => XS.i2l X0.here hx rfl (hb hby d_m7_1) rfl) ?_
  show Run p e below _ (T0.setTop (mkF m 2 #[.val (.ref x), .val (.int (Int32.ofNat off)), .val (.int p2), .unset, .unset, .unset, .unset] [(.long (p2.toInt64))]))
  refine callSt X0 hx hZ hown (wd hw 187 rfl) (wd hw 188 rfl) (wd hw 90 rfl) (wd hw 189 rfl) (by decide) e0 (argsL := [(.long (p2.toInt64))]) (rest := []) (rm_abs l Z a0 hw [] (p2.toInt64) h0 n0 O0) (W := 0) (by decide) (by decide) (by decide) (by decide) (by rw [hml]; rfl) (lenOf pd_25 rfl) rfl (Nat.le_of_eq rfl) (hb hby d_m7_2) ?_
  intro v249 T249 L249 h249 X249 e249 q249
  obtain ⟨rv, n249, k249⟩ := q249
  replace rv : v249 = some (.long (Int64.ofNat n)) := by rw [own_abs hn hx1] at rv; exact rv
  subst rv
  have e249 := e249.trans k249
  have N249 := Fr.app N0 n249
  show Run p e below _ (T249.setTop (mkF m 5 #[.val (.ref x), .val (.int (Int32.ofNat off)), .val (.int p2), .unset, .unset, .unset, .unset] [(.long (Int64.ofNat n))]))
  refine go (fun _ => XS.lstoreN X249.here hx rfl (hb hby d_m7_5) rfl (l' := #[.val (.ref x), .val (.int (Int32.ofNat off)), .val (.int p2), .val (.long (Int64.ofNat n)), .second, .unset, .unset]) rfl) ?_
  show Run p e below _ (T249.setTop (mkF m 6 #[.val (.ref x), .val (.int (Int32.ofNat off)), .val (.int p2), .val (.long (Int64.ofNat n)), .second, .unset, .unset] []))
  refine go (fun _ => XS.lloadN X249.here hx rfl (hb hby d_m7_6) rfl) ?_
  show Run p e below _ (T249.setTop (mkF m 7 #[.val (.ref x), .val (.int (Int32.ofNat off)), .val (.int p2), .val (.long (Int64.ofNat n)), .second, .unset, .unset] [(.long (Int64.ofNat n))]))
  refine callSt X249 hx hZ hown (wd hw 190 rfl) (wd hw 191 rfl) (wd hw 185 rfl) (wd hw 192 rfl) (by decide) e249 (argsL := [(.long (Int64.ofNat n))]) (rest := []) (rm_nd l Z a0 hw [] n h0 n0 O0 hn) (W := 0) (by decide) (by decide) (by decide) (by decide) (by rw [hml]; rfl) (lenOf pd_26 rfl) rfl (Nat.le_of_eq rfl) (hb hby d_m7_7) ?_
  intro v250 T250 L250 h250 X250 e250 q250
  obtain ⟨rv, n250, k250⟩ := q250
  replace rv : v250 = some (.int (Int32.ofNat (SBG.digits n))) := rv
  subst rv
  have e250 := e250.trans k250
  have N250 := Fr.app N249 n250
  show Run p e below _ (T250.setTop (mkF m 10 #[.val (.ref x), .val (.int (Int32.ofNat off)), .val (.int p2), .val (.long (Int64.ofNat n)), .second, .unset, .unset] [(.int (Int32.ofNat (SBG.digits n)))]))
  refine go (fun _ => XS.istore X250.here hx rfl (hb hby d_m7_10) rfl (l' := #[.val (.ref x), .val (.int (Int32.ofNat off)), .val (.int p2), .val (.long (Int64.ofNat n)), .second, .val (.int (Int32.ofNat (SBG.digits n))), .unset]) rfl) ?_
  show Run p e below _ (T250.setTop (mkF m 12 #[.val (.ref x), .val (.int (Int32.ofNat off)), .val (.int p2), .val (.long (Int64.ofNat n)), .second, .val (.int (Int32.ofNat (SBG.digits n))), .unset] []))
  refine go (fun _ => XS.iloadN X250.here hx rfl (hb hby d_m7_12) rfl) ?_
  show Run p e below _ (T250.setTop (mkF m 13 #[.val (.ref x), .val (.int (Int32.ofNat off)), .val (.int p2), .val (.long (Int64.ofNat n)), .second, .val (.int (Int32.ofNat (SBG.digits n))), .unset] [(.int (Int32.ofNat off))]))
  refine go (fun _ => XS.istore X250.here hx rfl (hb hby d_m7_13) rfl (l' := #[.val (.ref x), .val (.int (Int32.ofNat off)), .val (.int p2), .val (.long (Int64.ofNat n)), .second, .val (.int (Int32.ofNat (SBG.digits n))), .val (.int (Int32.ofNat off))]) rfl) ?_
  show Run p e below _ (T250.setTop (mkF m 15 #[.val (.ref x), .val (.int (Int32.ofNat off)), .val (.int p2), .val (.long (Int64.ofNat n)), .second, .val (.int (Int32.ofNat (SBG.digits n))), .val (.int (Int32.ofNat off))] []))
  refine go (fun _ => XS.iloadN X250.here hx rfl (hb hby d_m7_15) rfl) ?_
  show Run p e below _ (T250.setTop (mkF m 16 #[.val (.ref x), .val (.int (Int32.ofNat off)), .val (.int p2), .val (.long (Int64.ofNat n)), .second, .val (.int (Int32.ofNat (SBG.digits n))), .val (.int (Int32.ofNat off))] [(.int p2)]))
  by_cases c251 : p2 < 0
  · skip
    refine go (fun _ => XS.ifNo X250.here hx rfl (hb hby d_m7_16) rfl ((if0 _ _).trans (tlt c251).2.1)) ?_
    show Run p e below _ (T250.setTop (mkF m 19 #[.val (.ref x), .val (.int (Int32.ofNat off)), .val (.int p2), .val (.long (Int64.ofNat n)), .second, .val (.int (Int32.ofNat (SBG.digits n))), .val (.int (Int32.ofNat off))] []))
    refine go (fun _ => XS.aloadN X250.here hx rfl (hb hby d_m7_19) rfl rfl) ?_
    show Run p e below _ (T250.setTop (mkF m 20 #[.val (.ref x), .val (.int (Int32.ofNat off)), .val (.int p2), .val (.long (Int64.ofNat n)), .second, .val (.int (Int32.ofNat (SBG.digits n))), .val (.int (Int32.ofNat off))] [(.ref x)]))
    refine go (fun _ => XS.iloadN X250.here hx rfl (hb hby d_m7_20) rfl) ?_
    show Run p e below _ (T250.setTop (mkF m 21 #[.val (.ref x), .val (.int (Int32.ofNat off)), .val (.int p2), .val (.long (Int64.ofNat n)), .second, .val (.int (Int32.ofNat (SBG.digits n))), .val (.int (Int32.ofNat off))] [(.int (Int32.ofNat off)), (.ref x)]))
    have hsg : SBG.GetChars.sgn p2 = 1 := by simp [SBG.GetChars.sgn, c251]
    have hc0 : cs.getD off 0 = 45 := (hch 0 (by omega)).trans (dec_s c251)
    refine callVi X250 hx hZ hown (wd hw 203 rfl) (wd hw 204 rfl) (notFace_of_selects (args := #[]) (mvT hZ (wd hw 206 rfl))) (wd hw 206 rfl) (wd hw 205 rfl) (wd hw 207 rfl) (wd hw 37 rfl) (by decide) e250 T_x.1 (argsL := [(.int (Int32.ofNat off))]) (rest := []) (rm_ch l Z a0 hw [] zc fm x t kb cs off h0 n0 O0 S_COMPACT_STRINGS hzc S_SIOOBE_FORMATTER hfm T_x Hx lx (by omega)) (W := 0) (by decide) (by decide) (by decide) (by decide) (by rw [hml]; rfl) (lenOf pd_28 rfl) rfl (Nat.le_of_eq rfl) (hb hby d_m7_21) ?_
    intro v252 T252 L252 h252 X252 e252 q252
    obtain ⟨rv, n252, k252⟩ := q252
    replace rv : v252 = some (.int (45 : Int32)) := by rw [hc0] at rv; exact rv
    subst rv
    have e252 := e252.trans k252
    have N252 := Fr.app N250 n252
    show Run p e below _ (T252.setTop (mkF m 24 #[.val (.ref x), .val (.int (Int32.ofNat off)), .val (.int p2), .val (.long (Int64.ofNat n)), .second, .val (.int (Int32.ofNat (SBG.digits n))), .val (.int (Int32.ofNat off))] [(.int (45 : Int32))]))
    refine go (fun _ => XS.bipush X252.here hx rfl (hb hby d_m7_24)) ?_
    show Run p e below _ (T252.setTop (mkF m 26 #[.val (.ref x), .val (.int (Int32.ofNat off)), .val (.int p2), .val (.long (Int64.ofNat n)), .second, .val (.int (Int32.ofNat (SBG.digits n))), .val (.int (Int32.ofNat off))] [(.int (45 : Int32)), (.int (45 : Int32))]))
    refine go (fun _ => XS.icmpYes X252.here hx rfl (pc0 := 26) (pc' := 31) rfl (hb hby d_m7_26) rfl (teq (by decide : (45 : Int32) = 45)).1 (by decide) (by decide)) ?_
    show Run p e below _ (T252.setTop (mkF m 31 #[.val (.ref x), .val (.int (Int32.ofNat off)), .val (.int p2), .val (.long (Int64.ofNat n)), .second, .val (.int (Int32.ofNat (SBG.digits n))), .val (.int (Int32.ofNat off))] []))
    refine go (fun _ => XS.iloadN X252.here hx rfl (hb hby d_m7_31) rfl) ?_
    show Run p e below _ (T252.setTop (mkF m 32 #[.val (.ref x), .val (.int (Int32.ofNat off)), .val (.int p2), .val (.long (Int64.ofNat n)), .second, .val (.int (Int32.ofNat (SBG.digits n))), .val (.int (Int32.ofNat off))] [(.int (Int32.ofNat off))]))
    refine go (fun _ => XS.iconst X252.here hx rfl (hb hby d_m7_32)) ?_
    show Run p e below _ (T252.setTop (mkF m 33 #[.val (.ref x), .val (.int (Int32.ofNat off)), .val (.int p2), .val (.long (Int64.ofNat n)), .second, .val (.int (Int32.ofNat (SBG.digits n))), .val (.int (Int32.ofNat off))] [(.int (1 : Int32)), (.int (Int32.ofNat off))]))
    refine go (fun _ => XS.iadd X252.here hx rfl (hb hby d_m7_33) rfl) ?_
    rw [own_addr1]
    show Run p e below _ (T252.setTop (mkF m 34 #[.val (.ref x), .val (.int (Int32.ofNat off)), .val (.int p2), .val (.long (Int64.ofNat n)), .second, .val (.int (Int32.ofNat (SBG.digits n))), .val (.int (Int32.ofNat off))] [(.int (Int32.ofNat (off + 1)))]))
    refine go (fun _ => XS.istore X252.here hx rfl (hb hby d_m7_34) rfl (l' := #[.val (.ref x), .val (.int (Int32.ofNat off)), .val (.int p2), .val (.long (Int64.ofNat n)), .second, .val (.int (Int32.ofNat (SBG.digits n))), .val (.int (Int32.ofNat (off + 1)))]) rfl) ?_
    show Run p e below _ (T252.setTop (mkF m 36 #[.val (.ref x), .val (.int (Int32.ofNat off)), .val (.int p2), .val (.long (Int64.ofNat n)), .second, .val (.int (Int32.ofNat (SBG.digits n))), .val (.int (Int32.ofNat (off + 1)))] []))
    refine go (fun _ => XS.aloadN X252.here hx rfl (hb hby d_m7_36) rfl rfl) ?_
    show Run p e below _ (T252.setTop (mkF m 37 #[.val (.ref x), .val (.int (Int32.ofNat off)), .val (.int p2), .val (.long (Int64.ofNat n)), .second, .val (.int (Int32.ofNat (SBG.digits n))), .val (.int (Int32.ofNat (off + 1)))] [(.ref x)]))
    refine go (fun _ => XS.iload X252.here hx rfl (hb hby d_m7_37) rfl) ?_
    show Run p e below _ (T252.setTop (mkF m 39 #[.val (.ref x), .val (.int (Int32.ofNat off)), .val (.int p2), .val (.long (Int64.ofNat n)), .second, .val (.int (Int32.ofNat (SBG.digits n))), .val (.int (Int32.ofNat (off + 1)))] [(.int (Int32.ofNat (off + 1))), (.ref x)]))
    refine go (fun _ => XS.lloadN X252.here hx rfl (hb hby d_m7_39) rfl) ?_
    show Run p e below _ (T252.setTop (mkF m 40 #[.val (.ref x), .val (.int (Int32.ofNat off)), .val (.int p2), .val (.long (Int64.ofNat n)), .second, .val (.int (Int32.ofNat (SBG.digits n))), .val (.int (Int32.ofNat (off + 1)))] [(.long (Int64.ofNat n)), (.int (Int32.ofNat (off + 1))), (.ref x)]))
    refine go (fun _ => XS.iload X252.here hx rfl (hb hby d_m7_40) rfl) ?_
    show Run p e below _ (T252.setTop (mkF m 42 #[.val (.ref x), .val (.int (Int32.ofNat off)), .val (.int p2), .val (.long (Int64.ofNat n)), .second, .val (.int (Int32.ofNat (SBG.digits n))), .val (.int (Int32.ofNat (off + 1)))] [(.int (Int32.ofNat (SBG.digits n))), (.long (Int64.ofNat n)), (.int (Int32.ofNat (off + 1))), (.ref x)]))
    refine go (fun _ => XS.iconst X252.here hx rfl (hb hby d_m7_42)) ?_
    show Run p e below _ (T252.setTop (mkF m 43 #[.val (.ref x), .val (.int (Int32.ofNat off)), .val (.int p2), .val (.long (Int64.ofNat n)), .second, .val (.int (Int32.ofNat (SBG.digits n))), .val (.int (Int32.ofNat (off + 1)))] [(.int (0 : Int32)), (.int (Int32.ofNat (SBG.digits n))), (.long (Int64.ofNat n)), (.int (Int32.ofNat (off + 1))), (.ref x)]))
    have hcc : ∀ j, j < SBG.digits n → cs.getD ((off + 1) + j) 0 = Int32.ofNat (48 + n / 10 ^ (SBG.digits n - 1 - j) % 10) := fun j hj => by
      have q := hch (SBG.GetChars.sgn p2 + j) (by omega)
      rw [dec_d hj, hsg] at q
      rw [← q]; congr 1; omega
    refine callSt X252 hx hZ hown (wd hw 228 rfl) (wd hw 229 rfl) (wd hw 185 rfl) (wd hw 230 rfl) (by decide) e252 (argsL := [(.ref x), (.int (Int32.ofNat (off + 1))), (.long (Int64.ofNat n)), (.int (Int32.ofNat (SBG.digits n))), (.int (0 : Int32))]) (rest := []) (rm_d l Z a0 hw [] zc fm x t kb cs (off + 1) n 0 h0 n0 O0 S_COMPACT_STRINGS hzc S_SIOOBE_FORMATTER hfm T_x Hx lx hn (by decide) (by omega) hcc) (W := 0) (by decide) (by decide) (by decide) (by decide) (by rw [hml]; rfl) (lenOf pd_29 rfl) rfl (Nat.le_of_eq rfl) (hb hby d_m7_43) ?_
    intro v253 T253 L253 h253 X253 e253 q253
    obtain ⟨rfl, n253, K253⟩ := q253
    have O0 := O0.keep K253 all0
    have T_x := T_x.keep K253 nin0 nin0
    have K0 := K0.trans K253 all0
    have N253 := Fr.app N252 n253
    show Run p e below _ (T253.setTop (mkF m 46 #[.val (.ref x), .val (.int (Int32.ofNat off)), .val (.int p2), .val (.long (Int64.ofNat n)), .second, .val (.int (Int32.ofNat (SBG.digits n))), .val (.int (Int32.ofNat (off + 1)))] [(.int (1 : Int32))]))
    refine go (fun _ => XS.ifNo X253.here hx rfl (hb hby d_m7_46) rfl ((if0 _ _).trans (feq (by decide : ¬ ((1 : Int32) = 0))).1)) ?_
    show Run p e below _ (T253.setTop (mkF m 49 #[.val (.ref x), .val (.int (Int32.ofNat off)), .val (.int p2), .val (.long (Int64.ofNat n)), .second, .val (.int (Int32.ofNat (SBG.digits n))), .val (.int (Int32.ofNat (off + 1)))] []))
    refine go (fun _ => XS.aloadN X253.here hx rfl (hb hby d_m7_49) rfl rfl) ?_
    show Run p e below _ (T253.setTop (mkF m 50 #[.val (.ref x), .val (.int (Int32.ofNat off)), .val (.int p2), .val (.long (Int64.ofNat n)), .second, .val (.int (Int32.ofNat (SBG.digits n))), .val (.int (Int32.ofNat (off + 1)))] [(.ref x)]))
    refine go (fun _ => XS.iload X253.here hx rfl (hb hby d_m7_50) rfl) ?_
    show Run p e below _ (T253.setTop (mkF m 52 #[.val (.ref x), .val (.int (Int32.ofNat off)), .val (.int p2), .val (.long (Int64.ofNat n)), .second, .val (.int (Int32.ofNat (SBG.digits n))), .val (.int (Int32.ofNat (off + 1)))] [(.int (Int32.ofNat (off + 1))), (.ref x)]))
    refine go (fun _ => XS.lloadN X253.here hx rfl (hb hby d_m7_52) rfl) ?_
    show Run p e below _ (T253.setTop (mkF m 53 #[.val (.ref x), .val (.int (Int32.ofNat off)), .val (.int p2), .val (.long (Int64.ofNat n)), .second, .val (.int (Int32.ofNat (SBG.digits n))), .val (.int (Int32.ofNat (off + 1)))] [(.long (Int64.ofNat n)), (.int (Int32.ofNat (off + 1))), (.ref x)]))
    refine go (fun _ => XS.iload X253.here hx rfl (hb hby d_m7_53) rfl) ?_
    show Run p e below _ (T253.setTop (mkF m 55 #[.val (.ref x), .val (.int (Int32.ofNat off)), .val (.int p2), .val (.long (Int64.ofNat n)), .second, .val (.int (Int32.ofNat (SBG.digits n))), .val (.int (Int32.ofNat (off + 1)))] [(.int (Int32.ofNat (SBG.digits n))), (.long (Int64.ofNat n)), (.int (Int32.ofNat (off + 1))), (.ref x)]))
    refine go (fun _ => XS.iconst X253.here hx rfl (hb hby d_m7_55)) ?_
    show Run p e below _ (T253.setTop (mkF m 56 #[.val (.ref x), .val (.int (Int32.ofNat off)), .val (.int p2), .val (.long (Int64.ofNat n)), .second, .val (.int (Int32.ofNat (SBG.digits n))), .val (.int (Int32.ofNat (off + 1)))] [(.int (1 : Int32)), (.int (Int32.ofNat (SBG.digits n))), (.long (Int64.ofNat n)), (.int (Int32.ofNat (off + 1))), (.ref x)]))
    refine callSt X253 hx hZ hown (wd hw 228 rfl) (wd hw 229 rfl) (wd hw 185 rfl) (wd hw 230 rfl) (by decide) e253 (argsL := [(.ref x), (.int (Int32.ofNat (off + 1))), (.long (Int64.ofNat n)), (.int (Int32.ofNat (SBG.digits n))), (.int (1 : Int32))]) (rest := []) (rm_d l Z a0 hw [] zc fm x t kb cs (off + 1) n 1 h253 n0 O0 S_COMPACT_STRINGS hzc S_SIOOBE_FORMATTER hfm T_x Hx lx hn (by decide) (by omega) hcc) (W := 0) (by decide) (by decide) (by decide) (by decide) (by rw [hml]; rfl) (lenOf pd_29 rfl) rfl (Nat.le_of_eq rfl) (hb hby d_m7_56) ?_
    intro v254 T254 L254 h254 X254 e254 q254
    obtain ⟨rfl, n254, K254⟩ := q254
    have O0 := O0.keep K254 all0
    have T_x := T_x.keep K254 nin0 nin0
    have K0 := K0.trans K254 all0
    have N254 := Fr.app N253 n254
    show Run p e below _ (T254.setTop (mkF m 59 #[.val (.ref x), .val (.int (Int32.ofNat off)), .val (.int p2), .val (.long (Int64.ofNat n)), .second, .val (.int (Int32.ofNat (SBG.digits n))), .val (.int (Int32.ofNat (off + 1)))] [(.int (1 : Int32))]))
    refine go (fun _ => XS.ifNo X254.here hx rfl (hb hby d_m7_59) rfl ((if0 _ _).trans (feq (by decide : ¬ ((1 : Int32) = 0))).1)) ?_
    show Run p e below _ (T254.setTop (mkF m 62 #[.val (.ref x), .val (.int (Int32.ofNat off)), .val (.int p2), .val (.long (Int64.ofNat n)), .second, .val (.int (Int32.ofNat (SBG.digits n))), .val (.int (Int32.ofNat (off + 1)))] []))
    refine go (fun _ => XS.aloadN X254.here hx rfl (hb hby d_m7_62) rfl rfl) ?_
    show Run p e below _ (T254.setTop (mkF m 63 #[.val (.ref x), .val (.int (Int32.ofNat off)), .val (.int p2), .val (.long (Int64.ofNat n)), .second, .val (.int (Int32.ofNat (SBG.digits n))), .val (.int (Int32.ofNat (off + 1)))] [(.ref x)]))
    refine go (fun _ => XS.iload X254.here hx rfl (hb hby d_m7_63) rfl) ?_
    show Run p e below _ (T254.setTop (mkF m 65 #[.val (.ref x), .val (.int (Int32.ofNat off)), .val (.int p2), .val (.long (Int64.ofNat n)), .second, .val (.int (Int32.ofNat (SBG.digits n))), .val (.int (Int32.ofNat (off + 1)))] [(.int (Int32.ofNat (off + 1))), (.ref x)]))
    refine go (fun _ => XS.lloadN X254.here hx rfl (hb hby d_m7_65) rfl) ?_
    show Run p e below _ (T254.setTop (mkF m 66 #[.val (.ref x), .val (.int (Int32.ofNat off)), .val (.int p2), .val (.long (Int64.ofNat n)), .second, .val (.int (Int32.ofNat (SBG.digits n))), .val (.int (Int32.ofNat (off + 1)))] [(.long (Int64.ofNat n)), (.int (Int32.ofNat (off + 1))), (.ref x)]))
    refine go (fun _ => XS.iload X254.here hx rfl (hb hby d_m7_66) rfl) ?_
    show Run p e below _ (T254.setTop (mkF m 68 #[.val (.ref x), .val (.int (Int32.ofNat off)), .val (.int p2), .val (.long (Int64.ofNat n)), .second, .val (.int (Int32.ofNat (SBG.digits n))), .val (.int (Int32.ofNat (off + 1)))] [(.int (Int32.ofNat (SBG.digits n))), (.long (Int64.ofNat n)), (.int (Int32.ofNat (off + 1))), (.ref x)]))
    refine go (fun _ => XS.iconst X254.here hx rfl (hb hby d_m7_68)) ?_
    show Run p e below _ (T254.setTop (mkF m 69 #[.val (.ref x), .val (.int (Int32.ofNat off)), .val (.int p2), .val (.long (Int64.ofNat n)), .second, .val (.int (Int32.ofNat (SBG.digits n))), .val (.int (Int32.ofNat (off + 1)))] [(.int (2 : Int32)), (.int (Int32.ofNat (SBG.digits n))), (.long (Int64.ofNat n)), (.int (Int32.ofNat (off + 1))), (.ref x)]))
    refine callSt X254 hx hZ hown (wd hw 228 rfl) (wd hw 229 rfl) (wd hw 185 rfl) (wd hw 230 rfl) (by decide) e254 (argsL := [(.ref x), (.int (Int32.ofNat (off + 1))), (.long (Int64.ofNat n)), (.int (Int32.ofNat (SBG.digits n))), (.int (2 : Int32))]) (rest := []) (rm_d l Z a0 hw [] zc fm x t kb cs (off + 1) n 2 h254 n0 O0 S_COMPACT_STRINGS hzc S_SIOOBE_FORMATTER hfm T_x Hx lx hn (by decide) (by omega) hcc) (W := 0) (by decide) (by decide) (by decide) (by decide) (by rw [hml]; rfl) (lenOf pd_29 rfl) rfl (Nat.le_of_eq rfl) (hb hby d_m7_69) ?_
    intro v255 T255 L255 h255 X255 e255 q255
    obtain ⟨rfl, n255, K255⟩ := q255
    have O0 := O0.keep K255 all0
    have T_x := T_x.keep K255 nin0 nin0
    have K0 := K0.trans K255 all0
    have N255 := Fr.app N254 n255
    show Run p e below _ (T255.setTop (mkF m 72 #[.val (.ref x), .val (.int (Int32.ofNat off)), .val (.int p2), .val (.long (Int64.ofNat n)), .second, .val (.int (Int32.ofNat (SBG.digits n))), .val (.int (Int32.ofNat (off + 1)))] [(.int (1 : Int32))]))
    refine go (fun _ => XS.ifNo X255.here hx rfl (hb hby d_m7_72) rfl ((if0 _ _).trans (feq (by decide : ¬ ((1 : Int32) = 0))).1)) ?_
    show Run p e below _ (T255.setTop (mkF m 75 #[.val (.ref x), .val (.int (Int32.ofNat off)), .val (.int p2), .val (.long (Int64.ofNat n)), .second, .val (.int (Int32.ofNat (SBG.digits n))), .val (.int (Int32.ofNat (off + 1)))] []))
    refine go (fun _ => XS.aloadN X255.here hx rfl (hb hby d_m7_75) rfl rfl) ?_
    show Run p e below _ (T255.setTop (mkF m 76 #[.val (.ref x), .val (.int (Int32.ofNat off)), .val (.int p2), .val (.long (Int64.ofNat n)), .second, .val (.int (Int32.ofNat (SBG.digits n))), .val (.int (Int32.ofNat (off + 1)))] [(.ref x)]))
    refine go (fun _ => XS.iload X255.here hx rfl (hb hby d_m7_76) rfl) ?_
    show Run p e below _ (T255.setTop (mkF m 78 #[.val (.ref x), .val (.int (Int32.ofNat off)), .val (.int p2), .val (.long (Int64.ofNat n)), .second, .val (.int (Int32.ofNat (SBG.digits n))), .val (.int (Int32.ofNat (off + 1)))] [(.int (Int32.ofNat (off + 1))), (.ref x)]))
    refine go (fun _ => XS.lloadN X255.here hx rfl (hb hby d_m7_78) rfl) ?_
    show Run p e below _ (T255.setTop (mkF m 79 #[.val (.ref x), .val (.int (Int32.ofNat off)), .val (.int p2), .val (.long (Int64.ofNat n)), .second, .val (.int (Int32.ofNat (SBG.digits n))), .val (.int (Int32.ofNat (off + 1)))] [(.long (Int64.ofNat n)), (.int (Int32.ofNat (off + 1))), (.ref x)]))
    refine go (fun _ => XS.iload X255.here hx rfl (hb hby d_m7_79) rfl) ?_
    show Run p e below _ (T255.setTop (mkF m 81 #[.val (.ref x), .val (.int (Int32.ofNat off)), .val (.int p2), .val (.long (Int64.ofNat n)), .second, .val (.int (Int32.ofNat (SBG.digits n))), .val (.int (Int32.ofNat (off + 1)))] [(.int (Int32.ofNat (SBG.digits n))), (.long (Int64.ofNat n)), (.int (Int32.ofNat (off + 1))), (.ref x)]))
    refine go (fun _ => XS.iconst X255.here hx rfl (hb hby d_m7_81)) ?_
    show Run p e below _ (T255.setTop (mkF m 82 #[.val (.ref x), .val (.int (Int32.ofNat off)), .val (.int p2), .val (.long (Int64.ofNat n)), .second, .val (.int (Int32.ofNat (SBG.digits n))), .val (.int (Int32.ofNat (off + 1)))] [(.int (3 : Int32)), (.int (Int32.ofNat (SBG.digits n))), (.long (Int64.ofNat n)), (.int (Int32.ofNat (off + 1))), (.ref x)]))
    refine callSt X255 hx hZ hown (wd hw 228 rfl) (wd hw 229 rfl) (wd hw 185 rfl) (wd hw 230 rfl) (by decide) e255 (argsL := [(.ref x), (.int (Int32.ofNat (off + 1))), (.long (Int64.ofNat n)), (.int (Int32.ofNat (SBG.digits n))), (.int (3 : Int32))]) (rest := []) (rm_d l Z a0 hw [] zc fm x t kb cs (off + 1) n 3 h255 n0 O0 S_COMPACT_STRINGS hzc S_SIOOBE_FORMATTER hfm T_x Hx lx hn (by decide) (by omega) hcc) (W := 0) (by decide) (by decide) (by decide) (by decide) (by rw [hml]; rfl) (lenOf pd_29 rfl) rfl (Nat.le_of_eq rfl) (hb hby d_m7_82) ?_
    intro v256 T256 L256 h256 X256 e256 q256
    obtain ⟨rfl, n256, K256⟩ := q256
    have O0 := O0.keep K256 all0
    have T_x := T_x.keep K256 nin0 nin0
    have K0 := K0.trans K256 all0
    have N256 := Fr.app N255 n256
    show Run p e below _ (T256.setTop (mkF m 85 #[.val (.ref x), .val (.int (Int32.ofNat off)), .val (.int p2), .val (.long (Int64.ofNat n)), .second, .val (.int (Int32.ofNat (SBG.digits n))), .val (.int (Int32.ofNat (off + 1)))] [(.int (1 : Int32))]))
    refine go (fun _ => XS.ifNo X256.here hx rfl (hb hby d_m7_85) rfl ((if0 _ _).trans (feq (by decide : ¬ ((1 : Int32) = 0))).1)) ?_
    show Run p e below _ (T256.setTop (mkF m 88 #[.val (.ref x), .val (.int (Int32.ofNat off)), .val (.int p2), .val (.long (Int64.ofNat n)), .second, .val (.int (Int32.ofNat (SBG.digits n))), .val (.int (Int32.ofNat (off + 1)))] []))
    refine go (fun _ => XS.aloadN X256.here hx rfl (hb hby d_m7_88) rfl rfl) ?_
    show Run p e below _ (T256.setTop (mkF m 89 #[.val (.ref x), .val (.int (Int32.ofNat off)), .val (.int p2), .val (.long (Int64.ofNat n)), .second, .val (.int (Int32.ofNat (SBG.digits n))), .val (.int (Int32.ofNat (off + 1)))] [(.ref x)]))
    refine go (fun _ => XS.iload X256.here hx rfl (hb hby d_m7_89) rfl) ?_
    show Run p e below _ (T256.setTop (mkF m 91 #[.val (.ref x), .val (.int (Int32.ofNat off)), .val (.int p2), .val (.long (Int64.ofNat n)), .second, .val (.int (Int32.ofNat (SBG.digits n))), .val (.int (Int32.ofNat (off + 1)))] [(.int (Int32.ofNat (off + 1))), (.ref x)]))
    refine go (fun _ => XS.lloadN X256.here hx rfl (hb hby d_m7_91) rfl) ?_
    show Run p e below _ (T256.setTop (mkF m 92 #[.val (.ref x), .val (.int (Int32.ofNat off)), .val (.int p2), .val (.long (Int64.ofNat n)), .second, .val (.int (Int32.ofNat (SBG.digits n))), .val (.int (Int32.ofNat (off + 1)))] [(.long (Int64.ofNat n)), (.int (Int32.ofNat (off + 1))), (.ref x)]))
    refine go (fun _ => XS.iload X256.here hx rfl (hb hby d_m7_92) rfl) ?_
    show Run p e below _ (T256.setTop (mkF m 94 #[.val (.ref x), .val (.int (Int32.ofNat off)), .val (.int p2), .val (.long (Int64.ofNat n)), .second, .val (.int (Int32.ofNat (SBG.digits n))), .val (.int (Int32.ofNat (off + 1)))] [(.int (Int32.ofNat (SBG.digits n))), (.long (Int64.ofNat n)), (.int (Int32.ofNat (off + 1))), (.ref x)]))
    refine go (fun _ => XS.iconst X256.here hx rfl (hb hby d_m7_94)) ?_
    show Run p e below _ (T256.setTop (mkF m 95 #[.val (.ref x), .val (.int (Int32.ofNat off)), .val (.int p2), .val (.long (Int64.ofNat n)), .second, .val (.int (Int32.ofNat (SBG.digits n))), .val (.int (Int32.ofNat (off + 1)))] [(.int (4 : Int32)), (.int (Int32.ofNat (SBG.digits n))), (.long (Int64.ofNat n)), (.int (Int32.ofNat (off + 1))), (.ref x)]))
    refine callSt X256 hx hZ hown (wd hw 228 rfl) (wd hw 229 rfl) (wd hw 185 rfl) (wd hw 230 rfl) (by decide) e256 (argsL := [(.ref x), (.int (Int32.ofNat (off + 1))), (.long (Int64.ofNat n)), (.int (Int32.ofNat (SBG.digits n))), (.int (4 : Int32))]) (rest := []) (rm_d l Z a0 hw [] zc fm x t kb cs (off + 1) n 4 h256 n0 O0 S_COMPACT_STRINGS hzc S_SIOOBE_FORMATTER hfm T_x Hx lx hn (by decide) (by omega) hcc) (W := 0) (by decide) (by decide) (by decide) (by decide) (by rw [hml]; rfl) (lenOf pd_29 rfl) rfl (Nat.le_of_eq rfl) (hb hby d_m7_95) ?_
    intro v257 T257 L257 h257 X257 e257 q257
    obtain ⟨rfl, n257, K257⟩ := q257
    have O0 := O0.keep K257 all0
    have T_x := T_x.keep K257 nin0 nin0
    have K0 := K0.trans K257 all0
    have N257 := Fr.app N256 n257
    show Run p e below _ (T257.setTop (mkF m 98 #[.val (.ref x), .val (.int (Int32.ofNat off)), .val (.int p2), .val (.long (Int64.ofNat n)), .second, .val (.int (Int32.ofNat (SBG.digits n))), .val (.int (Int32.ofNat (off + 1)))] [(.int (1 : Int32))]))
    refine go (fun _ => XS.ifNo X257.here hx rfl (hb hby d_m7_98) rfl ((if0 _ _).trans (feq (by decide : ¬ ((1 : Int32) = 0))).1)) ?_
    show Run p e below _ (T257.setTop (mkF m 101 #[.val (.ref x), .val (.int (Int32.ofNat off)), .val (.int p2), .val (.long (Int64.ofNat n)), .second, .val (.int (Int32.ofNat (SBG.digits n))), .val (.int (Int32.ofNat (off + 1)))] []))
    refine go (fun _ => XS.aloadN X257.here hx rfl (hb hby d_m7_101) rfl rfl) ?_
    show Run p e below _ (T257.setTop (mkF m 102 #[.val (.ref x), .val (.int (Int32.ofNat off)), .val (.int p2), .val (.long (Int64.ofNat n)), .second, .val (.int (Int32.ofNat (SBG.digits n))), .val (.int (Int32.ofNat (off + 1)))] [(.ref x)]))
    refine go (fun _ => XS.iload X257.here hx rfl (hb hby d_m7_102) rfl) ?_
    show Run p e below _ (T257.setTop (mkF m 104 #[.val (.ref x), .val (.int (Int32.ofNat off)), .val (.int p2), .val (.long (Int64.ofNat n)), .second, .val (.int (Int32.ofNat (SBG.digits n))), .val (.int (Int32.ofNat (off + 1)))] [(.int (Int32.ofNat (off + 1))), (.ref x)]))
    refine go (fun _ => XS.lloadN X257.here hx rfl (hb hby d_m7_104) rfl) ?_
    show Run p e below _ (T257.setTop (mkF m 105 #[.val (.ref x), .val (.int (Int32.ofNat off)), .val (.int p2), .val (.long (Int64.ofNat n)), .second, .val (.int (Int32.ofNat (SBG.digits n))), .val (.int (Int32.ofNat (off + 1)))] [(.long (Int64.ofNat n)), (.int (Int32.ofNat (off + 1))), (.ref x)]))
    refine go (fun _ => XS.iload X257.here hx rfl (hb hby d_m7_105) rfl) ?_
    show Run p e below _ (T257.setTop (mkF m 107 #[.val (.ref x), .val (.int (Int32.ofNat off)), .val (.int p2), .val (.long (Int64.ofNat n)), .second, .val (.int (Int32.ofNat (SBG.digits n))), .val (.int (Int32.ofNat (off + 1)))] [(.int (Int32.ofNat (SBG.digits n))), (.long (Int64.ofNat n)), (.int (Int32.ofNat (off + 1))), (.ref x)]))
    refine go (fun _ => XS.iconst X257.here hx rfl (hb hby d_m7_107)) ?_
    show Run p e below _ (T257.setTop (mkF m 108 #[.val (.ref x), .val (.int (Int32.ofNat off)), .val (.int p2), .val (.long (Int64.ofNat n)), .second, .val (.int (Int32.ofNat (SBG.digits n))), .val (.int (Int32.ofNat (off + 1)))] [(.int (5 : Int32)), (.int (Int32.ofNat (SBG.digits n))), (.long (Int64.ofNat n)), (.int (Int32.ofNat (off + 1))), (.ref x)]))
    refine callSt X257 hx hZ hown (wd hw 228 rfl) (wd hw 229 rfl) (wd hw 185 rfl) (wd hw 230 rfl) (by decide) e257 (argsL := [(.ref x), (.int (Int32.ofNat (off + 1))), (.long (Int64.ofNat n)), (.int (Int32.ofNat (SBG.digits n))), (.int (5 : Int32))]) (rest := []) (rm_d l Z a0 hw [] zc fm x t kb cs (off + 1) n 5 h257 n0 O0 S_COMPACT_STRINGS hzc S_SIOOBE_FORMATTER hfm T_x Hx lx hn (by decide) (by omega) hcc) (W := 0) (by decide) (by decide) (by decide) (by decide) (by rw [hml]; rfl) (lenOf pd_29 rfl) rfl (Nat.le_of_eq rfl) (hb hby d_m7_108) ?_
    intro v258 T258 L258 h258 X258 e258 q258
    obtain ⟨rfl, n258, K258⟩ := q258
    have O0 := O0.keep K258 all0
    have T_x := T_x.keep K258 nin0 nin0
    have K0 := K0.trans K258 all0
    have N258 := Fr.app N257 n258
    show Run p e below _ (T258.setTop (mkF m 111 #[.val (.ref x), .val (.int (Int32.ofNat off)), .val (.int p2), .val (.long (Int64.ofNat n)), .second, .val (.int (Int32.ofNat (SBG.digits n))), .val (.int (Int32.ofNat (off + 1)))] [(.int (1 : Int32))]))
    refine go (fun _ => XS.ifNo X258.here hx rfl (hb hby d_m7_111) rfl ((if0 _ _).trans (feq (by decide : ¬ ((1 : Int32) = 0))).1)) ?_
    show Run p e below _ (T258.setTop (mkF m 114 #[.val (.ref x), .val (.int (Int32.ofNat off)), .val (.int p2), .val (.long (Int64.ofNat n)), .second, .val (.int (Int32.ofNat (SBG.digits n))), .val (.int (Int32.ofNat (off + 1)))] []))
    refine go (fun _ => XS.aloadN X258.here hx rfl (hb hby d_m7_114) rfl rfl) ?_
    show Run p e below _ (T258.setTop (mkF m 115 #[.val (.ref x), .val (.int (Int32.ofNat off)), .val (.int p2), .val (.long (Int64.ofNat n)), .second, .val (.int (Int32.ofNat (SBG.digits n))), .val (.int (Int32.ofNat (off + 1)))] [(.ref x)]))
    refine go (fun _ => XS.iload X258.here hx rfl (hb hby d_m7_115) rfl) ?_
    show Run p e below _ (T258.setTop (mkF m 117 #[.val (.ref x), .val (.int (Int32.ofNat off)), .val (.int p2), .val (.long (Int64.ofNat n)), .second, .val (.int (Int32.ofNat (SBG.digits n))), .val (.int (Int32.ofNat (off + 1)))] [(.int (Int32.ofNat (off + 1))), (.ref x)]))
    refine go (fun _ => XS.lloadN X258.here hx rfl (hb hby d_m7_117) rfl) ?_
    show Run p e below _ (T258.setTop (mkF m 118 #[.val (.ref x), .val (.int (Int32.ofNat off)), .val (.int p2), .val (.long (Int64.ofNat n)), .second, .val (.int (Int32.ofNat (SBG.digits n))), .val (.int (Int32.ofNat (off + 1)))] [(.long (Int64.ofNat n)), (.int (Int32.ofNat (off + 1))), (.ref x)]))
    refine go (fun _ => XS.iload X258.here hx rfl (hb hby d_m7_118) rfl) ?_
    show Run p e below _ (T258.setTop (mkF m 120 #[.val (.ref x), .val (.int (Int32.ofNat off)), .val (.int p2), .val (.long (Int64.ofNat n)), .second, .val (.int (Int32.ofNat (SBG.digits n))), .val (.int (Int32.ofNat (off + 1)))] [(.int (Int32.ofNat (SBG.digits n))), (.long (Int64.ofNat n)), (.int (Int32.ofNat (off + 1))), (.ref x)]))
    refine go (fun _ => XS.bipush X258.here hx rfl (hb hby d_m7_120)) ?_
    show Run p e below _ (T258.setTop (mkF m 122 #[.val (.ref x), .val (.int (Int32.ofNat off)), .val (.int p2), .val (.long (Int64.ofNat n)), .second, .val (.int (Int32.ofNat (SBG.digits n))), .val (.int (Int32.ofNat (off + 1)))] [(.int (6 : Int32)), (.int (Int32.ofNat (SBG.digits n))), (.long (Int64.ofNat n)), (.int (Int32.ofNat (off + 1))), (.ref x)]))
    refine callSt X258 hx hZ hown (wd hw 228 rfl) (wd hw 229 rfl) (wd hw 185 rfl) (wd hw 230 rfl) (by decide) e258 (argsL := [(.ref x), (.int (Int32.ofNat (off + 1))), (.long (Int64.ofNat n)), (.int (Int32.ofNat (SBG.digits n))), (.int (6 : Int32))]) (rest := []) (rm_d l Z a0 hw [] zc fm x t kb cs (off + 1) n 6 h258 n0 O0 S_COMPACT_STRINGS hzc S_SIOOBE_FORMATTER hfm T_x Hx lx hn (by decide) (by omega) hcc) (W := 0) (by decide) (by decide) (by decide) (by decide) (by rw [hml]; rfl) (lenOf pd_29 rfl) rfl (Nat.le_of_eq rfl) (hb hby d_m7_122) ?_
    intro v259 T259 L259 h259 X259 e259 q259
    obtain ⟨rfl, n259, K259⟩ := q259
    have O0 := O0.keep K259 all0
    have T_x := T_x.keep K259 nin0 nin0
    have K0 := K0.trans K259 all0
    have N259 := Fr.app N258 n259
    show Run p e below _ (T259.setTop (mkF m 125 #[.val (.ref x), .val (.int (Int32.ofNat off)), .val (.int p2), .val (.long (Int64.ofNat n)), .second, .val (.int (Int32.ofNat (SBG.digits n))), .val (.int (Int32.ofNat (off + 1)))] [(.int (1 : Int32))]))
    refine go (fun _ => XS.ifNo X259.here hx rfl (hb hby d_m7_125) rfl ((if0 _ _).trans (feq (by decide : ¬ ((1 : Int32) = 0))).1)) ?_
    show Run p e below _ (T259.setTop (mkF m 128 #[.val (.ref x), .val (.int (Int32.ofNat off)), .val (.int p2), .val (.long (Int64.ofNat n)), .second, .val (.int (Int32.ofNat (SBG.digits n))), .val (.int (Int32.ofNat (off + 1)))] []))
    refine go (fun _ => XS.aloadN X259.here hx rfl (hb hby d_m7_128) rfl rfl) ?_
    show Run p e below _ (T259.setTop (mkF m 129 #[.val (.ref x), .val (.int (Int32.ofNat off)), .val (.int p2), .val (.long (Int64.ofNat n)), .second, .val (.int (Int32.ofNat (SBG.digits n))), .val (.int (Int32.ofNat (off + 1)))] [(.ref x)]))
    refine go (fun _ => XS.iload X259.here hx rfl (hb hby d_m7_129) rfl) ?_
    show Run p e below _ (T259.setTop (mkF m 131 #[.val (.ref x), .val (.int (Int32.ofNat off)), .val (.int p2), .val (.long (Int64.ofNat n)), .second, .val (.int (Int32.ofNat (SBG.digits n))), .val (.int (Int32.ofNat (off + 1)))] [(.int (Int32.ofNat (off + 1))), (.ref x)]))
    refine go (fun _ => XS.lloadN X259.here hx rfl (hb hby d_m7_131) rfl) ?_
    show Run p e below _ (T259.setTop (mkF m 132 #[.val (.ref x), .val (.int (Int32.ofNat off)), .val (.int p2), .val (.long (Int64.ofNat n)), .second, .val (.int (Int32.ofNat (SBG.digits n))), .val (.int (Int32.ofNat (off + 1)))] [(.long (Int64.ofNat n)), (.int (Int32.ofNat (off + 1))), (.ref x)]))
    refine go (fun _ => XS.iload X259.here hx rfl (hb hby d_m7_132) rfl) ?_
    show Run p e below _ (T259.setTop (mkF m 134 #[.val (.ref x), .val (.int (Int32.ofNat off)), .val (.int p2), .val (.long (Int64.ofNat n)), .second, .val (.int (Int32.ofNat (SBG.digits n))), .val (.int (Int32.ofNat (off + 1)))] [(.int (Int32.ofNat (SBG.digits n))), (.long (Int64.ofNat n)), (.int (Int32.ofNat (off + 1))), (.ref x)]))
    refine go (fun _ => XS.bipush X259.here hx rfl (hb hby d_m7_134)) ?_
    show Run p e below _ (T259.setTop (mkF m 136 #[.val (.ref x), .val (.int (Int32.ofNat off)), .val (.int p2), .val (.long (Int64.ofNat n)), .second, .val (.int (Int32.ofNat (SBG.digits n))), .val (.int (Int32.ofNat (off + 1)))] [(.int (7 : Int32)), (.int (Int32.ofNat (SBG.digits n))), (.long (Int64.ofNat n)), (.int (Int32.ofNat (off + 1))), (.ref x)]))
    refine callSt X259 hx hZ hown (wd hw 228 rfl) (wd hw 229 rfl) (wd hw 185 rfl) (wd hw 230 rfl) (by decide) e259 (argsL := [(.ref x), (.int (Int32.ofNat (off + 1))), (.long (Int64.ofNat n)), (.int (Int32.ofNat (SBG.digits n))), (.int (7 : Int32))]) (rest := []) (rm_d l Z a0 hw [] zc fm x t kb cs (off + 1) n 7 h259 n0 O0 S_COMPACT_STRINGS hzc S_SIOOBE_FORMATTER hfm T_x Hx lx hn (by decide) (by omega) hcc) (W := 0) (by decide) (by decide) (by decide) (by decide) (by rw [hml]; rfl) (lenOf pd_29 rfl) rfl (Nat.le_of_eq rfl) (hb hby d_m7_136) ?_
    intro v260 T260 L260 h260 X260 e260 q260
    obtain ⟨rfl, n260, K260⟩ := q260
    have O0 := O0.keep K260 all0
    have T_x := T_x.keep K260 nin0 nin0
    have K0 := K0.trans K260 all0
    have N260 := Fr.app N259 n260
    show Run p e below _ (T260.setTop (mkF m 139 #[.val (.ref x), .val (.int (Int32.ofNat off)), .val (.int p2), .val (.long (Int64.ofNat n)), .second, .val (.int (Int32.ofNat (SBG.digits n))), .val (.int (Int32.ofNat (off + 1)))] [(.int (1 : Int32))]))
    refine go (fun _ => XS.ifNo X260.here hx rfl (hb hby d_m7_139) rfl ((if0 _ _).trans (feq (by decide : ¬ ((1 : Int32) = 0))).1)) ?_
    show Run p e below _ (T260.setTop (mkF m 142 #[.val (.ref x), .val (.int (Int32.ofNat off)), .val (.int p2), .val (.long (Int64.ofNat n)), .second, .val (.int (Int32.ofNat (SBG.digits n))), .val (.int (Int32.ofNat (off + 1)))] []))
    refine go (fun _ => XS.aloadN X260.here hx rfl (hb hby d_m7_142) rfl rfl) ?_
    show Run p e below _ (T260.setTop (mkF m 143 #[.val (.ref x), .val (.int (Int32.ofNat off)), .val (.int p2), .val (.long (Int64.ofNat n)), .second, .val (.int (Int32.ofNat (SBG.digits n))), .val (.int (Int32.ofNat (off + 1)))] [(.ref x)]))
    refine go (fun _ => XS.iload X260.here hx rfl (hb hby d_m7_143) rfl) ?_
    show Run p e below _ (T260.setTop (mkF m 145 #[.val (.ref x), .val (.int (Int32.ofNat off)), .val (.int p2), .val (.long (Int64.ofNat n)), .second, .val (.int (Int32.ofNat (SBG.digits n))), .val (.int (Int32.ofNat (off + 1)))] [(.int (Int32.ofNat (off + 1))), (.ref x)]))
    refine go (fun _ => XS.lloadN X260.here hx rfl (hb hby d_m7_145) rfl) ?_
    show Run p e below _ (T260.setTop (mkF m 146 #[.val (.ref x), .val (.int (Int32.ofNat off)), .val (.int p2), .val (.long (Int64.ofNat n)), .second, .val (.int (Int32.ofNat (SBG.digits n))), .val (.int (Int32.ofNat (off + 1)))] [(.long (Int64.ofNat n)), (.int (Int32.ofNat (off + 1))), (.ref x)]))
    refine go (fun _ => XS.iload X260.here hx rfl (hb hby d_m7_146) rfl) ?_
    show Run p e below _ (T260.setTop (mkF m 148 #[.val (.ref x), .val (.int (Int32.ofNat off)), .val (.int p2), .val (.long (Int64.ofNat n)), .second, .val (.int (Int32.ofNat (SBG.digits n))), .val (.int (Int32.ofNat (off + 1)))] [(.int (Int32.ofNat (SBG.digits n))), (.long (Int64.ofNat n)), (.int (Int32.ofNat (off + 1))), (.ref x)]))
    refine go (fun _ => XS.bipush X260.here hx rfl (hb hby d_m7_148)) ?_
    show Run p e below _ (T260.setTop (mkF m 150 #[.val (.ref x), .val (.int (Int32.ofNat off)), .val (.int p2), .val (.long (Int64.ofNat n)), .second, .val (.int (Int32.ofNat (SBG.digits n))), .val (.int (Int32.ofNat (off + 1)))] [(.int (8 : Int32)), (.int (Int32.ofNat (SBG.digits n))), (.long (Int64.ofNat n)), (.int (Int32.ofNat (off + 1))), (.ref x)]))
    refine callSt X260 hx hZ hown (wd hw 228 rfl) (wd hw 229 rfl) (wd hw 185 rfl) (wd hw 230 rfl) (by decide) e260 (argsL := [(.ref x), (.int (Int32.ofNat (off + 1))), (.long (Int64.ofNat n)), (.int (Int32.ofNat (SBG.digits n))), (.int (8 : Int32))]) (rest := []) (rm_d l Z a0 hw [] zc fm x t kb cs (off + 1) n 8 h260 n0 O0 S_COMPACT_STRINGS hzc S_SIOOBE_FORMATTER hfm T_x Hx lx hn (by decide) (by omega) hcc) (W := 0) (by decide) (by decide) (by decide) (by decide) (by rw [hml]; rfl) (lenOf pd_29 rfl) rfl (Nat.le_of_eq rfl) (hb hby d_m7_150) ?_
    intro v261 T261 L261 h261 X261 e261 q261
    obtain ⟨rfl, n261, K261⟩ := q261
    have O0 := O0.keep K261 all0
    have T_x := T_x.keep K261 nin0 nin0
    have K0 := K0.trans K261 all0
    have N261 := Fr.app N260 n261
    show Run p e below _ (T261.setTop (mkF m 153 #[.val (.ref x), .val (.int (Int32.ofNat off)), .val (.int p2), .val (.long (Int64.ofNat n)), .second, .val (.int (Int32.ofNat (SBG.digits n))), .val (.int (Int32.ofNat (off + 1)))] [(.int (1 : Int32))]))
    refine go (fun _ => XS.ifNo X261.here hx rfl (hb hby d_m7_153) rfl ((if0 _ _).trans (feq (by decide : ¬ ((1 : Int32) = 0))).1)) ?_
    show Run p e below _ (T261.setTop (mkF m 156 #[.val (.ref x), .val (.int (Int32.ofNat off)), .val (.int p2), .val (.long (Int64.ofNat n)), .second, .val (.int (Int32.ofNat (SBG.digits n))), .val (.int (Int32.ofNat (off + 1)))] []))
    refine go (fun _ => XS.aloadN X261.here hx rfl (hb hby d_m7_156) rfl rfl) ?_
    show Run p e below _ (T261.setTop (mkF m 157 #[.val (.ref x), .val (.int (Int32.ofNat off)), .val (.int p2), .val (.long (Int64.ofNat n)), .second, .val (.int (Int32.ofNat (SBG.digits n))), .val (.int (Int32.ofNat (off + 1)))] [(.ref x)]))
    refine go (fun _ => XS.iload X261.here hx rfl (hb hby d_m7_157) rfl) ?_
    show Run p e below _ (T261.setTop (mkF m 159 #[.val (.ref x), .val (.int (Int32.ofNat off)), .val (.int p2), .val (.long (Int64.ofNat n)), .second, .val (.int (Int32.ofNat (SBG.digits n))), .val (.int (Int32.ofNat (off + 1)))] [(.int (Int32.ofNat (off + 1))), (.ref x)]))
    refine go (fun _ => XS.lloadN X261.here hx rfl (hb hby d_m7_159) rfl) ?_
    show Run p e below _ (T261.setTop (mkF m 160 #[.val (.ref x), .val (.int (Int32.ofNat off)), .val (.int p2), .val (.long (Int64.ofNat n)), .second, .val (.int (Int32.ofNat (SBG.digits n))), .val (.int (Int32.ofNat (off + 1)))] [(.long (Int64.ofNat n)), (.int (Int32.ofNat (off + 1))), (.ref x)]))
    refine go (fun _ => XS.iload X261.here hx rfl (hb hby d_m7_160) rfl) ?_
    show Run p e below _ (T261.setTop (mkF m 162 #[.val (.ref x), .val (.int (Int32.ofNat off)), .val (.int p2), .val (.long (Int64.ofNat n)), .second, .val (.int (Int32.ofNat (SBG.digits n))), .val (.int (Int32.ofNat (off + 1)))] [(.int (Int32.ofNat (SBG.digits n))), (.long (Int64.ofNat n)), (.int (Int32.ofNat (off + 1))), (.ref x)]))
    refine go (fun _ => XS.bipush X261.here hx rfl (hb hby d_m7_162)) ?_
    show Run p e below _ (T261.setTop (mkF m 164 #[.val (.ref x), .val (.int (Int32.ofNat off)), .val (.int p2), .val (.long (Int64.ofNat n)), .second, .val (.int (Int32.ofNat (SBG.digits n))), .val (.int (Int32.ofNat (off + 1)))] [(.int (9 : Int32)), (.int (Int32.ofNat (SBG.digits n))), (.long (Int64.ofNat n)), (.int (Int32.ofNat (off + 1))), (.ref x)]))
    refine callSt X261 hx hZ hown (wd hw 228 rfl) (wd hw 229 rfl) (wd hw 185 rfl) (wd hw 230 rfl) (by decide) e261 (argsL := [(.ref x), (.int (Int32.ofNat (off + 1))), (.long (Int64.ofNat n)), (.int (Int32.ofNat (SBG.digits n))), (.int (9 : Int32))]) (rest := []) (rm_d l Z a0 hw [] zc fm x t kb cs (off + 1) n 9 h261 n0 O0 S_COMPACT_STRINGS hzc S_SIOOBE_FORMATTER hfm T_x Hx lx hn (by decide) (by omega) hcc) (W := 0) (by decide) (by decide) (by decide) (by decide) (by rw [hml]; rfl) (lenOf pd_29 rfl) rfl (Nat.le_of_eq rfl) (hb hby d_m7_164) ?_
    intro v262 T262 L262 h262 X262 e262 q262
    obtain ⟨rfl, n262, K262⟩ := q262
    have O0 := O0.keep K262 all0
    have T_x := T_x.keep K262 nin0 nin0
    have K0 := K0.trans K262 all0
    have N262 := Fr.app N261 n262
    show Run p e below _ (T262.setTop (mkF m 167 #[.val (.ref x), .val (.int (Int32.ofNat off)), .val (.int p2), .val (.long (Int64.ofNat n)), .second, .val (.int (Int32.ofNat (SBG.digits n))), .val (.int (Int32.ofNat (off + 1)))] [(.int (1 : Int32))]))
    refine go (fun _ => XS.ifNo X262.here hx rfl (hb hby d_m7_167) rfl ((if0 _ _).trans (feq (by decide : ¬ ((1 : Int32) = 0))).1)) ?_
    show Run p e below _ (T262.setTop (mkF m 170 #[.val (.ref x), .val (.int (Int32.ofNat off)), .val (.int p2), .val (.long (Int64.ofNat n)), .second, .val (.int (Int32.ofNat (SBG.digits n))), .val (.int (Int32.ofNat (off + 1)))] []))
    refine go (fun _ => XS.iconst X262.here hx rfl (hb hby d_m7_170)) ?_
    show Run p e below _ (T262.setTop (mkF m 171 #[.val (.ref x), .val (.int (Int32.ofNat off)), .val (.int p2), .val (.long (Int64.ofNat n)), .second, .val (.int (Int32.ofNat (SBG.digits n))), .val (.int (Int32.ofNat (off + 1)))] [(.int (1 : Int32))]))
    refine go (fun _ => XS.goto X262.here hx rfl (pc0 := 171) (pc' := 175) rfl (hb hby d_m7_171) (by decide) (by decide)) ?_
    show Run p e below _ (T262.setTop (mkF m 175 #[.val (.ref x), .val (.int (Int32.ofNat off)), .val (.int p2), .val (.long (Int64.ofNat n)), .second, .val (.int (Int32.ofNat (SBG.digits n))), .val (.int (Int32.ofNat (off + 1)))] [(.int (1 : Int32))]))
    exact endN X262 hx hlk (t := .boolean) hret (by simp) (hb hby d_m7_175) (by rw [e262]; exact ⟨rfl, N262, K0⟩) (by decide) (by decide)
  · skip
    refine go (fun _ => XS.ifYes X250.here hx rfl (pc0 := 16) (pc' := 36) rfl (hb hby d_m7_16) rfl ((if0 _ _).trans (flt c251).2.1) (by decide) (by decide)) ?_
    show Run p e below _ (T250.setTop (mkF m 36 #[.val (.ref x), .val (.int (Int32.ofNat off)), .val (.int p2), .val (.long (Int64.ofNat n)), .second, .val (.int (Int32.ofNat (SBG.digits n))), .val (.int (Int32.ofNat off))] []))
    refine go (fun _ => XS.aloadN X250.here hx rfl (hb hby d_m7_36) rfl rfl) ?_
    show Run p e below _ (T250.setTop (mkF m 37 #[.val (.ref x), .val (.int (Int32.ofNat off)), .val (.int p2), .val (.long (Int64.ofNat n)), .second, .val (.int (Int32.ofNat (SBG.digits n))), .val (.int (Int32.ofNat off))] [(.ref x)]))
    refine go (fun _ => XS.iload X250.here hx rfl (hb hby d_m7_37) rfl) ?_
    show Run p e below _ (T250.setTop (mkF m 39 #[.val (.ref x), .val (.int (Int32.ofNat off)), .val (.int p2), .val (.long (Int64.ofNat n)), .second, .val (.int (Int32.ofNat (SBG.digits n))), .val (.int (Int32.ofNat off))] [(.int (Int32.ofNat off)), (.ref x)]))
    refine go (fun _ => XS.lloadN X250.here hx rfl (hb hby d_m7_39) rfl) ?_
    show Run p e below _ (T250.setTop (mkF m 40 #[.val (.ref x), .val (.int (Int32.ofNat off)), .val (.int p2), .val (.long (Int64.ofNat n)), .second, .val (.int (Int32.ofNat (SBG.digits n))), .val (.int (Int32.ofNat off))] [(.long (Int64.ofNat n)), (.int (Int32.ofNat off)), (.ref x)]))
    refine go (fun _ => XS.iload X250.here hx rfl (hb hby d_m7_40) rfl) ?_
    show Run p e below _ (T250.setTop (mkF m 42 #[.val (.ref x), .val (.int (Int32.ofNat off)), .val (.int p2), .val (.long (Int64.ofNat n)), .second, .val (.int (Int32.ofNat (SBG.digits n))), .val (.int (Int32.ofNat off))] [(.int (Int32.ofNat (SBG.digits n))), (.long (Int64.ofNat n)), (.int (Int32.ofNat off)), (.ref x)]))
    refine go (fun _ => XS.iconst X250.here hx rfl (hb hby d_m7_42)) ?_
    show Run p e below _ (T250.setTop (mkF m 43 #[.val (.ref x), .val (.int (Int32.ofNat off)), .val (.int p2), .val (.long (Int64.ofNat n)), .second, .val (.int (Int32.ofNat (SBG.digits n))), .val (.int (Int32.ofNat off))] [(.int (0 : Int32)), (.int (Int32.ofNat (SBG.digits n))), (.long (Int64.ofNat n)), (.int (Int32.ofNat off)), (.ref x)]))
    have hsg : SBG.GetChars.sgn p2 = 0 := by simp [SBG.GetChars.sgn, c251]
    have hcc : ∀ j, j < SBG.digits n → cs.getD (off + j) 0 = Int32.ofNat (48 + n / 10 ^ (SBG.digits n - 1 - j) % 10) := fun j hj => by
      have q := hch (SBG.GetChars.sgn p2 + j) (by omega)
      rw [dec_d hj, hsg] at q
      rw [Nat.zero_add] at q; exact q
    refine callSt X250 hx hZ hown (wd hw 228 rfl) (wd hw 229 rfl) (wd hw 185 rfl) (wd hw 230 rfl) (by decide) e250 (argsL := [(.ref x), (.int (Int32.ofNat off)), (.long (Int64.ofNat n)), (.int (Int32.ofNat (SBG.digits n))), (.int (0 : Int32))]) (rest := []) (rm_d l Z a0 hw [] zc fm x t kb cs off n 0 h0 n0 O0 S_COMPACT_STRINGS hzc S_SIOOBE_FORMATTER hfm T_x Hx lx hn (by decide) (by omega) hcc) (W := 0) (by decide) (by decide) (by decide) (by decide) (by rw [hml]; rfl) (lenOf pd_29 rfl) rfl (Nat.le_of_eq rfl) (hb hby d_m7_43) ?_
    intro v263 T263 L263 h263 X263 e263 q263
    obtain ⟨rfl, n263, K263⟩ := q263
    have O0 := O0.keep K263 all0
    have T_x := T_x.keep K263 nin0 nin0
    have K0 := K0.trans K263 all0
    have N263 := Fr.app N250 n263
    show Run p e below _ (T263.setTop (mkF m 46 #[.val (.ref x), .val (.int (Int32.ofNat off)), .val (.int p2), .val (.long (Int64.ofNat n)), .second, .val (.int (Int32.ofNat (SBG.digits n))), .val (.int (Int32.ofNat off))] [(.int (1 : Int32))]))
    refine go (fun _ => XS.ifNo X263.here hx rfl (hb hby d_m7_46) rfl ((if0 _ _).trans (feq (by decide : ¬ ((1 : Int32) = 0))).1)) ?_
    show Run p e below _ (T263.setTop (mkF m 49 #[.val (.ref x), .val (.int (Int32.ofNat off)), .val (.int p2), .val (.long (Int64.ofNat n)), .second, .val (.int (Int32.ofNat (SBG.digits n))), .val (.int (Int32.ofNat off))] []))
    refine go (fun _ => XS.aloadN X263.here hx rfl (hb hby d_m7_49) rfl rfl) ?_
    show Run p e below _ (T263.setTop (mkF m 50 #[.val (.ref x), .val (.int (Int32.ofNat off)), .val (.int p2), .val (.long (Int64.ofNat n)), .second, .val (.int (Int32.ofNat (SBG.digits n))), .val (.int (Int32.ofNat off))] [(.ref x)]))
    refine go (fun _ => XS.iload X263.here hx rfl (hb hby d_m7_50) rfl) ?_
    show Run p e below _ (T263.setTop (mkF m 52 #[.val (.ref x), .val (.int (Int32.ofNat off)), .val (.int p2), .val (.long (Int64.ofNat n)), .second, .val (.int (Int32.ofNat (SBG.digits n))), .val (.int (Int32.ofNat off))] [(.int (Int32.ofNat off)), (.ref x)]))
    refine go (fun _ => XS.lloadN X263.here hx rfl (hb hby d_m7_52) rfl) ?_
    show Run p e below _ (T263.setTop (mkF m 53 #[.val (.ref x), .val (.int (Int32.ofNat off)), .val (.int p2), .val (.long (Int64.ofNat n)), .second, .val (.int (Int32.ofNat (SBG.digits n))), .val (.int (Int32.ofNat off))] [(.long (Int64.ofNat n)), (.int (Int32.ofNat off)), (.ref x)]))
    refine go (fun _ => XS.iload X263.here hx rfl (hb hby d_m7_53) rfl) ?_
    show Run p e below _ (T263.setTop (mkF m 55 #[.val (.ref x), .val (.int (Int32.ofNat off)), .val (.int p2), .val (.long (Int64.ofNat n)), .second, .val (.int (Int32.ofNat (SBG.digits n))), .val (.int (Int32.ofNat off))] [(.int (Int32.ofNat (SBG.digits n))), (.long (Int64.ofNat n)), (.int (Int32.ofNat off)), (.ref x)]))
    refine go (fun _ => XS.iconst X263.here hx rfl (hb hby d_m7_55)) ?_
    show Run p e below _ (T263.setTop (mkF m 56 #[.val (.ref x), .val (.int (Int32.ofNat off)), .val (.int p2), .val (.long (Int64.ofNat n)), .second, .val (.int (Int32.ofNat (SBG.digits n))), .val (.int (Int32.ofNat off))] [(.int (1 : Int32)), (.int (Int32.ofNat (SBG.digits n))), (.long (Int64.ofNat n)), (.int (Int32.ofNat off)), (.ref x)]))
    refine callSt X263 hx hZ hown (wd hw 228 rfl) (wd hw 229 rfl) (wd hw 185 rfl) (wd hw 230 rfl) (by decide) e263 (argsL := [(.ref x), (.int (Int32.ofNat off)), (.long (Int64.ofNat n)), (.int (Int32.ofNat (SBG.digits n))), (.int (1 : Int32))]) (rest := []) (rm_d l Z a0 hw [] zc fm x t kb cs off n 1 h263 n0 O0 S_COMPACT_STRINGS hzc S_SIOOBE_FORMATTER hfm T_x Hx lx hn (by decide) (by omega) hcc) (W := 0) (by decide) (by decide) (by decide) (by decide) (by rw [hml]; rfl) (lenOf pd_29 rfl) rfl (Nat.le_of_eq rfl) (hb hby d_m7_56) ?_
    intro v264 T264 L264 h264 X264 e264 q264
    obtain ⟨rfl, n264, K264⟩ := q264
    have O0 := O0.keep K264 all0
    have T_x := T_x.keep K264 nin0 nin0
    have K0 := K0.trans K264 all0
    have N264 := Fr.app N263 n264
    show Run p e below _ (T264.setTop (mkF m 59 #[.val (.ref x), .val (.int (Int32.ofNat off)), .val (.int p2), .val (.long (Int64.ofNat n)), .second, .val (.int (Int32.ofNat (SBG.digits n))), .val (.int (Int32.ofNat off))] [(.int (1 : Int32))]))
    refine go (fun _ => XS.ifNo X264.here hx rfl (hb hby d_m7_59) rfl ((if0 _ _).trans (feq (by decide : ¬ ((1 : Int32) = 0))).1)) ?_
    show Run p e below _ (T264.setTop (mkF m 62 #[.val (.ref x), .val (.int (Int32.ofNat off)), .val (.int p2), .val (.long (Int64.ofNat n)), .second, .val (.int (Int32.ofNat (SBG.digits n))), .val (.int (Int32.ofNat off))] []))
    refine go (fun _ => XS.aloadN X264.here hx rfl (hb hby d_m7_62) rfl rfl) ?_
    show Run p e below _ (T264.setTop (mkF m 63 #[.val (.ref x), .val (.int (Int32.ofNat off)), .val (.int p2), .val (.long (Int64.ofNat n)), .second, .val (.int (Int32.ofNat (SBG.digits n))), .val (.int (Int32.ofNat off))] [(.ref x)]))
    refine go (fun _ => XS.iload X264.here hx rfl (hb hby d_m7_63) rfl) ?_
    show Run p e below _ (T264.setTop (mkF m 65 #[.val (.ref x), .val (.int (Int32.ofNat off)), .val (.int p2), .val (.long (Int64.ofNat n)), .second, .val (.int (Int32.ofNat (SBG.digits n))), .val (.int (Int32.ofNat off))] [(.int (Int32.ofNat off)), (.ref x)]))
    refine go (fun _ => XS.lloadN X264.here hx rfl (hb hby d_m7_65) rfl) ?_
    show Run p e below _ (T264.setTop (mkF m 66 #[.val (.ref x), .val (.int (Int32.ofNat off)), .val (.int p2), .val (.long (Int64.ofNat n)), .second, .val (.int (Int32.ofNat (SBG.digits n))), .val (.int (Int32.ofNat off))] [(.long (Int64.ofNat n)), (.int (Int32.ofNat off)), (.ref x)]))
    refine go (fun _ => XS.iload X264.here hx rfl (hb hby d_m7_66) rfl) ?_
    show Run p e below _ (T264.setTop (mkF m 68 #[.val (.ref x), .val (.int (Int32.ofNat off)), .val (.int p2), .val (.long (Int64.ofNat n)), .second, .val (.int (Int32.ofNat (SBG.digits n))), .val (.int (Int32.ofNat off))] [(.int (Int32.ofNat (SBG.digits n))), (.long (Int64.ofNat n)), (.int (Int32.ofNat off)), (.ref x)]))
    refine go (fun _ => XS.iconst X264.here hx rfl (hb hby d_m7_68)) ?_
    show Run p e below _ (T264.setTop (mkF m 69 #[.val (.ref x), .val (.int (Int32.ofNat off)), .val (.int p2), .val (.long (Int64.ofNat n)), .second, .val (.int (Int32.ofNat (SBG.digits n))), .val (.int (Int32.ofNat off))] [(.int (2 : Int32)), (.int (Int32.ofNat (SBG.digits n))), (.long (Int64.ofNat n)), (.int (Int32.ofNat off)), (.ref x)]))
    refine callSt X264 hx hZ hown (wd hw 228 rfl) (wd hw 229 rfl) (wd hw 185 rfl) (wd hw 230 rfl) (by decide) e264 (argsL := [(.ref x), (.int (Int32.ofNat off)), (.long (Int64.ofNat n)), (.int (Int32.ofNat (SBG.digits n))), (.int (2 : Int32))]) (rest := []) (rm_d l Z a0 hw [] zc fm x t kb cs off n 2 h264 n0 O0 S_COMPACT_STRINGS hzc S_SIOOBE_FORMATTER hfm T_x Hx lx hn (by decide) (by omega) hcc) (W := 0) (by decide) (by decide) (by decide) (by decide) (by rw [hml]; rfl) (lenOf pd_29 rfl) rfl (Nat.le_of_eq rfl) (hb hby d_m7_69) ?_
    intro v265 T265 L265 h265 X265 e265 q265
    obtain ⟨rfl, n265, K265⟩ := q265
    have O0 := O0.keep K265 all0
    have T_x := T_x.keep K265 nin0 nin0
    have K0 := K0.trans K265 all0
    have N265 := Fr.app N264 n265
    show Run p e below _ (T265.setTop (mkF m 72 #[.val (.ref x), .val (.int (Int32.ofNat off)), .val (.int p2), .val (.long (Int64.ofNat n)), .second, .val (.int (Int32.ofNat (SBG.digits n))), .val (.int (Int32.ofNat off))] [(.int (1 : Int32))]))
    refine go (fun _ => XS.ifNo X265.here hx rfl (hb hby d_m7_72) rfl ((if0 _ _).trans (feq (by decide : ¬ ((1 : Int32) = 0))).1)) ?_
    show Run p e below _ (T265.setTop (mkF m 75 #[.val (.ref x), .val (.int (Int32.ofNat off)), .val (.int p2), .val (.long (Int64.ofNat n)), .second, .val (.int (Int32.ofNat (SBG.digits n))), .val (.int (Int32.ofNat off))] []))
    refine go (fun _ => XS.aloadN X265.here hx rfl (hb hby d_m7_75) rfl rfl) ?_
    show Run p e below _ (T265.setTop (mkF m 76 #[.val (.ref x), .val (.int (Int32.ofNat off)), .val (.int p2), .val (.long (Int64.ofNat n)), .second, .val (.int (Int32.ofNat (SBG.digits n))), .val (.int (Int32.ofNat off))] [(.ref x)]))
    refine go (fun _ => XS.iload X265.here hx rfl (hb hby d_m7_76) rfl) ?_
    show Run p e below _ (T265.setTop (mkF m 78 #[.val (.ref x), .val (.int (Int32.ofNat off)), .val (.int p2), .val (.long (Int64.ofNat n)), .second, .val (.int (Int32.ofNat (SBG.digits n))), .val (.int (Int32.ofNat off))] [(.int (Int32.ofNat off)), (.ref x)]))
    refine go (fun _ => XS.lloadN X265.here hx rfl (hb hby d_m7_78) rfl) ?_
    show Run p e below _ (T265.setTop (mkF m 79 #[.val (.ref x), .val (.int (Int32.ofNat off)), .val (.int p2), .val (.long (Int64.ofNat n)), .second, .val (.int (Int32.ofNat (SBG.digits n))), .val (.int (Int32.ofNat off))] [(.long (Int64.ofNat n)), (.int (Int32.ofNat off)), (.ref x)]))
    refine go (fun _ => XS.iload X265.here hx rfl (hb hby d_m7_79) rfl) ?_
    show Run p e below _ (T265.setTop (mkF m 81 #[.val (.ref x), .val (.int (Int32.ofNat off)), .val (.int p2), .val (.long (Int64.ofNat n)), .second, .val (.int (Int32.ofNat (SBG.digits n))), .val (.int (Int32.ofNat off))] [(.int (Int32.ofNat (SBG.digits n))), (.long (Int64.ofNat n)), (.int (Int32.ofNat off)), (.ref x)]))
    refine go (fun _ => XS.iconst X265.here hx rfl (hb hby d_m7_81)) ?_
    show Run p e below _ (T265.setTop (mkF m 82 #[.val (.ref x), .val (.int (Int32.ofNat off)), .val (.int p2), .val (.long (Int64.ofNat n)), .second, .val (.int (Int32.ofNat (SBG.digits n))), .val (.int (Int32.ofNat off))] [(.int (3 : Int32)), (.int (Int32.ofNat (SBG.digits n))), (.long (Int64.ofNat n)), (.int (Int32.ofNat off)), (.ref x)]))
    refine callSt X265 hx hZ hown (wd hw 228 rfl) (wd hw 229 rfl) (wd hw 185 rfl) (wd hw 230 rfl) (by decide) e265 (argsL := [(.ref x), (.int (Int32.ofNat off)), (.long (Int64.ofNat n)), (.int (Int32.ofNat (SBG.digits n))), (.int (3 : Int32))]) (rest := []) (rm_d l Z a0 hw [] zc fm x t kb cs off n 3 h265 n0 O0 S_COMPACT_STRINGS hzc S_SIOOBE_FORMATTER hfm T_x Hx lx hn (by decide) (by omega) hcc) (W := 0) (by decide) (by decide) (by decide) (by decide) (by rw [hml]; rfl) (lenOf pd_29 rfl) rfl (Nat.le_of_eq rfl) (hb hby d_m7_82) ?_
    intro v266 T266 L266 h266 X266 e266 q266
    obtain ⟨rfl, n266, K266⟩ := q266
    have O0 := O0.keep K266 all0
    have T_x := T_x.keep K266 nin0 nin0
    have K0 := K0.trans K266 all0
    have N266 := Fr.app N265 n266
    show Run p e below _ (T266.setTop (mkF m 85 #[.val (.ref x), .val (.int (Int32.ofNat off)), .val (.int p2), .val (.long (Int64.ofNat n)), .second, .val (.int (Int32.ofNat (SBG.digits n))), .val (.int (Int32.ofNat off))] [(.int (1 : Int32))]))
    refine go (fun _ => XS.ifNo X266.here hx rfl (hb hby d_m7_85) rfl ((if0 _ _).trans (feq (by decide : ¬ ((1 : Int32) = 0))).1)) ?_
    show Run p e below _ (T266.setTop (mkF m 88 #[.val (.ref x), .val (.int (Int32.ofNat off)), .val (.int p2), .val (.long (Int64.ofNat n)), .second, .val (.int (Int32.ofNat (SBG.digits n))), .val (.int (Int32.ofNat off))] []))
    refine go (fun _ => XS.aloadN X266.here hx rfl (hb hby d_m7_88) rfl rfl) ?_
    show Run p e below _ (T266.setTop (mkF m 89 #[.val (.ref x), .val (.int (Int32.ofNat off)), .val (.int p2), .val (.long (Int64.ofNat n)), .second, .val (.int (Int32.ofNat (SBG.digits n))), .val (.int (Int32.ofNat off))] [(.ref x)]))
    refine go (fun _ => XS.iload X266.here hx rfl (hb hby d_m7_89) rfl) ?_
    show Run p e below _ (T266.setTop (mkF m 91 #[.val (.ref x), .val (.int (Int32.ofNat off)), .val (.int p2), .val (.long (Int64.ofNat n)), .second, .val (.int (Int32.ofNat (SBG.digits n))), .val (.int (Int32.ofNat off))] [(.int (Int32.ofNat off)), (.ref x)]))
    refine go (fun _ => XS.lloadN X266.here hx rfl (hb hby d_m7_91) rfl) ?_
    show Run p e below _ (T266.setTop (mkF m 92 #[.val (.ref x), .val (.int (Int32.ofNat off)), .val (.int p2), .val (.long (Int64.ofNat n)), .second, .val (.int (Int32.ofNat (SBG.digits n))), .val (.int (Int32.ofNat off))] [(.long (Int64.ofNat n)), (.int (Int32.ofNat off)), (.ref x)]))
    refine go (fun _ => XS.iload X266.here hx rfl (hb hby d_m7_92) rfl) ?_
    show Run p e below _ (T266.setTop (mkF m 94 #[.val (.ref x), .val (.int (Int32.ofNat off)), .val (.int p2), .val (.long (Int64.ofNat n)), .second, .val (.int (Int32.ofNat (SBG.digits n))), .val (.int (Int32.ofNat off))] [(.int (Int32.ofNat (SBG.digits n))), (.long (Int64.ofNat n)), (.int (Int32.ofNat off)), (.ref x)]))
    refine go (fun _ => XS.iconst X266.here hx rfl (hb hby d_m7_94)) ?_
    show Run p e below _ (T266.setTop (mkF m 95 #[.val (.ref x), .val (.int (Int32.ofNat off)), .val (.int p2), .val (.long (Int64.ofNat n)), .second, .val (.int (Int32.ofNat (SBG.digits n))), .val (.int (Int32.ofNat off))] [(.int (4 : Int32)), (.int (Int32.ofNat (SBG.digits n))), (.long (Int64.ofNat n)), (.int (Int32.ofNat off)), (.ref x)]))
    refine callSt X266 hx hZ hown (wd hw 228 rfl) (wd hw 229 rfl) (wd hw 185 rfl) (wd hw 230 rfl) (by decide) e266 (argsL := [(.ref x), (.int (Int32.ofNat off)), (.long (Int64.ofNat n)), (.int (Int32.ofNat (SBG.digits n))), (.int (4 : Int32))]) (rest := []) (rm_d l Z a0 hw [] zc fm x t kb cs off n 4 h266 n0 O0 S_COMPACT_STRINGS hzc S_SIOOBE_FORMATTER hfm T_x Hx lx hn (by decide) (by omega) hcc) (W := 0) (by decide) (by decide) (by decide) (by decide) (by rw [hml]; rfl) (lenOf pd_29 rfl) rfl (Nat.le_of_eq rfl) (hb hby d_m7_95) ?_
    intro v267 T267 L267 h267 X267 e267 q267
    obtain ⟨rfl, n267, K267⟩ := q267
    have O0 := O0.keep K267 all0
    have T_x := T_x.keep K267 nin0 nin0
    have K0 := K0.trans K267 all0
    have N267 := Fr.app N266 n267
    show Run p e below _ (T267.setTop (mkF m 98 #[.val (.ref x), .val (.int (Int32.ofNat off)), .val (.int p2), .val (.long (Int64.ofNat n)), .second, .val (.int (Int32.ofNat (SBG.digits n))), .val (.int (Int32.ofNat off))] [(.int (1 : Int32))]))
    refine go (fun _ => XS.ifNo X267.here hx rfl (hb hby d_m7_98) rfl ((if0 _ _).trans (feq (by decide : ¬ ((1 : Int32) = 0))).1)) ?_
    show Run p e below _ (T267.setTop (mkF m 101 #[.val (.ref x), .val (.int (Int32.ofNat off)), .val (.int p2), .val (.long (Int64.ofNat n)), .second, .val (.int (Int32.ofNat (SBG.digits n))), .val (.int (Int32.ofNat off))] []))
    refine go (fun _ => XS.aloadN X267.here hx rfl (hb hby d_m7_101) rfl rfl) ?_
    show Run p e below _ (T267.setTop (mkF m 102 #[.val (.ref x), .val (.int (Int32.ofNat off)), .val (.int p2), .val (.long (Int64.ofNat n)), .second, .val (.int (Int32.ofNat (SBG.digits n))), .val (.int (Int32.ofNat off))] [(.ref x)]))
    refine go (fun _ => XS.iload X267.here hx rfl (hb hby d_m7_102) rfl) ?_
    show Run p e below _ (T267.setTop (mkF m 104 #[.val (.ref x), .val (.int (Int32.ofNat off)), .val (.int p2), .val (.long (Int64.ofNat n)), .second, .val (.int (Int32.ofNat (SBG.digits n))), .val (.int (Int32.ofNat off))] [(.int (Int32.ofNat off)), (.ref x)]))
    refine go (fun _ => XS.lloadN X267.here hx rfl (hb hby d_m7_104) rfl) ?_
    show Run p e below _ (T267.setTop (mkF m 105 #[.val (.ref x), .val (.int (Int32.ofNat off)), .val (.int p2), .val (.long (Int64.ofNat n)), .second, .val (.int (Int32.ofNat (SBG.digits n))), .val (.int (Int32.ofNat off))] [(.long (Int64.ofNat n)), (.int (Int32.ofNat off)), (.ref x)]))
    refine go (fun _ => XS.iload X267.here hx rfl (hb hby d_m7_105) rfl) ?_
    show Run p e below _ (T267.setTop (mkF m 107 #[.val (.ref x), .val (.int (Int32.ofNat off)), .val (.int p2), .val (.long (Int64.ofNat n)), .second, .val (.int (Int32.ofNat (SBG.digits n))), .val (.int (Int32.ofNat off))] [(.int (Int32.ofNat (SBG.digits n))), (.long (Int64.ofNat n)), (.int (Int32.ofNat off)), (.ref x)]))
    refine go (fun _ => XS.iconst X267.here hx rfl (hb hby d_m7_107)) ?_
    show Run p e below _ (T267.setTop (mkF m 108 #[.val (.ref x), .val (.int (Int32.ofNat off)), .val (.int p2), .val (.long (Int64.ofNat n)), .second, .val (.int (Int32.ofNat (SBG.digits n))), .val (.int (Int32.ofNat off))] [(.int (5 : Int32)), (.int (Int32.ofNat (SBG.digits n))), (.long (Int64.ofNat n)), (.int (Int32.ofNat off)), (.ref x)]))
    refine callSt X267 hx hZ hown (wd hw 228 rfl) (wd hw 229 rfl) (wd hw 185 rfl) (wd hw 230 rfl) (by decide) e267 (argsL := [(.ref x), (.int (Int32.ofNat off)), (.long (Int64.ofNat n)), (.int (Int32.ofNat (SBG.digits n))), (.int (5 : Int32))]) (rest := []) (rm_d l Z a0 hw [] zc fm x t kb cs off n 5 h267 n0 O0 S_COMPACT_STRINGS hzc S_SIOOBE_FORMATTER hfm T_x Hx lx hn (by decide) (by omega) hcc) (W := 0) (by decide) (by decide) (by decide) (by decide) (by rw [hml]; rfl) (lenOf pd_29 rfl) rfl (Nat.le_of_eq rfl) (hb hby d_m7_108) ?_
    intro v268 T268 L268 h268 X268 e268 q268
    obtain ⟨rfl, n268, K268⟩ := q268
    have O0 := O0.keep K268 all0
    have T_x := T_x.keep K268 nin0 nin0
    have K0 := K0.trans K268 all0
    have N268 := Fr.app N267 n268
    show Run p e below _ (T268.setTop (mkF m 111 #[.val (.ref x), .val (.int (Int32.ofNat off)), .val (.int p2), .val (.long (Int64.ofNat n)), .second, .val (.int (Int32.ofNat (SBG.digits n))), .val (.int (Int32.ofNat off))] [(.int (1 : Int32))]))
    refine go (fun _ => XS.ifNo X268.here hx rfl (hb hby d_m7_111) rfl ((if0 _ _).trans (feq (by decide : ¬ ((1 : Int32) = 0))).1)) ?_
    show Run p e below _ (T268.setTop (mkF m 114 #[.val (.ref x), .val (.int (Int32.ofNat off)), .val (.int p2), .val (.long (Int64.ofNat n)), .second, .val (.int (Int32.ofNat (SBG.digits n))), .val (.int (Int32.ofNat off))] []))
    refine go (fun _ => XS.aloadN X268.here hx rfl (hb hby d_m7_114) rfl rfl) ?_
    show Run p e below _ (T268.setTop (mkF m 115 #[.val (.ref x), .val (.int (Int32.ofNat off)), .val (.int p2), .val (.long (Int64.ofNat n)), .second, .val (.int (Int32.ofNat (SBG.digits n))), .val (.int (Int32.ofNat off))] [(.ref x)]))
    refine go (fun _ => XS.iload X268.here hx rfl (hb hby d_m7_115) rfl) ?_
    show Run p e below _ (T268.setTop (mkF m 117 #[.val (.ref x), .val (.int (Int32.ofNat off)), .val (.int p2), .val (.long (Int64.ofNat n)), .second, .val (.int (Int32.ofNat (SBG.digits n))), .val (.int (Int32.ofNat off))] [(.int (Int32.ofNat off)), (.ref x)]))
    refine go (fun _ => XS.lloadN X268.here hx rfl (hb hby d_m7_117) rfl) ?_
    show Run p e below _ (T268.setTop (mkF m 118 #[.val (.ref x), .val (.int (Int32.ofNat off)), .val (.int p2), .val (.long (Int64.ofNat n)), .second, .val (.int (Int32.ofNat (SBG.digits n))), .val (.int (Int32.ofNat off))] [(.long (Int64.ofNat n)), (.int (Int32.ofNat off)), (.ref x)]))
    refine go (fun _ => XS.iload X268.here hx rfl (hb hby d_m7_118) rfl) ?_
    show Run p e below _ (T268.setTop (mkF m 120 #[.val (.ref x), .val (.int (Int32.ofNat off)), .val (.int p2), .val (.long (Int64.ofNat n)), .second, .val (.int (Int32.ofNat (SBG.digits n))), .val (.int (Int32.ofNat off))] [(.int (Int32.ofNat (SBG.digits n))), (.long (Int64.ofNat n)), (.int (Int32.ofNat off)), (.ref x)]))
    refine go (fun _ => XS.bipush X268.here hx rfl (hb hby d_m7_120)) ?_
    show Run p e below _ (T268.setTop (mkF m 122 #[.val (.ref x), .val (.int (Int32.ofNat off)), .val (.int p2), .val (.long (Int64.ofNat n)), .second, .val (.int (Int32.ofNat (SBG.digits n))), .val (.int (Int32.ofNat off))] [(.int (6 : Int32)), (.int (Int32.ofNat (SBG.digits n))), (.long (Int64.ofNat n)), (.int (Int32.ofNat off)), (.ref x)]))
    refine callSt X268 hx hZ hown (wd hw 228 rfl) (wd hw 229 rfl) (wd hw 185 rfl) (wd hw 230 rfl) (by decide) e268 (argsL := [(.ref x), (.int (Int32.ofNat off)), (.long (Int64.ofNat n)), (.int (Int32.ofNat (SBG.digits n))), (.int (6 : Int32))]) (rest := []) (rm_d l Z a0 hw [] zc fm x t kb cs off n 6 h268 n0 O0 S_COMPACT_STRINGS hzc S_SIOOBE_FORMATTER hfm T_x Hx lx hn (by decide) (by omega) hcc) (W := 0) (by decide) (by decide) (by decide) (by decide) (by rw [hml]; rfl) (lenOf pd_29 rfl) rfl (Nat.le_of_eq rfl) (hb hby d_m7_122) ?_
    intro v269 T269 L269 h269 X269 e269 q269
    obtain ⟨rfl, n269, K269⟩ := q269
    have O0 := O0.keep K269 all0
    have T_x := T_x.keep K269 nin0 nin0
    have K0 := K0.trans K269 all0
    have N269 := Fr.app N268 n269
    show Run p e below _ (T269.setTop (mkF m 125 #[.val (.ref x), .val (.int (Int32.ofNat off)), .val (.int p2), .val (.long (Int64.ofNat n)), .second, .val (.int (Int32.ofNat (SBG.digits n))), .val (.int (Int32.ofNat off))] [(.int (1 : Int32))]))
    refine go (fun _ => XS.ifNo X269.here hx rfl (hb hby d_m7_125) rfl ((if0 _ _).trans (feq (by decide : ¬ ((1 : Int32) = 0))).1)) ?_
    show Run p e below _ (T269.setTop (mkF m 128 #[.val (.ref x), .val (.int (Int32.ofNat off)), .val (.int p2), .val (.long (Int64.ofNat n)), .second, .val (.int (Int32.ofNat (SBG.digits n))), .val (.int (Int32.ofNat off))] []))
    refine go (fun _ => XS.aloadN X269.here hx rfl (hb hby d_m7_128) rfl rfl) ?_
    show Run p e below _ (T269.setTop (mkF m 129 #[.val (.ref x), .val (.int (Int32.ofNat off)), .val (.int p2), .val (.long (Int64.ofNat n)), .second, .val (.int (Int32.ofNat (SBG.digits n))), .val (.int (Int32.ofNat off))] [(.ref x)]))
    refine go (fun _ => XS.iload X269.here hx rfl (hb hby d_m7_129) rfl) ?_
    show Run p e below _ (T269.setTop (mkF m 131 #[.val (.ref x), .val (.int (Int32.ofNat off)), .val (.int p2), .val (.long (Int64.ofNat n)), .second, .val (.int (Int32.ofNat (SBG.digits n))), .val (.int (Int32.ofNat off))] [(.int (Int32.ofNat off)), (.ref x)]))
    refine go (fun _ => XS.lloadN X269.here hx rfl (hb hby d_m7_131) rfl) ?_
    show Run p e below _ (T269.setTop (mkF m 132 #[.val (.ref x), .val (.int (Int32.ofNat off)), .val (.int p2), .val (.long (Int64.ofNat n)), .second, .val (.int (Int32.ofNat (SBG.digits n))), .val (.int (Int32.ofNat off))] [(.long (Int64.ofNat n)), (.int (Int32.ofNat off)), (.ref x)]))
    refine go (fun _ => XS.iload X269.here hx rfl (hb hby d_m7_132) rfl) ?_
    show Run p e below _ (T269.setTop (mkF m 134 #[.val (.ref x), .val (.int (Int32.ofNat off)), .val (.int p2), .val (.long (Int64.ofNat n)), .second, .val (.int (Int32.ofNat (SBG.digits n))), .val (.int (Int32.ofNat off))] [(.int (Int32.ofNat (SBG.digits n))), (.long (Int64.ofNat n)), (.int (Int32.ofNat off)), (.ref x)]))
    refine go (fun _ => XS.bipush X269.here hx rfl (hb hby d_m7_134)) ?_
    show Run p e below _ (T269.setTop (mkF m 136 #[.val (.ref x), .val (.int (Int32.ofNat off)), .val (.int p2), .val (.long (Int64.ofNat n)), .second, .val (.int (Int32.ofNat (SBG.digits n))), .val (.int (Int32.ofNat off))] [(.int (7 : Int32)), (.int (Int32.ofNat (SBG.digits n))), (.long (Int64.ofNat n)), (.int (Int32.ofNat off)), (.ref x)]))
    refine callSt X269 hx hZ hown (wd hw 228 rfl) (wd hw 229 rfl) (wd hw 185 rfl) (wd hw 230 rfl) (by decide) e269 (argsL := [(.ref x), (.int (Int32.ofNat off)), (.long (Int64.ofNat n)), (.int (Int32.ofNat (SBG.digits n))), (.int (7 : Int32))]) (rest := []) (rm_d l Z a0 hw [] zc fm x t kb cs off n 7 h269 n0 O0 S_COMPACT_STRINGS hzc S_SIOOBE_FORMATTER hfm T_x Hx lx hn (by decide) (by omega) hcc) (W := 0) (by decide) (by decide) (by decide) (by decide) (by rw [hml]; rfl) (lenOf pd_29 rfl) rfl (Nat.le_of_eq rfl) (hb hby d_m7_136) ?_
    intro v270 T270 L270 h270 X270 e270 q270
    obtain ⟨rfl, n270, K270⟩ := q270
    have O0 := O0.keep K270 all0
    have T_x := T_x.keep K270 nin0 nin0
    have K0 := K0.trans K270 all0
    have N270 := Fr.app N269 n270
    show Run p e below _ (T270.setTop (mkF m 139 #[.val (.ref x), .val (.int (Int32.ofNat off)), .val (.int p2), .val (.long (Int64.ofNat n)), .second, .val (.int (Int32.ofNat (SBG.digits n))), .val (.int (Int32.ofNat off))] [(.int (1 : Int32))]))
    refine go (fun _ => XS.ifNo X270.here hx rfl (hb hby d_m7_139) rfl ((if0 _ _).trans (feq (by decide : ¬ ((1 : Int32) = 0))).1)) ?_
    show Run p e below _ (T270.setTop (mkF m 142 #[.val (.ref x), .val (.int (Int32.ofNat off)), .val (.int p2), .val (.long (Int64.ofNat n)), .second, .val (.int (Int32.ofNat (SBG.digits n))), .val (.int (Int32.ofNat off))] []))
    refine go (fun _ => XS.aloadN X270.here hx rfl (hb hby d_m7_142) rfl rfl) ?_
    show Run p e below _ (T270.setTop (mkF m 143 #[.val (.ref x), .val (.int (Int32.ofNat off)), .val (.int p2), .val (.long (Int64.ofNat n)), .second, .val (.int (Int32.ofNat (SBG.digits n))), .val (.int (Int32.ofNat off))] [(.ref x)]))
    refine go (fun _ => XS.iload X270.here hx rfl (hb hby d_m7_143) rfl) ?_
    show Run p e below _ (T270.setTop (mkF m 145 #[.val (.ref x), .val (.int (Int32.ofNat off)), .val (.int p2), .val (.long (Int64.ofNat n)), .second, .val (.int (Int32.ofNat (SBG.digits n))), .val (.int (Int32.ofNat off))] [(.int (Int32.ofNat off)), (.ref x)]))
    refine go (fun _ => XS.lloadN X270.here hx rfl (hb hby d_m7_145) rfl) ?_
    show Run p e below _ (T270.setTop (mkF m 146 #[.val (.ref x), .val (.int (Int32.ofNat off)), .val (.int p2), .val (.long (Int64.ofNat n)), .second, .val (.int (Int32.ofNat (SBG.digits n))), .val (.int (Int32.ofNat off))] [(.long (Int64.ofNat n)), (.int (Int32.ofNat off)), (.ref x)]))
    refine go (fun _ => XS.iload X270.here hx rfl (hb hby d_m7_146) rfl) ?_
    show Run p e below _ (T270.setTop (mkF m 148 #[.val (.ref x), .val (.int (Int32.ofNat off)), .val (.int p2), .val (.long (Int64.ofNat n)), .second, .val (.int (Int32.ofNat (SBG.digits n))), .val (.int (Int32.ofNat off))] [(.int (Int32.ofNat (SBG.digits n))), (.long (Int64.ofNat n)), (.int (Int32.ofNat off)), (.ref x)]))
    refine go (fun _ => XS.bipush X270.here hx rfl (hb hby d_m7_148)) ?_
    show Run p e below _ (T270.setTop (mkF m 150 #[.val (.ref x), .val (.int (Int32.ofNat off)), .val (.int p2), .val (.long (Int64.ofNat n)), .second, .val (.int (Int32.ofNat (SBG.digits n))), .val (.int (Int32.ofNat off))] [(.int (8 : Int32)), (.int (Int32.ofNat (SBG.digits n))), (.long (Int64.ofNat n)), (.int (Int32.ofNat off)), (.ref x)]))
    refine callSt X270 hx hZ hown (wd hw 228 rfl) (wd hw 229 rfl) (wd hw 185 rfl) (wd hw 230 rfl) (by decide) e270 (argsL := [(.ref x), (.int (Int32.ofNat off)), (.long (Int64.ofNat n)), (.int (Int32.ofNat (SBG.digits n))), (.int (8 : Int32))]) (rest := []) (rm_d l Z a0 hw [] zc fm x t kb cs off n 8 h270 n0 O0 S_COMPACT_STRINGS hzc S_SIOOBE_FORMATTER hfm T_x Hx lx hn (by decide) (by omega) hcc) (W := 0) (by decide) (by decide) (by decide) (by decide) (by rw [hml]; rfl) (lenOf pd_29 rfl) rfl (Nat.le_of_eq rfl) (hb hby d_m7_150) ?_
    intro v271 T271 L271 h271 X271 e271 q271
    obtain ⟨rfl, n271, K271⟩ := q271
    have O0 := O0.keep K271 all0
    have T_x := T_x.keep K271 nin0 nin0
    have K0 := K0.trans K271 all0
    have N271 := Fr.app N270 n271
    show Run p e below _ (T271.setTop (mkF m 153 #[.val (.ref x), .val (.int (Int32.ofNat off)), .val (.int p2), .val (.long (Int64.ofNat n)), .second, .val (.int (Int32.ofNat (SBG.digits n))), .val (.int (Int32.ofNat off))] [(.int (1 : Int32))]))
    refine go (fun _ => XS.ifNo X271.here hx rfl (hb hby d_m7_153) rfl ((if0 _ _).trans (feq (by decide : ¬ ((1 : Int32) = 0))).1)) ?_
    show Run p e below _ (T271.setTop (mkF m 156 #[.val (.ref x), .val (.int (Int32.ofNat off)), .val (.int p2), .val (.long (Int64.ofNat n)), .second, .val (.int (Int32.ofNat (SBG.digits n))), .val (.int (Int32.ofNat off))] []))
    refine go (fun _ => XS.aloadN X271.here hx rfl (hb hby d_m7_156) rfl rfl) ?_
    show Run p e below _ (T271.setTop (mkF m 157 #[.val (.ref x), .val (.int (Int32.ofNat off)), .val (.int p2), .val (.long (Int64.ofNat n)), .second, .val (.int (Int32.ofNat (SBG.digits n))), .val (.int (Int32.ofNat off))] [(.ref x)]))
    refine go (fun _ => XS.iload X271.here hx rfl (hb hby d_m7_157) rfl) ?_
    show Run p e below _ (T271.setTop (mkF m 159 #[.val (.ref x), .val (.int (Int32.ofNat off)), .val (.int p2), .val (.long (Int64.ofNat n)), .second, .val (.int (Int32.ofNat (SBG.digits n))), .val (.int (Int32.ofNat off))] [(.int (Int32.ofNat off)), (.ref x)]))
    refine go (fun _ => XS.lloadN X271.here hx rfl (hb hby d_m7_159) rfl) ?_
    show Run p e below _ (T271.setTop (mkF m 160 #[.val (.ref x), .val (.int (Int32.ofNat off)), .val (.int p2), .val (.long (Int64.ofNat n)), .second, .val (.int (Int32.ofNat (SBG.digits n))), .val (.int (Int32.ofNat off))] [(.long (Int64.ofNat n)), (.int (Int32.ofNat off)), (.ref x)]))
    refine go (fun _ => XS.iload X271.here hx rfl (hb hby d_m7_160) rfl) ?_
    show Run p e below _ (T271.setTop (mkF m 162 #[.val (.ref x), .val (.int (Int32.ofNat off)), .val (.int p2), .val (.long (Int64.ofNat n)), .second, .val (.int (Int32.ofNat (SBG.digits n))), .val (.int (Int32.ofNat off))] [(.int (Int32.ofNat (SBG.digits n))), (.long (Int64.ofNat n)), (.int (Int32.ofNat off)), (.ref x)]))
    refine go (fun _ => XS.bipush X271.here hx rfl (hb hby d_m7_162)) ?_
    show Run p e below _ (T271.setTop (mkF m 164 #[.val (.ref x), .val (.int (Int32.ofNat off)), .val (.int p2), .val (.long (Int64.ofNat n)), .second, .val (.int (Int32.ofNat (SBG.digits n))), .val (.int (Int32.ofNat off))] [(.int (9 : Int32)), (.int (Int32.ofNat (SBG.digits n))), (.long (Int64.ofNat n)), (.int (Int32.ofNat off)), (.ref x)]))
    refine callSt X271 hx hZ hown (wd hw 228 rfl) (wd hw 229 rfl) (wd hw 185 rfl) (wd hw 230 rfl) (by decide) e271 (argsL := [(.ref x), (.int (Int32.ofNat off)), (.long (Int64.ofNat n)), (.int (Int32.ofNat (SBG.digits n))), (.int (9 : Int32))]) (rest := []) (rm_d l Z a0 hw [] zc fm x t kb cs off n 9 h271 n0 O0 S_COMPACT_STRINGS hzc S_SIOOBE_FORMATTER hfm T_x Hx lx hn (by decide) (by omega) hcc) (W := 0) (by decide) (by decide) (by decide) (by decide) (by rw [hml]; rfl) (lenOf pd_29 rfl) rfl (Nat.le_of_eq rfl) (hb hby d_m7_164) ?_
    intro v272 T272 L272 h272 X272 e272 q272
    obtain ⟨rfl, n272, K272⟩ := q272
    have O0 := O0.keep K272 all0
    have T_x := T_x.keep K272 nin0 nin0
    have K0 := K0.trans K272 all0
    have N272 := Fr.app N271 n272
    show Run p e below _ (T272.setTop (mkF m 167 #[.val (.ref x), .val (.int (Int32.ofNat off)), .val (.int p2), .val (.long (Int64.ofNat n)), .second, .val (.int (Int32.ofNat (SBG.digits n))), .val (.int (Int32.ofNat off))] [(.int (1 : Int32))]))
    refine go (fun _ => XS.ifNo X272.here hx rfl (hb hby d_m7_167) rfl ((if0 _ _).trans (feq (by decide : ¬ ((1 : Int32) = 0))).1)) ?_
    show Run p e below _ (T272.setTop (mkF m 170 #[.val (.ref x), .val (.int (Int32.ofNat off)), .val (.int p2), .val (.long (Int64.ofNat n)), .second, .val (.int (Int32.ofNat (SBG.digits n))), .val (.int (Int32.ofNat off))] []))
    refine go (fun _ => XS.iconst X272.here hx rfl (hb hby d_m7_170)) ?_
    show Run p e below _ (T272.setTop (mkF m 171 #[.val (.ref x), .val (.int (Int32.ofNat off)), .val (.int p2), .val (.long (Int64.ofNat n)), .second, .val (.int (Int32.ofNat (SBG.digits n))), .val (.int (Int32.ofNat off))] [(.int (1 : Int32))]))
    refine go (fun _ => XS.goto X272.here hx rfl (pc0 := 171) (pc' := 175) rfl (hb hby d_m7_171) (by decide) (by decide)) ?_
    show Run p e below _ (T272.setTop (mkF m 175 #[.val (.ref x), .val (.int (Int32.ofNat off)), .val (.int p2), .val (.long (Int64.ofNat n)), .second, .val (.int (Int32.ofNat (SBG.digits n))), .val (.int (Int32.ofNat off))] [(.int (1 : Int32))]))
    exact endN X272 hx hlk (t := .boolean) hret (by simp) (hb hby d_m7_175) (by rw [e272]; exact ⟨rfl, N272, K0⟩) (by decide) (by decide)
theorem d_m8_0 : decode method_8_code 0 = .ok (.iload_n 3, 1) := by decide +kernel
theorem d_m8_1 : decode method_8_code 1 = .ok (.aload_n 2, 1) := by decide +kernel
theorem d_m8_2 : decode method_8_code 2 = .ok (.invokevirtual 25, 3) := by decide +kernel
theorem d_m8_5 : decode method_8_code 5 = .ok (.if_icmp .ge 18, 3) := by decide +kernel
theorem d_m8_8 : decode method_8_code 8 = .ok (.aload_n 0, 1) := by decide +kernel
theorem d_m8_9 : decode method_8_code 9 = .ok (.iload_n 1, 1) := by decide +kernel
theorem d_m8_10 : decode method_8_code 10 = .ok (.iload_n 3, 1) := by decide +kernel
theorem d_m8_11 : decode method_8_code 11 = .ok (.iadd, 1) := by decide +kernel
theorem d_m8_12 : decode method_8_code 12 = .ok (.invokevirtual 77, 3) := by decide +kernel
theorem d_m8_15 : decode method_8_code 15 = .ok (.aload_n 2, 1) := by decide +kernel
theorem d_m8_16 : decode method_8_code 16 = .ok (.iload_n 3, 1) := by decide +kernel
theorem d_m8_17 : decode method_8_code 17 = .ok (.invokevirtual 77, 3) := by decide +kernel
theorem d_m8_20 : decode method_8_code 20 = .ok (.if_icmp .ne 7, 3) := by decide +kernel
theorem d_m8_23 : decode method_8_code 23 = .ok (.iconst 1, 1) := by decide +kernel
theorem d_m8_24 : decode method_8_code 24 = .ok (.goto 4, 3) := by decide +kernel
theorem d_m8_28 : decode method_8_code 28 = .ok (.ireturn, 1) := by decide +kernel
def Q_rm_c (zc : Int32) (fm : Value) (x t : Addr) (kb : ClassId) (cs : List Int32) (off : Nat) (y ty : Addr) (ky : ClassId) (ds : List Int32) (i : Nat) (h0 : Heap) (n0 : Nat) (v : Option Value) (h : Heap) (L : List Loc) : Prop := v = some (.int 1) ∧ Fr n0 L ∧ h = h0
set_option maxRecDepth 65536 in
set_option maxHeartbeats 40000000 in
theorem rm_c (l : Launch) (Z : State) (a0 : Array Value) (hw : ∀ d ∈ tables_1, d.before a0 Z = true) (ws : List Jvm.Cond) (zc : Int32) (fm : Value) (x t : Addr) (kb : ClassId) (cs : List Int32) (off : Nat) (y ty : Addr) (ky : ClassId) (ds : List Int32) (i : Nat) (h0 : Heap) (n0 : Nat) (O0 : Old Z n0 h0) (S_COMPACT_STRINGS : Sta Z Z.heap "java/lang/String" "COMPACT_STRINGS" "Z" (.int zc)) (hzc : ¬ zc = 0) (S_SIOOBE_FORMATTER : Sta Z Z.heap "jdk/internal/util/Preconditions" "SIOOBE_FORMATTER" "Ljava/util/function/BiFunction;" fm) (hfm : fm.isRef = true) (T_x : Str Z h0 x t kb cs) (T_y : Str Z h0 y ty ky ds) (Hx : In8 cs) (lx : cs.length ≤ 4000) (Hy : In8 ds) (ly : ds.length ≤ 20) (hin : off + ds.length ≤ cs.length) (hch : ∀ j, j < ds.length → cs.getD (off + j) 0 = ds.getD j 0) (hi : i < 20) :
    Meets l (⟨"com/example/visit_by_value/visitbyvalue/cli/WholeNumberRangePinLaw", "c", "(Ljava/lang/String;ILjava/lang/String;I)Z"⟩ : MethodName) method_8_code 4 (some .boolean) ws ({ frames := 4, cells := 0, slots := 0, locals := 54 } : Room) Z #[(.ref x), (.int (Int32.ofNat off)), (.ref y), (.int (Int32.ofNat i))] h0 (Q_rm_c zc fm x t kb cs off y ty ky ds i h0 n0) 0 0 := by
  refine enter (Ls := #[.val (.ref x), .val (.int (Int32.ofNat off)), .val (.ref y), .val (.int (Int32.ofNat i))]) (plainFor_of_name pn_12) (fun m => by first | (simp [entryFrame, mkF, argsToLocals, Value.category]; done) | rfl) ?_
  intro p e s m below meth c T0 hx hby hml hown hnm hret hlk hZ X0 e0
  have N0 := Fr.nil n0
  replace hown : s.vm.findClass "com/example/visit_by_value/visitbyvalue/cli/WholeNumberRangePinLaw" = some m.cls := hown
  show Run p e below _ (T0.setTop (mkF m 0 #[.val (.ref x), .val (.int (Int32.ofNat off)), .val (.ref y), .val (.int (Int32.ofNat i))] []))
  refine go (fun _ => XS.iloadN X0.here hx rfl (hb hby d_m8_0) rfl) ?_
  show Run p e below _ (T0.setTop (mkF m 1 #[.val (.ref x), .val (.int (Int32.ofNat off)), .val (.ref y), .val (.int (Int32.ofNat i))] [(.int (Int32.ofNat i))]))
  refine go (fun _ => XS.aloadN X0.here hx rfl (hb hby d_m8_1) rfl rfl) ?_
  show Run p e below _ (T0.setTop (mkF m 2 #[.val (.ref x), .val (.int (Int32.ofNat off)), .val (.ref y), .val (.int (Int32.ofNat i))] [(.ref y), (.int (Int32.ofNat i))]))
  refine callVi X0 hx hZ hown (wd hw 195 rfl) (wd hw 60 rfl) (notFace_of_selects (args := #[]) (mvT hZ (wd hw 62 rfl))) (wd hw 62 rfl) (wd hw 61 rfl) (wd hw 63 rfl) (wd hw 37 rfl) (by decide) e0 T_y.1 (argsL := []) (rest := [(.int (Int32.ofNat i))]) (rm_len l Z a0 hw [] zc y ty ky ds h0 n0 O0 S_COMPACT_STRINGS hzc T_y) (W := 1) (by decide) (by decide) (by decide) (by decide) (by rw [hml]; rfl) (lenOf pd_13 rfl) rfl (Nat.le_of_eq rfl) (hb hby d_m8_2) ?_
  intro v273 T273 L273 h273 X273 e273 q273
  obtain ⟨rv, n273, k273⟩ := q273
  replace rv : v273 = some (.int (Int32.ofNat (ds).length)) := rv
  subst rv
  have e273 := e273.trans k273
  have N273 := Fr.app N0 n273
  show Run p e below _ (T273.setTop (mkF m 5 #[.val (.ref x), .val (.int (Int32.ofNat off)), .val (.ref y), .val (.int (Int32.ofNat i))] [(.int (Int32.ofNat (ds).length)), (.int (Int32.ofNat i))]))
  by_cases c274 : (Int32.ofNat i) < (Int32.ofNat (ds).length)
  · skip
    refine go (fun _ => XS.icmpNo X273.here hx rfl (hb hby d_m8_5) rfl (tlt c274).2.1) ?_
    show Run p e below _ (T273.setTop (mkF m 8 #[.val (.ref x), .val (.int (Int32.ofNat off)), .val (.ref y), .val (.int (Int32.ofNat i))] []))
    refine go (fun _ => XS.aloadN X273.here hx rfl (hb hby d_m8_8) rfl rfl) ?_
    show Run p e below _ (T273.setTop (mkF m 9 #[.val (.ref x), .val (.int (Int32.ofNat off)), .val (.ref y), .val (.int (Int32.ofNat i))] [(.ref x)]))
    refine go (fun _ => XS.iloadN X273.here hx rfl (hb hby d_m8_9) rfl) ?_
    show Run p e below _ (T273.setTop (mkF m 10 #[.val (.ref x), .val (.int (Int32.ofNat off)), .val (.ref y), .val (.int (Int32.ofNat i))] [(.int (Int32.ofNat off)), (.ref x)]))
    refine go (fun _ => XS.iloadN X273.here hx rfl (hb hby d_m8_10) rfl) ?_
    show Run p e below _ (T273.setTop (mkF m 11 #[.val (.ref x), .val (.int (Int32.ofNat off)), .val (.ref y), .val (.int (Int32.ofNat i))] [(.int (Int32.ofNat i)), (.int (Int32.ofNat off)), (.ref x)]))
    refine go (fun _ => XS.iadd X273.here hx rfl (hb hby d_m8_11) rfl) ?_
    rw [own_add]
    show Run p e below _ (T273.setTop (mkF m 12 #[.val (.ref x), .val (.int (Int32.ofNat off)), .val (.ref y), .val (.int (Int32.ofNat i))] [(.int (Int32.ofNat (off + i))), (.ref x)]))
    have hlt : i < ds.length := (own_lti (by omega) (by omega)).mp c274
    refine callVi X273 hx hZ hown (wd hw 203 rfl) (wd hw 204 rfl) (notFace_of_selects (args := #[]) (mvT hZ (wd hw 206 rfl))) (wd hw 206 rfl) (wd hw 205 rfl) (wd hw 207 rfl) (wd hw 37 rfl) (by decide) e273 T_x.1 (argsL := [(.int (Int32.ofNat (off + i)))]) (rest := []) (rm_ch l Z a0 hw [] zc fm x t kb cs (off + i) h0 n0 O0 S_COMPACT_STRINGS hzc S_SIOOBE_FORMATTER hfm T_x Hx lx (by omega)) (W := 0) (by decide) (by decide) (by decide) (by decide) (by rw [hml]; rfl) (lenOf pd_28 rfl) rfl (Nat.le_of_eq rfl) (hb hby d_m8_12) ?_
    intro v275 T275 L275 h275 X275 e275 q275
    obtain ⟨rv, n275, k275⟩ := q275
    replace rv : v275 = some (.int ((ds).getD i 0)) := by rw [hch i hlt] at rv; exact rv
    subst rv
    have e275 := e275.trans k275
    have N275 := Fr.app N273 n275
    show Run p e below _ (T275.setTop (mkF m 15 #[.val (.ref x), .val (.int (Int32.ofNat off)), .val (.ref y), .val (.int (Int32.ofNat i))] [(.int ((ds).getD i 0))]))
    refine go (fun _ => XS.aloadN X275.here hx rfl (hb hby d_m8_15) rfl rfl) ?_
    show Run p e below _ (T275.setTop (mkF m 16 #[.val (.ref x), .val (.int (Int32.ofNat off)), .val (.ref y), .val (.int (Int32.ofNat i))] [(.ref y), (.int ((ds).getD i 0))]))
    refine go (fun _ => XS.iloadN X275.here hx rfl (hb hby d_m8_16) rfl) ?_
    show Run p e below _ (T275.setTop (mkF m 17 #[.val (.ref x), .val (.int (Int32.ofNat off)), .val (.ref y), .val (.int (Int32.ofNat i))] [(.int (Int32.ofNat i)), (.ref y), (.int ((ds).getD i 0))]))
    refine callVi X275 hx hZ hown (wd hw 203 rfl) (wd hw 204 rfl) (notFace_of_selects (args := #[]) (mvT hZ (wd hw 206 rfl))) (wd hw 206 rfl) (wd hw 205 rfl) (wd hw 207 rfl) (wd hw 37 rfl) (by decide) e275 T_y.1 (argsL := [(.int (Int32.ofNat i))]) (rest := [(.int ((ds).getD i 0))]) (rm_ch l Z a0 hw [] zc fm y ty ky ds i h0 n0 O0 S_COMPACT_STRINGS hzc S_SIOOBE_FORMATTER hfm T_y Hy (by omega) hlt) (W := 1) (by decide) (by decide) (by decide) (by decide) (by rw [hml]; rfl) (lenOf pd_28 rfl) rfl (Nat.le_of_eq rfl) (hb hby d_m8_17) ?_
    intro v276 T276 L276 h276 X276 e276 q276
    obtain ⟨rv, n276, k276⟩ := q276
    replace rv : v276 = some (.int ((ds).getD i 0)) := rv
    subst rv
    have e276 := e276.trans k276
    have N276 := Fr.app N275 n276
    show Run p e below _ (T276.setTop (mkF m 20 #[.val (.ref x), .val (.int (Int32.ofNat off)), .val (.ref y), .val (.int (Int32.ofNat i))] [(.int ((ds).getD i 0)), (.int ((ds).getD i 0))]))
    refine go (fun _ => XS.icmpNo X276.here hx rfl (hb hby d_m8_20) rfl (teq rfl).2) ?_
    show Run p e below _ (T276.setTop (mkF m 23 #[.val (.ref x), .val (.int (Int32.ofNat off)), .val (.ref y), .val (.int (Int32.ofNat i))] []))
    refine go (fun _ => XS.iconst X276.here hx rfl (hb hby d_m8_23)) ?_
    show Run p e below _ (T276.setTop (mkF m 24 #[.val (.ref x), .val (.int (Int32.ofNat off)), .val (.ref y), .val (.int (Int32.ofNat i))] [(.int (1 : Int32))]))
    refine go (fun _ => XS.goto X276.here hx rfl (pc0 := 24) (pc' := 28) rfl (hb hby d_m8_24) (by decide) (by decide)) ?_
    show Run p e below _ (T276.setTop (mkF m 28 #[.val (.ref x), .val (.int (Int32.ofNat off)), .val (.ref y), .val (.int (Int32.ofNat i))] [(.int (1 : Int32))]))
    exact endN X276 hx hlk (t := .boolean) hret (by simp) (hb hby d_m8_28) (⟨rfl, N276, e276⟩) (by decide) (by decide)
  · skip
    refine go (fun _ => XS.icmpYes X273.here hx rfl (pc0 := 5) (pc' := 23) rfl (hb hby d_m8_5) rfl (flt c274).2.1 (by decide) (by decide)) ?_
    show Run p e below _ (T273.setTop (mkF m 23 #[.val (.ref x), .val (.int (Int32.ofNat off)), .val (.ref y), .val (.int (Int32.ofNat i))] []))
    refine go (fun _ => XS.iconst X273.here hx rfl (hb hby d_m8_23)) ?_
    show Run p e below _ (T273.setTop (mkF m 24 #[.val (.ref x), .val (.int (Int32.ofNat off)), .val (.ref y), .val (.int (Int32.ofNat i))] [(.int (1 : Int32))]))
    refine go (fun _ => XS.goto X273.here hx rfl (pc0 := 24) (pc' := 28) rfl (hb hby d_m8_24) (by decide) (by decide)) ?_
    show Run p e below _ (T273.setTop (mkF m 28 #[.val (.ref x), .val (.int (Int32.ofNat off)), .val (.ref y), .val (.int (Int32.ofNat i))] [(.int (1 : Int32))]))
    exact endN X273 hx hlk (t := .boolean) hret (by simp) (hb hby d_m8_28) (⟨rfl, N273, e273⟩) (by decide) (by decide)
theorem d_m9_0 : decode method_9_code 0 = .ok (.aload_n 0, 1) := by decide +kernel
theorem d_m9_1 : decode method_9_code 1 = .ok (.iload_n 1, 1) := by decide +kernel
theorem d_m9_2 : decode method_9_code 2 = .ok (.aload_n 2, 1) := by decide +kernel
theorem d_m9_3 : decode method_9_code 3 = .ok (.iconst 0, 1) := by decide +kernel
theorem d_m9_4 : decode method_9_code 4 = .ok (.invokestatic 87, 3) := by decide +kernel
theorem pd_30 : parseMethodDescriptor "(Ljava/lang/String;ILjava/lang/String;I)Z" = some ⟨[(.object "java/lang/String"), .int, (.object "java/lang/String"), .int], some .boolean⟩ := by decide +kernel
theorem d_m9_7 : decode method_9_code 7 = .ok (.ifCond .eq 211, 3) := by decide +kernel
theorem d_m9_10 : decode method_9_code 10 = .ok (.aload_n 0, 1) := by decide +kernel
theorem d_m9_11 : decode method_9_code 11 = .ok (.iload_n 1, 1) := by decide +kernel
theorem d_m9_12 : decode method_9_code 12 = .ok (.aload_n 2, 1) := by decide +kernel
theorem d_m9_13 : decode method_9_code 13 = .ok (.iconst 1, 1) := by decide +kernel
theorem d_m9_14 : decode method_9_code 14 = .ok (.invokestatic 87, 3) := by decide +kernel
theorem d_m9_17 : decode method_9_code 17 = .ok (.ifCond .eq 201, 3) := by decide +kernel
theorem d_m9_20 : decode method_9_code 20 = .ok (.aload_n 0, 1) := by decide +kernel
theorem d_m9_21 : decode method_9_code 21 = .ok (.iload_n 1, 1) := by decide +kernel
theorem d_m9_22 : decode method_9_code 22 = .ok (.aload_n 2, 1) := by decide +kernel
theorem d_m9_23 : decode method_9_code 23 = .ok (.iconst 2, 1) := by decide +kernel
theorem d_m9_24 : decode method_9_code 24 = .ok (.invokestatic 87, 3) := by decide +kernel
theorem d_m9_27 : decode method_9_code 27 = .ok (.ifCond .eq 191, 3) := by decide +kernel
theorem d_m9_30 : decode method_9_code 30 = .ok (.aload_n 0, 1) := by decide +kernel
theorem d_m9_31 : decode method_9_code 31 = .ok (.iload_n 1, 1) := by decide +kernel
theorem d_m9_32 : decode method_9_code 32 = .ok (.aload_n 2, 1) := by decide +kernel
theorem d_m9_33 : decode method_9_code 33 = .ok (.iconst 3, 1) := by decide +kernel
theorem d_m9_34 : decode method_9_code 34 = .ok (.invokestatic 87, 3) := by decide +kernel
theorem d_m9_37 : decode method_9_code 37 = .ok (.ifCond .eq 181, 3) := by decide +kernel
theorem d_m9_40 : decode method_9_code 40 = .ok (.aload_n 0, 1) := by decide +kernel
theorem d_m9_41 : decode method_9_code 41 = .ok (.iload_n 1, 1) := by decide +kernel
theorem d_m9_42 : decode method_9_code 42 = .ok (.aload_n 2, 1) := by decide +kernel
theorem d_m9_43 : decode method_9_code 43 = .ok (.iconst 4, 1) := by decide +kernel
theorem d_m9_44 : decode method_9_code 44 = .ok (.invokestatic 87, 3) := by decide +kernel
theorem d_m9_47 : decode method_9_code 47 = .ok (.ifCond .eq 171, 3) := by decide +kernel
theorem d_m9_50 : decode method_9_code 50 = .ok (.aload_n 0, 1) := by decide +kernel
theorem d_m9_51 : decode method_9_code 51 = .ok (.iload_n 1, 1) := by decide +kernel
theorem d_m9_52 : decode method_9_code 52 = .ok (.aload_n 2, 1) := by decide +kernel
theorem d_m9_53 : decode method_9_code 53 = .ok (.iconst 5, 1) := by decide +kernel
theorem d_m9_54 : decode method_9_code 54 = .ok (.invokestatic 87, 3) := by decide +kernel
theorem d_m9_57 : decode method_9_code 57 = .ok (.ifCond .eq 161, 3) := by decide +kernel
theorem d_m9_60 : decode method_9_code 60 = .ok (.aload_n 0, 1) := by decide +kernel
theorem d_m9_61 : decode method_9_code 61 = .ok (.iload_n 1, 1) := by decide +kernel
theorem d_m9_62 : decode method_9_code 62 = .ok (.aload_n 2, 1) := by decide +kernel
theorem d_m9_63 : decode method_9_code 63 = .ok (.bipush 6, 2) := by decide +kernel
theorem d_m9_65 : decode method_9_code 65 = .ok (.invokestatic 87, 3) := by decide +kernel
theorem d_m9_68 : decode method_9_code 68 = .ok (.ifCond .eq 150, 3) := by decide +kernel
theorem d_m9_71 : decode method_9_code 71 = .ok (.aload_n 0, 1) := by decide +kernel
theorem d_m9_72 : decode method_9_code 72 = .ok (.iload_n 1, 1) := by decide +kernel
theorem d_m9_73 : decode method_9_code 73 = .ok (.aload_n 2, 1) := by decide +kernel
theorem d_m9_74 : decode method_9_code 74 = .ok (.bipush 7, 2) := by decide +kernel
theorem d_m9_76 : decode method_9_code 76 = .ok (.invokestatic 87, 3) := by decide +kernel
theorem d_m9_79 : decode method_9_code 79 = .ok (.ifCond .eq 139, 3) := by decide +kernel
theorem d_m9_82 : decode method_9_code 82 = .ok (.aload_n 0, 1) := by decide +kernel
theorem d_m9_83 : decode method_9_code 83 = .ok (.iload_n 1, 1) := by decide +kernel
theorem d_m9_84 : decode method_9_code 84 = .ok (.aload_n 2, 1) := by decide +kernel
theorem d_m9_85 : decode method_9_code 85 = .ok (.bipush 8, 2) := by decide +kernel
theorem d_m9_87 : decode method_9_code 87 = .ok (.invokestatic 87, 3) := by decide +kernel
theorem d_m9_90 : decode method_9_code 90 = .ok (.ifCond .eq 128, 3) := by decide +kernel
theorem d_m9_93 : decode method_9_code 93 = .ok (.aload_n 0, 1) := by decide +kernel
theorem d_m9_94 : decode method_9_code 94 = .ok (.iload_n 1, 1) := by decide +kernel
theorem d_m9_95 : decode method_9_code 95 = .ok (.aload_n 2, 1) := by decide +kernel
theorem d_m9_96 : decode method_9_code 96 = .ok (.bipush 9, 2) := by decide +kernel
theorem d_m9_98 : decode method_9_code 98 = .ok (.invokestatic 87, 3) := by decide +kernel
theorem d_m9_101 : decode method_9_code 101 = .ok (.ifCond .eq 117, 3) := by decide +kernel
theorem d_m9_104 : decode method_9_code 104 = .ok (.aload_n 0, 1) := by decide +kernel
theorem d_m9_105 : decode method_9_code 105 = .ok (.iload_n 1, 1) := by decide +kernel
theorem d_m9_106 : decode method_9_code 106 = .ok (.aload_n 2, 1) := by decide +kernel
theorem d_m9_107 : decode method_9_code 107 = .ok (.bipush 10, 2) := by decide +kernel
theorem d_m9_109 : decode method_9_code 109 = .ok (.invokestatic 87, 3) := by decide +kernel
theorem d_m9_112 : decode method_9_code 112 = .ok (.ifCond .eq 106, 3) := by decide +kernel
theorem d_m9_115 : decode method_9_code 115 = .ok (.aload_n 0, 1) := by decide +kernel
theorem d_m9_116 : decode method_9_code 116 = .ok (.iload_n 1, 1) := by decide +kernel
theorem d_m9_117 : decode method_9_code 117 = .ok (.aload_n 2, 1) := by decide +kernel
theorem d_m9_118 : decode method_9_code 118 = .ok (.bipush 11, 2) := by decide +kernel
theorem d_m9_120 : decode method_9_code 120 = .ok (.invokestatic 87, 3) := by decide +kernel
theorem d_m9_123 : decode method_9_code 123 = .ok (.ifCond .eq 95, 3) := by decide +kernel
theorem d_m9_126 : decode method_9_code 126 = .ok (.aload_n 0, 1) := by decide +kernel
theorem d_m9_127 : decode method_9_code 127 = .ok (.iload_n 1, 1) := by decide +kernel
theorem d_m9_128 : decode method_9_code 128 = .ok (.aload_n 2, 1) := by decide +kernel
theorem d_m9_129 : decode method_9_code 129 = .ok (.bipush 12, 2) := by decide +kernel
theorem d_m9_131 : decode method_9_code 131 = .ok (.invokestatic 87, 3) := by decide +kernel
theorem d_m9_134 : decode method_9_code 134 = .ok (.ifCond .eq 84, 3) := by decide +kernel
theorem d_m9_137 : decode method_9_code 137 = .ok (.aload_n 0, 1) := by decide +kernel
theorem d_m9_138 : decode method_9_code 138 = .ok (.iload_n 1, 1) := by decide +kernel
theorem d_m9_139 : decode method_9_code 139 = .ok (.aload_n 2, 1) := by decide +kernel
theorem d_m9_140 : decode method_9_code 140 = .ok (.bipush 13, 2) := by decide +kernel
theorem d_m9_142 : decode method_9_code 142 = .ok (.invokestatic 87, 3) := by decide +kernel
theorem d_m9_145 : decode method_9_code 145 = .ok (.ifCond .eq 73, 3) := by decide +kernel
theorem d_m9_148 : decode method_9_code 148 = .ok (.aload_n 0, 1) := by decide +kernel
theorem d_m9_149 : decode method_9_code 149 = .ok (.iload_n 1, 1) := by decide +kernel
theorem d_m9_150 : decode method_9_code 150 = .ok (.aload_n 2, 1) := by decide +kernel
theorem d_m9_151 : decode method_9_code 151 = .ok (.bipush 14, 2) := by decide +kernel
theorem d_m9_153 : decode method_9_code 153 = .ok (.invokestatic 87, 3) := by decide +kernel
theorem d_m9_156 : decode method_9_code 156 = .ok (.ifCond .eq 62, 3) := by decide +kernel
theorem d_m9_159 : decode method_9_code 159 = .ok (.aload_n 0, 1) := by decide +kernel
theorem d_m9_160 : decode method_9_code 160 = .ok (.iload_n 1, 1) := by decide +kernel
theorem d_m9_161 : decode method_9_code 161 = .ok (.aload_n 2, 1) := by decide +kernel
theorem d_m9_162 : decode method_9_code 162 = .ok (.bipush 15, 2) := by decide +kernel
theorem d_m9_164 : decode method_9_code 164 = .ok (.invokestatic 87, 3) := by decide +kernel
theorem d_m9_167 : decode method_9_code 167 = .ok (.ifCond .eq 51, 3) := by decide +kernel
theorem d_m9_170 : decode method_9_code 170 = .ok (.aload_n 0, 1) := by decide +kernel
theorem d_m9_171 : decode method_9_code 171 = .ok (.iload_n 1, 1) := by decide +kernel
theorem d_m9_172 : decode method_9_code 172 = .ok (.aload_n 2, 1) := by decide +kernel
theorem d_m9_173 : decode method_9_code 173 = .ok (.bipush 16, 2) := by decide +kernel
theorem d_m9_175 : decode method_9_code 175 = .ok (.invokestatic 87, 3) := by decide +kernel
theorem d_m9_178 : decode method_9_code 178 = .ok (.ifCond .eq 40, 3) := by decide +kernel
theorem d_m9_181 : decode method_9_code 181 = .ok (.aload_n 0, 1) := by decide +kernel
theorem d_m9_182 : decode method_9_code 182 = .ok (.iload_n 1, 1) := by decide +kernel
theorem d_m9_183 : decode method_9_code 183 = .ok (.aload_n 2, 1) := by decide +kernel
theorem d_m9_184 : decode method_9_code 184 = .ok (.bipush 17, 2) := by decide +kernel
theorem d_m9_186 : decode method_9_code 186 = .ok (.invokestatic 87, 3) := by decide +kernel
theorem d_m9_189 : decode method_9_code 189 = .ok (.ifCond .eq 29, 3) := by decide +kernel
theorem d_m9_192 : decode method_9_code 192 = .ok (.aload_n 0, 1) := by decide +kernel
theorem d_m9_193 : decode method_9_code 193 = .ok (.iload_n 1, 1) := by decide +kernel
theorem d_m9_194 : decode method_9_code 194 = .ok (.aload_n 2, 1) := by decide +kernel
theorem d_m9_195 : decode method_9_code 195 = .ok (.bipush 18, 2) := by decide +kernel
theorem d_m9_197 : decode method_9_code 197 = .ok (.invokestatic 87, 3) := by decide +kernel
theorem d_m9_200 : decode method_9_code 200 = .ok (.ifCond .eq 18, 3) := by decide +kernel
theorem d_m9_203 : decode method_9_code 203 = .ok (.aload_n 0, 1) := by decide +kernel
theorem d_m9_204 : decode method_9_code 204 = .ok (.iload_n 1, 1) := by decide +kernel
theorem d_m9_205 : decode method_9_code 205 = .ok (.aload_n 2, 1) := by decide +kernel
theorem d_m9_206 : decode method_9_code 206 = .ok (.bipush 19, 2) := by decide +kernel
theorem d_m9_208 : decode method_9_code 208 = .ok (.invokestatic 87, 3) := by decide +kernel
theorem d_m9_211 : decode method_9_code 211 = .ok (.ifCond .eq 7, 3) := by decide +kernel
theorem d_m9_214 : decode method_9_code 214 = .ok (.iconst 1, 1) := by decide +kernel
theorem d_m9_215 : decode method_9_code 215 = .ok (.goto 4, 3) := by decide +kernel
theorem d_m9_219 : decode method_9_code 219 = .ok (.ireturn, 1) := by decide +kernel
def Q_rm_lt (zc : Int32) (fm : Value) (x t : Addr) (kb : ClassId) (cs : List Int32) (off : Nat) (y ty : Addr) (ky : ClassId) (ds : List Int32) (h0 : Heap) (n0 : Nat) (v : Option Value) (h : Heap) (L : List Loc) : Prop := v = some (.int 1) ∧ Fr n0 L ∧ h = h0
set_option maxRecDepth 65536 in
set_option maxHeartbeats 40000000 in
theorem rm_lt (l : Launch) (Z : State) (a0 : Array Value) (hw : ∀ d ∈ tables_1, d.before a0 Z = true) (ws : List Jvm.Cond) (zc : Int32) (fm : Value) (x t : Addr) (kb : ClassId) (cs : List Int32) (off : Nat) (y ty : Addr) (ky : ClassId) (ds : List Int32) (h0 : Heap) (n0 : Nat) (O0 : Old Z n0 h0) (S_COMPACT_STRINGS : Sta Z Z.heap "java/lang/String" "COMPACT_STRINGS" "Z" (.int zc)) (hzc : ¬ zc = 0) (S_SIOOBE_FORMATTER : Sta Z Z.heap "jdk/internal/util/Preconditions" "SIOOBE_FORMATTER" "Ljava/util/function/BiFunction;" fm) (hfm : fm.isRef = true) (T_x : Str Z h0 x t kb cs) (T_y : Str Z h0 y ty ky ds) (Hx : In8 cs) (lx : cs.length ≤ 4000) (Hy : In8 ds) (ly : ds.length ≤ 20) (hin : off + ds.length ≤ cs.length) (hch : ∀ j, j < ds.length → cs.getD (off + j) 0 = ds.getD j 0) :
    Meets l (⟨"com/example/visit_by_value/visitbyvalue/cli/WholeNumberRangePinLaw", "lit", "(Ljava/lang/String;ILjava/lang/String;)Z"⟩ : MethodName) method_9_code 3 (some .boolean) ws ({ frames := 5, cells := 0, slots := 0, locals := 69 } : Room) Z #[(.ref x), (.int (Int32.ofNat off)), (.ref y)] h0 (Q_rm_lt zc fm x t kb cs off y ty ky ds h0 n0) 0 0 := by
  refine enter (Ls := #[.val (.ref x), .val (.int (Int32.ofNat off)), .val (.ref y)]) (plainFor_of_name pn_12) (fun m => by first | (simp [entryFrame, mkF, argsToLocals, Value.category]; done) | rfl) ?_
  intro p e s m below meth c T0 hx hby hml hown hnm hret hlk hZ X0 e0
  have N0 := Fr.nil n0
  replace hown : s.vm.findClass "com/example/visit_by_value/visitbyvalue/cli/WholeNumberRangePinLaw" = some m.cls := hown
  show Run p e below _ (T0.setTop (mkF m 0 #[.val (.ref x), .val (.int (Int32.ofNat off)), .val (.ref y)] []))
  refine go (fun _ => XS.aloadN X0.here hx rfl (hb hby d_m9_0) rfl rfl) ?_
  show Run p e below _ (T0.setTop (mkF m 1 #[.val (.ref x), .val (.int (Int32.ofNat off)), .val (.ref y)] [(.ref x)]))
  refine go (fun _ => XS.iloadN X0.here hx rfl (hb hby d_m9_1) rfl) ?_
  show Run p e below _ (T0.setTop (mkF m 2 #[.val (.ref x), .val (.int (Int32.ofNat off)), .val (.ref y)] [(.int (Int32.ofNat off)), (.ref x)]))
  refine go (fun _ => XS.aloadN X0.here hx rfl (hb hby d_m9_2) rfl rfl) ?_
  show Run p e below _ (T0.setTop (mkF m 3 #[.val (.ref x), .val (.int (Int32.ofNat off)), .val (.ref y)] [(.ref y), (.int (Int32.ofNat off)), (.ref x)]))
  refine go (fun _ => XS.iconst X0.here hx rfl (hb hby d_m9_3)) ?_
  show Run p e below _ (T0.setTop (mkF m 4 #[.val (.ref x), .val (.int (Int32.ofNat off)), .val (.ref y)] [(.int (0 : Int32)), (.ref y), (.int (Int32.ofNat off)), (.ref x)]))
  refine callSt X0 hx hZ hown (wd hw 200 rfl) (wd hw 201 rfl) (wd hw 185 rfl) (wd hw 202 rfl) (by decide) e0 (argsL := [(.ref x), (.int (Int32.ofNat off)), (.ref y), (.int (0 : Int32))]) (rest := []) (rm_c l Z a0 hw [] zc fm x t kb cs off y ty ky ds 0 h0 n0 O0 S_COMPACT_STRINGS hzc S_SIOOBE_FORMATTER hfm T_x T_y Hx lx Hy ly hin hch (by decide)) (W := 0) (by decide) (by decide) (by decide) (by decide) (by rw [hml]; rfl) (lenOf pd_30 rfl) rfl (Nat.le_of_eq rfl) (hb hby d_m9_4) ?_
  intro v277 T277 L277 h277 X277 e277 q277
  obtain ⟨rv, n277, k277⟩ := q277
  replace rv : v277 = some (.int (1 : Int32)) := rv
  subst rv
  have e277 := e277.trans k277
  have N277 := Fr.app N0 n277
  show Run p e below _ (T277.setTop (mkF m 7 #[.val (.ref x), .val (.int (Int32.ofNat off)), .val (.ref y)] [(.int (1 : Int32))]))
  refine go (fun _ => XS.ifNo X277.here hx rfl (hb hby d_m9_7) rfl ((if0 _ _).trans (feq (by decide : ¬ ((1 : Int32) = 0))).1)) ?_
  show Run p e below _ (T277.setTop (mkF m 10 #[.val (.ref x), .val (.int (Int32.ofNat off)), .val (.ref y)] []))
  refine go (fun _ => XS.aloadN X277.here hx rfl (hb hby d_m9_10) rfl rfl) ?_
  show Run p e below _ (T277.setTop (mkF m 11 #[.val (.ref x), .val (.int (Int32.ofNat off)), .val (.ref y)] [(.ref x)]))
  refine go (fun _ => XS.iloadN X277.here hx rfl (hb hby d_m9_11) rfl) ?_
  show Run p e below _ (T277.setTop (mkF m 12 #[.val (.ref x), .val (.int (Int32.ofNat off)), .val (.ref y)] [(.int (Int32.ofNat off)), (.ref x)]))
  refine go (fun _ => XS.aloadN X277.here hx rfl (hb hby d_m9_12) rfl rfl) ?_
  show Run p e below _ (T277.setTop (mkF m 13 #[.val (.ref x), .val (.int (Int32.ofNat off)), .val (.ref y)] [(.ref y), (.int (Int32.ofNat off)), (.ref x)]))
  refine go (fun _ => XS.iconst X277.here hx rfl (hb hby d_m9_13)) ?_
  show Run p e below _ (T277.setTop (mkF m 14 #[.val (.ref x), .val (.int (Int32.ofNat off)), .val (.ref y)] [(.int (1 : Int32)), (.ref y), (.int (Int32.ofNat off)), (.ref x)]))
  refine callSt X277 hx hZ hown (wd hw 200 rfl) (wd hw 201 rfl) (wd hw 185 rfl) (wd hw 202 rfl) (by decide) e277 (argsL := [(.ref x), (.int (Int32.ofNat off)), (.ref y), (.int (1 : Int32))]) (rest := []) (rm_c l Z a0 hw [] zc fm x t kb cs off y ty ky ds 1 h0 n0 O0 S_COMPACT_STRINGS hzc S_SIOOBE_FORMATTER hfm T_x T_y Hx lx Hy ly hin hch (by decide)) (W := 0) (by decide) (by decide) (by decide) (by decide) (by rw [hml]; rfl) (lenOf pd_30 rfl) rfl (Nat.le_of_eq rfl) (hb hby d_m9_14) ?_
  intro v278 T278 L278 h278 X278 e278 q278
  obtain ⟨rv, n278, k278⟩ := q278
  replace rv : v278 = some (.int (1 : Int32)) := rv
  subst rv
  have e278 := e278.trans k278
  have N278 := Fr.app N277 n278
  show Run p e below _ (T278.setTop (mkF m 17 #[.val (.ref x), .val (.int (Int32.ofNat off)), .val (.ref y)] [(.int (1 : Int32))]))
  refine go (fun _ => XS.ifNo X278.here hx rfl (hb hby d_m9_17) rfl ((if0 _ _).trans (feq (by decide : ¬ ((1 : Int32) = 0))).1)) ?_
  show Run p e below _ (T278.setTop (mkF m 20 #[.val (.ref x), .val (.int (Int32.ofNat off)), .val (.ref y)] []))
  refine go (fun _ => XS.aloadN X278.here hx rfl (hb hby d_m9_20) rfl rfl) ?_
  show Run p e below _ (T278.setTop (mkF m 21 #[.val (.ref x), .val (.int (Int32.ofNat off)), .val (.ref y)] [(.ref x)]))
  refine go (fun _ => XS.iloadN X278.here hx rfl (hb hby d_m9_21) rfl) ?_
  show Run p e below _ (T278.setTop (mkF m 22 #[.val (.ref x), .val (.int (Int32.ofNat off)), .val (.ref y)] [(.int (Int32.ofNat off)), (.ref x)]))
  refine go (fun _ => XS.aloadN X278.here hx rfl (hb hby d_m9_22) rfl rfl) ?_
  show Run p e below _ (T278.setTop (mkF m 23 #[.val (.ref x), .val (.int (Int32.ofNat off)), .val (.ref y)] [(.ref y), (.int (Int32.ofNat off)), (.ref x)]))
  refine go (fun _ => XS.iconst X278.here hx rfl (hb hby d_m9_23)) ?_
  show Run p e below _ (T278.setTop (mkF m 24 #[.val (.ref x), .val (.int (Int32.ofNat off)), .val (.ref y)] [(.int (2 : Int32)), (.ref y), (.int (Int32.ofNat off)), (.ref x)]))
  refine callSt X278 hx hZ hown (wd hw 200 rfl) (wd hw 201 rfl) (wd hw 185 rfl) (wd hw 202 rfl) (by decide) e278 (argsL := [(.ref x), (.int (Int32.ofNat off)), (.ref y), (.int (2 : Int32))]) (rest := []) (rm_c l Z a0 hw [] zc fm x t kb cs off y ty ky ds 2 h0 n0 O0 S_COMPACT_STRINGS hzc S_SIOOBE_FORMATTER hfm T_x T_y Hx lx Hy ly hin hch (by decide)) (W := 0) (by decide) (by decide) (by decide) (by decide) (by rw [hml]; rfl) (lenOf pd_30 rfl) rfl (Nat.le_of_eq rfl) (hb hby d_m9_24) ?_
  intro v279 T279 L279 h279 X279 e279 q279
  obtain ⟨rv, n279, k279⟩ := q279
  replace rv : v279 = some (.int (1 : Int32)) := rv
  subst rv
  have e279 := e279.trans k279
  have N279 := Fr.app N278 n279
  show Run p e below _ (T279.setTop (mkF m 27 #[.val (.ref x), .val (.int (Int32.ofNat off)), .val (.ref y)] [(.int (1 : Int32))]))
  refine go (fun _ => XS.ifNo X279.here hx rfl (hb hby d_m9_27) rfl ((if0 _ _).trans (feq (by decide : ¬ ((1 : Int32) = 0))).1)) ?_
  show Run p e below _ (T279.setTop (mkF m 30 #[.val (.ref x), .val (.int (Int32.ofNat off)), .val (.ref y)] []))
  refine go (fun _ => XS.aloadN X279.here hx rfl (hb hby d_m9_30) rfl rfl) ?_
  show Run p e below _ (T279.setTop (mkF m 31 #[.val (.ref x), .val (.int (Int32.ofNat off)), .val (.ref y)] [(.ref x)]))
  refine go (fun _ => XS.iloadN X279.here hx rfl (hb hby d_m9_31) rfl) ?_
  show Run p e below _ (T279.setTop (mkF m 32 #[.val (.ref x), .val (.int (Int32.ofNat off)), .val (.ref y)] [(.int (Int32.ofNat off)), (.ref x)]))
  refine go (fun _ => XS.aloadN X279.here hx rfl (hb hby d_m9_32) rfl rfl) ?_
  show Run p e below _ (T279.setTop (mkF m 33 #[.val (.ref x), .val (.int (Int32.ofNat off)), .val (.ref y)] [(.ref y), (.int (Int32.ofNat off)), (.ref x)]))
  refine go (fun _ => XS.iconst X279.here hx rfl (hb hby d_m9_33)) ?_
  show Run p e below _ (T279.setTop (mkF m 34 #[.val (.ref x), .val (.int (Int32.ofNat off)), .val (.ref y)] [(.int (3 : Int32)), (.ref y), (.int (Int32.ofNat off)), (.ref x)]))
  refine callSt X279 hx hZ hown (wd hw 200 rfl) (wd hw 201 rfl) (wd hw 185 rfl) (wd hw 202 rfl) (by decide) e279 (argsL := [(.ref x), (.int (Int32.ofNat off)), (.ref y), (.int (3 : Int32))]) (rest := []) (rm_c l Z a0 hw [] zc fm x t kb cs off y ty ky ds 3 h0 n0 O0 S_COMPACT_STRINGS hzc S_SIOOBE_FORMATTER hfm T_x T_y Hx lx Hy ly hin hch (by decide)) (W := 0) (by decide) (by decide) (by decide) (by decide) (by rw [hml]; rfl) (lenOf pd_30 rfl) rfl (Nat.le_of_eq rfl) (hb hby d_m9_34) ?_
  intro v280 T280 L280 h280 X280 e280 q280
  obtain ⟨rv, n280, k280⟩ := q280
  replace rv : v280 = some (.int (1 : Int32)) := rv
  subst rv
  have e280 := e280.trans k280
  have N280 := Fr.app N279 n280
  show Run p e below _ (T280.setTop (mkF m 37 #[.val (.ref x), .val (.int (Int32.ofNat off)), .val (.ref y)] [(.int (1 : Int32))]))
  refine go (fun _ => XS.ifNo X280.here hx rfl (hb hby d_m9_37) rfl ((if0 _ _).trans (feq (by decide : ¬ ((1 : Int32) = 0))).1)) ?_
  show Run p e below _ (T280.setTop (mkF m 40 #[.val (.ref x), .val (.int (Int32.ofNat off)), .val (.ref y)] []))
  refine go (fun _ => XS.aloadN X280.here hx rfl (hb hby d_m9_40) rfl rfl) ?_
  show Run p e below _ (T280.setTop (mkF m 41 #[.val (.ref x), .val (.int (Int32.ofNat off)), .val (.ref y)] [(.ref x)]))
  refine go (fun _ => XS.iloadN X280.here hx rfl (hb hby d_m9_41) rfl) ?_
  show Run p e below _ (T280.setTop (mkF m 42 #[.val (.ref x), .val (.int (Int32.ofNat off)), .val (.ref y)] [(.int (Int32.ofNat off)), (.ref x)]))
  refine go (fun _ => XS.aloadN X280.here hx rfl (hb hby d_m9_42) rfl rfl) ?_
  show Run p e below _ (T280.setTop (mkF m 43 #[.val (.ref x), .val (.int (Int32.ofNat off)), .val (.ref y)] [(.ref y), (.int (Int32.ofNat off)), (.ref x)]))
  refine go (fun _ => XS.iconst X280.here hx rfl (hb hby d_m9_43)) ?_
  show Run p e below _ (T280.setTop (mkF m 44 #[.val (.ref x), .val (.int (Int32.ofNat off)), .val (.ref y)] [(.int (4 : Int32)), (.ref y), (.int (Int32.ofNat off)), (.ref x)]))
  refine callSt X280 hx hZ hown (wd hw 200 rfl) (wd hw 201 rfl) (wd hw 185 rfl) (wd hw 202 rfl) (by decide) e280 (argsL := [(.ref x), (.int (Int32.ofNat off)), (.ref y), (.int (4 : Int32))]) (rest := []) (rm_c l Z a0 hw [] zc fm x t kb cs off y ty ky ds 4 h0 n0 O0 S_COMPACT_STRINGS hzc S_SIOOBE_FORMATTER hfm T_x T_y Hx lx Hy ly hin hch (by decide)) (W := 0) (by decide) (by decide) (by decide) (by decide) (by rw [hml]; rfl) (lenOf pd_30 rfl) rfl (Nat.le_of_eq rfl) (hb hby d_m9_44) ?_
  intro v281 T281 L281 h281 X281 e281 q281
  obtain ⟨rv, n281, k281⟩ := q281
  replace rv : v281 = some (.int (1 : Int32)) := rv
  subst rv
  have e281 := e281.trans k281
  have N281 := Fr.app N280 n281
  show Run p e below _ (T281.setTop (mkF m 47 #[.val (.ref x), .val (.int (Int32.ofNat off)), .val (.ref y)] [(.int (1 : Int32))]))
  refine go (fun _ => XS.ifNo X281.here hx rfl (hb hby d_m9_47) rfl ((if0 _ _).trans (feq (by decide : ¬ ((1 : Int32) = 0))).1)) ?_
  show Run p e below _ (T281.setTop (mkF m 50 #[.val (.ref x), .val (.int (Int32.ofNat off)), .val (.ref y)] []))
  refine go (fun _ => XS.aloadN X281.here hx rfl (hb hby d_m9_50) rfl rfl) ?_
  show Run p e below _ (T281.setTop (mkF m 51 #[.val (.ref x), .val (.int (Int32.ofNat off)), .val (.ref y)] [(.ref x)]))
  refine go (fun _ => XS.iloadN X281.here hx rfl (hb hby d_m9_51) rfl) ?_
  show Run p e below _ (T281.setTop (mkF m 52 #[.val (.ref x), .val (.int (Int32.ofNat off)), .val (.ref y)] [(.int (Int32.ofNat off)), (.ref x)]))
  refine go (fun _ => XS.aloadN X281.here hx rfl (hb hby d_m9_52) rfl rfl) ?_
  show Run p e below _ (T281.setTop (mkF m 53 #[.val (.ref x), .val (.int (Int32.ofNat off)), .val (.ref y)] [(.ref y), (.int (Int32.ofNat off)), (.ref x)]))
  refine go (fun _ => XS.iconst X281.here hx rfl (hb hby d_m9_53)) ?_
  show Run p e below _ (T281.setTop (mkF m 54 #[.val (.ref x), .val (.int (Int32.ofNat off)), .val (.ref y)] [(.int (5 : Int32)), (.ref y), (.int (Int32.ofNat off)), (.ref x)]))
  refine callSt X281 hx hZ hown (wd hw 200 rfl) (wd hw 201 rfl) (wd hw 185 rfl) (wd hw 202 rfl) (by decide) e281 (argsL := [(.ref x), (.int (Int32.ofNat off)), (.ref y), (.int (5 : Int32))]) (rest := []) (rm_c l Z a0 hw [] zc fm x t kb cs off y ty ky ds 5 h0 n0 O0 S_COMPACT_STRINGS hzc S_SIOOBE_FORMATTER hfm T_x T_y Hx lx Hy ly hin hch (by decide)) (W := 0) (by decide) (by decide) (by decide) (by decide) (by rw [hml]; rfl) (lenOf pd_30 rfl) rfl (Nat.le_of_eq rfl) (hb hby d_m9_54) ?_
  intro v282 T282 L282 h282 X282 e282 q282
  obtain ⟨rv, n282, k282⟩ := q282
  replace rv : v282 = some (.int (1 : Int32)) := rv
  subst rv
  have e282 := e282.trans k282
  have N282 := Fr.app N281 n282
  show Run p e below _ (T282.setTop (mkF m 57 #[.val (.ref x), .val (.int (Int32.ofNat off)), .val (.ref y)] [(.int (1 : Int32))]))
  refine go (fun _ => XS.ifNo X282.here hx rfl (hb hby d_m9_57) rfl ((if0 _ _).trans (feq (by decide : ¬ ((1 : Int32) = 0))).1)) ?_
  show Run p e below _ (T282.setTop (mkF m 60 #[.val (.ref x), .val (.int (Int32.ofNat off)), .val (.ref y)] []))
  refine go (fun _ => XS.aloadN X282.here hx rfl (hb hby d_m9_60) rfl rfl) ?_
  show Run p e below _ (T282.setTop (mkF m 61 #[.val (.ref x), .val (.int (Int32.ofNat off)), .val (.ref y)] [(.ref x)]))
  refine go (fun _ => XS.iloadN X282.here hx rfl (hb hby d_m9_61) rfl) ?_
  show Run p e below _ (T282.setTop (mkF m 62 #[.val (.ref x), .val (.int (Int32.ofNat off)), .val (.ref y)] [(.int (Int32.ofNat off)), (.ref x)]))
  refine go (fun _ => XS.aloadN X282.here hx rfl (hb hby d_m9_62) rfl rfl) ?_
  show Run p e below _ (T282.setTop (mkF m 63 #[.val (.ref x), .val (.int (Int32.ofNat off)), .val (.ref y)] [(.ref y), (.int (Int32.ofNat off)), (.ref x)]))
  refine go (fun _ => XS.bipush X282.here hx rfl (hb hby d_m9_63)) ?_
  show Run p e below _ (T282.setTop (mkF m 65 #[.val (.ref x), .val (.int (Int32.ofNat off)), .val (.ref y)] [(.int (6 : Int32)), (.ref y), (.int (Int32.ofNat off)), (.ref x)]))
  refine callSt X282 hx hZ hown (wd hw 200 rfl) (wd hw 201 rfl) (wd hw 185 rfl) (wd hw 202 rfl) (by decide) e282 (argsL := [(.ref x), (.int (Int32.ofNat off)), (.ref y), (.int (6 : Int32))]) (rest := []) (rm_c l Z a0 hw [] zc fm x t kb cs off y ty ky ds 6 h0 n0 O0 S_COMPACT_STRINGS hzc S_SIOOBE_FORMATTER hfm T_x T_y Hx lx Hy ly hin hch (by decide)) (W := 0) (by decide) (by decide) (by decide) (by decide) (by rw [hml]; rfl) (lenOf pd_30 rfl) rfl (Nat.le_of_eq rfl) (hb hby d_m9_65) ?_
  intro v283 T283 L283 h283 X283 e283 q283
  obtain ⟨rv, n283, k283⟩ := q283
  replace rv : v283 = some (.int (1 : Int32)) := rv
  subst rv
  have e283 := e283.trans k283
  have N283 := Fr.app N282 n283
  show Run p e below _ (T283.setTop (mkF m 68 #[.val (.ref x), .val (.int (Int32.ofNat off)), .val (.ref y)] [(.int (1 : Int32))]))
  refine go (fun _ => XS.ifNo X283.here hx rfl (hb hby d_m9_68) rfl ((if0 _ _).trans (feq (by decide : ¬ ((1 : Int32) = 0))).1)) ?_
  show Run p e below _ (T283.setTop (mkF m 71 #[.val (.ref x), .val (.int (Int32.ofNat off)), .val (.ref y)] []))
  refine go (fun _ => XS.aloadN X283.here hx rfl (hb hby d_m9_71) rfl rfl) ?_
  show Run p e below _ (T283.setTop (mkF m 72 #[.val (.ref x), .val (.int (Int32.ofNat off)), .val (.ref y)] [(.ref x)]))
  refine go (fun _ => XS.iloadN X283.here hx rfl (hb hby d_m9_72) rfl) ?_
  show Run p e below _ (T283.setTop (mkF m 73 #[.val (.ref x), .val (.int (Int32.ofNat off)), .val (.ref y)] [(.int (Int32.ofNat off)), (.ref x)]))
  refine go (fun _ => XS.aloadN X283.here hx rfl (hb hby d_m9_73) rfl rfl) ?_
  show Run p e below _ (T283.setTop (mkF m 74 #[.val (.ref x), .val (.int (Int32.ofNat off)), .val (.ref y)] [(.ref y), (.int (Int32.ofNat off)), (.ref x)]))
  refine go (fun _ => XS.bipush X283.here hx rfl (hb hby d_m9_74)) ?_
  show Run p e below _ (T283.setTop (mkF m 76 #[.val (.ref x), .val (.int (Int32.ofNat off)), .val (.ref y)] [(.int (7 : Int32)), (.ref y), (.int (Int32.ofNat off)), (.ref x)]))
  refine callSt X283 hx hZ hown (wd hw 200 rfl) (wd hw 201 rfl) (wd hw 185 rfl) (wd hw 202 rfl) (by decide) e283 (argsL := [(.ref x), (.int (Int32.ofNat off)), (.ref y), (.int (7 : Int32))]) (rest := []) (rm_c l Z a0 hw [] zc fm x t kb cs off y ty ky ds 7 h0 n0 O0 S_COMPACT_STRINGS hzc S_SIOOBE_FORMATTER hfm T_x T_y Hx lx Hy ly hin hch (by decide)) (W := 0) (by decide) (by decide) (by decide) (by decide) (by rw [hml]; rfl) (lenOf pd_30 rfl) rfl (Nat.le_of_eq rfl) (hb hby d_m9_76) ?_
  intro v284 T284 L284 h284 X284 e284 q284
  obtain ⟨rv, n284, k284⟩ := q284
  replace rv : v284 = some (.int (1 : Int32)) := rv
  subst rv
  have e284 := e284.trans k284
  have N284 := Fr.app N283 n284
  show Run p e below _ (T284.setTop (mkF m 79 #[.val (.ref x), .val (.int (Int32.ofNat off)), .val (.ref y)] [(.int (1 : Int32))]))
  refine go (fun _ => XS.ifNo X284.here hx rfl (hb hby d_m9_79) rfl ((if0 _ _).trans (feq (by decide : ¬ ((1 : Int32) = 0))).1)) ?_
  show Run p e below _ (T284.setTop (mkF m 82 #[.val (.ref x), .val (.int (Int32.ofNat off)), .val (.ref y)] []))
  refine go (fun _ => XS.aloadN X284.here hx rfl (hb hby d_m9_82) rfl rfl) ?_
  show Run p e below _ (T284.setTop (mkF m 83 #[.val (.ref x), .val (.int (Int32.ofNat off)), .val (.ref y)] [(.ref x)]))
  refine go (fun _ => XS.iloadN X284.here hx rfl (hb hby d_m9_83) rfl) ?_
  show Run p e below _ (T284.setTop (mkF m 84 #[.val (.ref x), .val (.int (Int32.ofNat off)), .val (.ref y)] [(.int (Int32.ofNat off)), (.ref x)]))
  refine go (fun _ => XS.aloadN X284.here hx rfl (hb hby d_m9_84) rfl rfl) ?_
  show Run p e below _ (T284.setTop (mkF m 85 #[.val (.ref x), .val (.int (Int32.ofNat off)), .val (.ref y)] [(.ref y), (.int (Int32.ofNat off)), (.ref x)]))
  refine go (fun _ => XS.bipush X284.here hx rfl (hb hby d_m9_85)) ?_
  show Run p e below _ (T284.setTop (mkF m 87 #[.val (.ref x), .val (.int (Int32.ofNat off)), .val (.ref y)] [(.int (8 : Int32)), (.ref y), (.int (Int32.ofNat off)), (.ref x)]))
  refine callSt X284 hx hZ hown (wd hw 200 rfl) (wd hw 201 rfl) (wd hw 185 rfl) (wd hw 202 rfl) (by decide) e284 (argsL := [(.ref x), (.int (Int32.ofNat off)), (.ref y), (.int (8 : Int32))]) (rest := []) (rm_c l Z a0 hw [] zc fm x t kb cs off y ty ky ds 8 h0 n0 O0 S_COMPACT_STRINGS hzc S_SIOOBE_FORMATTER hfm T_x T_y Hx lx Hy ly hin hch (by decide)) (W := 0) (by decide) (by decide) (by decide) (by decide) (by rw [hml]; rfl) (lenOf pd_30 rfl) rfl (Nat.le_of_eq rfl) (hb hby d_m9_87) ?_
  intro v285 T285 L285 h285 X285 e285 q285
  obtain ⟨rv, n285, k285⟩ := q285
  replace rv : v285 = some (.int (1 : Int32)) := rv
  subst rv
  have e285 := e285.trans k285
  have N285 := Fr.app N284 n285
  show Run p e below _ (T285.setTop (mkF m 90 #[.val (.ref x), .val (.int (Int32.ofNat off)), .val (.ref y)] [(.int (1 : Int32))]))
  refine go (fun _ => XS.ifNo X285.here hx rfl (hb hby d_m9_90) rfl ((if0 _ _).trans (feq (by decide : ¬ ((1 : Int32) = 0))).1)) ?_
  show Run p e below _ (T285.setTop (mkF m 93 #[.val (.ref x), .val (.int (Int32.ofNat off)), .val (.ref y)] []))
  refine go (fun _ => XS.aloadN X285.here hx rfl (hb hby d_m9_93) rfl rfl) ?_
  show Run p e below _ (T285.setTop (mkF m 94 #[.val (.ref x), .val (.int (Int32.ofNat off)), .val (.ref y)] [(.ref x)]))
  refine go (fun _ => XS.iloadN X285.here hx rfl (hb hby d_m9_94) rfl) ?_
  show Run p e below _ (T285.setTop (mkF m 95 #[.val (.ref x), .val (.int (Int32.ofNat off)), .val (.ref y)] [(.int (Int32.ofNat off)), (.ref x)]))
  refine go (fun _ => XS.aloadN X285.here hx rfl (hb hby d_m9_95) rfl rfl) ?_
  show Run p e below _ (T285.setTop (mkF m 96 #[.val (.ref x), .val (.int (Int32.ofNat off)), .val (.ref y)] [(.ref y), (.int (Int32.ofNat off)), (.ref x)]))
  refine go (fun _ => XS.bipush X285.here hx rfl (hb hby d_m9_96)) ?_
  show Run p e below _ (T285.setTop (mkF m 98 #[.val (.ref x), .val (.int (Int32.ofNat off)), .val (.ref y)] [(.int (9 : Int32)), (.ref y), (.int (Int32.ofNat off)), (.ref x)]))
  refine callSt X285 hx hZ hown (wd hw 200 rfl) (wd hw 201 rfl) (wd hw 185 rfl) (wd hw 202 rfl) (by decide) e285 (argsL := [(.ref x), (.int (Int32.ofNat off)), (.ref y), (.int (9 : Int32))]) (rest := []) (rm_c l Z a0 hw [] zc fm x t kb cs off y ty ky ds 9 h0 n0 O0 S_COMPACT_STRINGS hzc S_SIOOBE_FORMATTER hfm T_x T_y Hx lx Hy ly hin hch (by decide)) (W := 0) (by decide) (by decide) (by decide) (by decide) (by rw [hml]; rfl) (lenOf pd_30 rfl) rfl (Nat.le_of_eq rfl) (hb hby d_m9_98) ?_
  intro v286 T286 L286 h286 X286 e286 q286
  obtain ⟨rv, n286, k286⟩ := q286
  replace rv : v286 = some (.int (1 : Int32)) := rv
  subst rv
  have e286 := e286.trans k286
  have N286 := Fr.app N285 n286
  show Run p e below _ (T286.setTop (mkF m 101 #[.val (.ref x), .val (.int (Int32.ofNat off)), .val (.ref y)] [(.int (1 : Int32))]))
  refine go (fun _ => XS.ifNo X286.here hx rfl (hb hby d_m9_101) rfl ((if0 _ _).trans (feq (by decide : ¬ ((1 : Int32) = 0))).1)) ?_
  show Run p e below _ (T286.setTop (mkF m 104 #[.val (.ref x), .val (.int (Int32.ofNat off)), .val (.ref y)] []))
  refine go (fun _ => XS.aloadN X286.here hx rfl (hb hby d_m9_104) rfl rfl) ?_
  show Run p e below _ (T286.setTop (mkF m 105 #[.val (.ref x), .val (.int (Int32.ofNat off)), .val (.ref y)] [(.ref x)]))
  refine go (fun _ => XS.iloadN X286.here hx rfl (hb hby d_m9_105) rfl) ?_
  show Run p e below _ (T286.setTop (mkF m 106 #[.val (.ref x), .val (.int (Int32.ofNat off)), .val (.ref y)] [(.int (Int32.ofNat off)), (.ref x)]))
  refine go (fun _ => XS.aloadN X286.here hx rfl (hb hby d_m9_106) rfl rfl) ?_
  show Run p e below _ (T286.setTop (mkF m 107 #[.val (.ref x), .val (.int (Int32.ofNat off)), .val (.ref y)] [(.ref y), (.int (Int32.ofNat off)), (.ref x)]))
  refine go (fun _ => XS.bipush X286.here hx rfl (hb hby d_m9_107)) ?_
  show Run p e below _ (T286.setTop (mkF m 109 #[.val (.ref x), .val (.int (Int32.ofNat off)), .val (.ref y)] [(.int (10 : Int32)), (.ref y), (.int (Int32.ofNat off)), (.ref x)]))
  refine callSt X286 hx hZ hown (wd hw 200 rfl) (wd hw 201 rfl) (wd hw 185 rfl) (wd hw 202 rfl) (by decide) e286 (argsL := [(.ref x), (.int (Int32.ofNat off)), (.ref y), (.int (10 : Int32))]) (rest := []) (rm_c l Z a0 hw [] zc fm x t kb cs off y ty ky ds 10 h0 n0 O0 S_COMPACT_STRINGS hzc S_SIOOBE_FORMATTER hfm T_x T_y Hx lx Hy ly hin hch (by decide)) (W := 0) (by decide) (by decide) (by decide) (by decide) (by rw [hml]; rfl) (lenOf pd_30 rfl) rfl (Nat.le_of_eq rfl) (hb hby d_m9_109) ?_
  intro v287 T287 L287 h287 X287 e287 q287
  obtain ⟨rv, n287, k287⟩ := q287
  replace rv : v287 = some (.int (1 : Int32)) := rv
  subst rv
  have e287 := e287.trans k287
  have N287 := Fr.app N286 n287
  show Run p e below _ (T287.setTop (mkF m 112 #[.val (.ref x), .val (.int (Int32.ofNat off)), .val (.ref y)] [(.int (1 : Int32))]))
  refine go (fun _ => XS.ifNo X287.here hx rfl (hb hby d_m9_112) rfl ((if0 _ _).trans (feq (by decide : ¬ ((1 : Int32) = 0))).1)) ?_
  show Run p e below _ (T287.setTop (mkF m 115 #[.val (.ref x), .val (.int (Int32.ofNat off)), .val (.ref y)] []))
  refine go (fun _ => XS.aloadN X287.here hx rfl (hb hby d_m9_115) rfl rfl) ?_
  show Run p e below _ (T287.setTop (mkF m 116 #[.val (.ref x), .val (.int (Int32.ofNat off)), .val (.ref y)] [(.ref x)]))
  refine go (fun _ => XS.iloadN X287.here hx rfl (hb hby d_m9_116) rfl) ?_
  show Run p e below _ (T287.setTop (mkF m 117 #[.val (.ref x), .val (.int (Int32.ofNat off)), .val (.ref y)] [(.int (Int32.ofNat off)), (.ref x)]))
  refine go (fun _ => XS.aloadN X287.here hx rfl (hb hby d_m9_117) rfl rfl) ?_
  show Run p e below _ (T287.setTop (mkF m 118 #[.val (.ref x), .val (.int (Int32.ofNat off)), .val (.ref y)] [(.ref y), (.int (Int32.ofNat off)), (.ref x)]))
  refine go (fun _ => XS.bipush X287.here hx rfl (hb hby d_m9_118)) ?_
  show Run p e below _ (T287.setTop (mkF m 120 #[.val (.ref x), .val (.int (Int32.ofNat off)), .val (.ref y)] [(.int (11 : Int32)), (.ref y), (.int (Int32.ofNat off)), (.ref x)]))
  refine callSt X287 hx hZ hown (wd hw 200 rfl) (wd hw 201 rfl) (wd hw 185 rfl) (wd hw 202 rfl) (by decide) e287 (argsL := [(.ref x), (.int (Int32.ofNat off)), (.ref y), (.int (11 : Int32))]) (rest := []) (rm_c l Z a0 hw [] zc fm x t kb cs off y ty ky ds 11 h0 n0 O0 S_COMPACT_STRINGS hzc S_SIOOBE_FORMATTER hfm T_x T_y Hx lx Hy ly hin hch (by decide)) (W := 0) (by decide) (by decide) (by decide) (by decide) (by rw [hml]; rfl) (lenOf pd_30 rfl) rfl (Nat.le_of_eq rfl) (hb hby d_m9_120) ?_
  intro v288 T288 L288 h288 X288 e288 q288
  obtain ⟨rv, n288, k288⟩ := q288
  replace rv : v288 = some (.int (1 : Int32)) := rv
  subst rv
  have e288 := e288.trans k288
  have N288 := Fr.app N287 n288
  show Run p e below _ (T288.setTop (mkF m 123 #[.val (.ref x), .val (.int (Int32.ofNat off)), .val (.ref y)] [(.int (1 : Int32))]))
  refine go (fun _ => XS.ifNo X288.here hx rfl (hb hby d_m9_123) rfl ((if0 _ _).trans (feq (by decide : ¬ ((1 : Int32) = 0))).1)) ?_
  show Run p e below _ (T288.setTop (mkF m 126 #[.val (.ref x), .val (.int (Int32.ofNat off)), .val (.ref y)] []))
  refine go (fun _ => XS.aloadN X288.here hx rfl (hb hby d_m9_126) rfl rfl) ?_
  show Run p e below _ (T288.setTop (mkF m 127 #[.val (.ref x), .val (.int (Int32.ofNat off)), .val (.ref y)] [(.ref x)]))
  refine go (fun _ => XS.iloadN X288.here hx rfl (hb hby d_m9_127) rfl) ?_
  show Run p e below _ (T288.setTop (mkF m 128 #[.val (.ref x), .val (.int (Int32.ofNat off)), .val (.ref y)] [(.int (Int32.ofNat off)), (.ref x)]))
  refine go (fun _ => XS.aloadN X288.here hx rfl (hb hby d_m9_128) rfl rfl) ?_
  show Run p e below _ (T288.setTop (mkF m 129 #[.val (.ref x), .val (.int (Int32.ofNat off)), .val (.ref y)] [(.ref y), (.int (Int32.ofNat off)), (.ref x)]))
  refine go (fun _ => XS.bipush X288.here hx rfl (hb hby d_m9_129)) ?_
  show Run p e below _ (T288.setTop (mkF m 131 #[.val (.ref x), .val (.int (Int32.ofNat off)), .val (.ref y)] [(.int (12 : Int32)), (.ref y), (.int (Int32.ofNat off)), (.ref x)]))
  refine callSt X288 hx hZ hown (wd hw 200 rfl) (wd hw 201 rfl) (wd hw 185 rfl) (wd hw 202 rfl) (by decide) e288 (argsL := [(.ref x), (.int (Int32.ofNat off)), (.ref y), (.int (12 : Int32))]) (rest := []) (rm_c l Z a0 hw [] zc fm x t kb cs off y ty ky ds 12 h0 n0 O0 S_COMPACT_STRINGS hzc S_SIOOBE_FORMATTER hfm T_x T_y Hx lx Hy ly hin hch (by decide)) (W := 0) (by decide) (by decide) (by decide) (by decide) (by rw [hml]; rfl) (lenOf pd_30 rfl) rfl (Nat.le_of_eq rfl) (hb hby d_m9_131) ?_
  intro v289 T289 L289 h289 X289 e289 q289
  obtain ⟨rv, n289, k289⟩ := q289
  replace rv : v289 = some (.int (1 : Int32)) := rv
  subst rv
  have e289 := e289.trans k289
  have N289 := Fr.app N288 n289
  show Run p e below _ (T289.setTop (mkF m 134 #[.val (.ref x), .val (.int (Int32.ofNat off)), .val (.ref y)] [(.int (1 : Int32))]))
  refine go (fun _ => XS.ifNo X289.here hx rfl (hb hby d_m9_134) rfl ((if0 _ _).trans (feq (by decide : ¬ ((1 : Int32) = 0))).1)) ?_
  show Run p e below _ (T289.setTop (mkF m 137 #[.val (.ref x), .val (.int (Int32.ofNat off)), .val (.ref y)] []))
  refine go (fun _ => XS.aloadN X289.here hx rfl (hb hby d_m9_137) rfl rfl) ?_
  show Run p e below _ (T289.setTop (mkF m 138 #[.val (.ref x), .val (.int (Int32.ofNat off)), .val (.ref y)] [(.ref x)]))
  refine go (fun _ => XS.iloadN X289.here hx rfl (hb hby d_m9_138) rfl) ?_
  show Run p e below _ (T289.setTop (mkF m 139 #[.val (.ref x), .val (.int (Int32.ofNat off)), .val (.ref y)] [(.int (Int32.ofNat off)), (.ref x)]))
  refine go (fun _ => XS.aloadN X289.here hx rfl (hb hby d_m9_139) rfl rfl) ?_
  show Run p e below _ (T289.setTop (mkF m 140 #[.val (.ref x), .val (.int (Int32.ofNat off)), .val (.ref y)] [(.ref y), (.int (Int32.ofNat off)), (.ref x)]))
  refine go (fun _ => XS.bipush X289.here hx rfl (hb hby d_m9_140)) ?_
  show Run p e below _ (T289.setTop (mkF m 142 #[.val (.ref x), .val (.int (Int32.ofNat off)), .val (.ref y)] [(.int (13 : Int32)), (.ref y), (.int (Int32.ofNat off)), (.ref x)]))
  refine callSt X289 hx hZ hown (wd hw 200 rfl) (wd hw 201 rfl) (wd hw 185 rfl) (wd hw 202 rfl) (by decide) e289 (argsL := [(.ref x), (.int (Int32.ofNat off)), (.ref y), (.int (13 : Int32))]) (rest := []) (rm_c l Z a0 hw [] zc fm x t kb cs off y ty ky ds 13 h0 n0 O0 S_COMPACT_STRINGS hzc S_SIOOBE_FORMATTER hfm T_x T_y Hx lx Hy ly hin hch (by decide)) (W := 0) (by decide) (by decide) (by decide) (by decide) (by rw [hml]; rfl) (lenOf pd_30 rfl) rfl (Nat.le_of_eq rfl) (hb hby d_m9_142) ?_
  intro v290 T290 L290 h290 X290 e290 q290
  obtain ⟨rv, n290, k290⟩ := q290
  replace rv : v290 = some (.int (1 : Int32)) := rv
  subst rv
  have e290 := e290.trans k290
  have N290 := Fr.app N289 n290
  show Run p e below _ (T290.setTop (mkF m 145 #[.val (.ref x), .val (.int (Int32.ofNat off)), .val (.ref y)] [(.int (1 : Int32))]))
  refine go (fun _ => XS.ifNo X290.here hx rfl (hb hby d_m9_145) rfl ((if0 _ _).trans (feq (by decide : ¬ ((1 : Int32) = 0))).1)) ?_
  show Run p e below _ (T290.setTop (mkF m 148 #[.val (.ref x), .val (.int (Int32.ofNat off)), .val (.ref y)] []))
  refine go (fun _ => XS.aloadN X290.here hx rfl (hb hby d_m9_148) rfl rfl) ?_
  show Run p e below _ (T290.setTop (mkF m 149 #[.val (.ref x), .val (.int (Int32.ofNat off)), .val (.ref y)] [(.ref x)]))
  refine go (fun _ => XS.iloadN X290.here hx rfl (hb hby d_m9_149) rfl) ?_
  show Run p e below _ (T290.setTop (mkF m 150 #[.val (.ref x), .val (.int (Int32.ofNat off)), .val (.ref y)] [(.int (Int32.ofNat off)), (.ref x)]))
  refine go (fun _ => XS.aloadN X290.here hx rfl (hb hby d_m9_150) rfl rfl) ?_
  show Run p e below _ (T290.setTop (mkF m 151 #[.val (.ref x), .val (.int (Int32.ofNat off)), .val (.ref y)] [(.ref y), (.int (Int32.ofNat off)), (.ref x)]))
  refine go (fun _ => XS.bipush X290.here hx rfl (hb hby d_m9_151)) ?_
  show Run p e below _ (T290.setTop (mkF m 153 #[.val (.ref x), .val (.int (Int32.ofNat off)), .val (.ref y)] [(.int (14 : Int32)), (.ref y), (.int (Int32.ofNat off)), (.ref x)]))
  refine callSt X290 hx hZ hown (wd hw 200 rfl) (wd hw 201 rfl) (wd hw 185 rfl) (wd hw 202 rfl) (by decide) e290 (argsL := [(.ref x), (.int (Int32.ofNat off)), (.ref y), (.int (14 : Int32))]) (rest := []) (rm_c l Z a0 hw [] zc fm x t kb cs off y ty ky ds 14 h0 n0 O0 S_COMPACT_STRINGS hzc S_SIOOBE_FORMATTER hfm T_x T_y Hx lx Hy ly hin hch (by decide)) (W := 0) (by decide) (by decide) (by decide) (by decide) (by rw [hml]; rfl) (lenOf pd_30 rfl) rfl (Nat.le_of_eq rfl) (hb hby d_m9_153) ?_
  intro v291 T291 L291 h291 X291 e291 q291
  obtain ⟨rv, n291, k291⟩ := q291
  replace rv : v291 = some (.int (1 : Int32)) := rv
  subst rv
  have e291 := e291.trans k291
  have N291 := Fr.app N290 n291
  show Run p e below _ (T291.setTop (mkF m 156 #[.val (.ref x), .val (.int (Int32.ofNat off)), .val (.ref y)] [(.int (1 : Int32))]))
  refine go (fun _ => XS.ifNo X291.here hx rfl (hb hby d_m9_156) rfl ((if0 _ _).trans (feq (by decide : ¬ ((1 : Int32) = 0))).1)) ?_
  show Run p e below _ (T291.setTop (mkF m 159 #[.val (.ref x), .val (.int (Int32.ofNat off)), .val (.ref y)] []))
  refine go (fun _ => XS.aloadN X291.here hx rfl (hb hby d_m9_159) rfl rfl) ?_
  show Run p e below _ (T291.setTop (mkF m 160 #[.val (.ref x), .val (.int (Int32.ofNat off)), .val (.ref y)] [(.ref x)]))
  refine go (fun _ => XS.iloadN X291.here hx rfl (hb hby d_m9_160) rfl) ?_
  show Run p e below _ (T291.setTop (mkF m 161 #[.val (.ref x), .val (.int (Int32.ofNat off)), .val (.ref y)] [(.int (Int32.ofNat off)), (.ref x)]))
  refine go (fun _ => XS.aloadN X291.here hx rfl (hb hby d_m9_161) rfl rfl) ?_
  show Run p e below _ (T291.setTop (mkF m 162 #[.val (.ref x), .val (.int (Int32.ofNat off)), .val (.ref y)] [(.ref y), (.int (Int32.ofNat off)), (.ref x)]))
  refine go (fun _ => XS.bipush X291.here hx rfl (hb hby d_m9_162)) ?_
  show Run p e below _ (T291.setTop (mkF m 164 #[.val (.ref x), .val (.int (Int32.ofNat off)), .val (.ref y)] [(.int (15 : Int32)), (.ref y), (.int (Int32.ofNat off)), (.ref x)]))
  refine callSt X291 hx hZ hown (wd hw 200 rfl) (wd hw 201 rfl) (wd hw 185 rfl) (wd hw 202 rfl) (by decide) e291 (argsL := [(.ref x), (.int (Int32.ofNat off)), (.ref y), (.int (15 : Int32))]) (rest := []) (rm_c l Z a0 hw [] zc fm x t kb cs off y ty ky ds 15 h0 n0 O0 S_COMPACT_STRINGS hzc S_SIOOBE_FORMATTER hfm T_x T_y Hx lx Hy ly hin hch (by decide)) (W := 0) (by decide) (by decide) (by decide) (by decide) (by rw [hml]; rfl) (lenOf pd_30 rfl) rfl (Nat.le_of_eq rfl) (hb hby d_m9_164) ?_
  intro v292 T292 L292 h292 X292 e292 q292
  obtain ⟨rv, n292, k292⟩ := q292
  replace rv : v292 = some (.int (1 : Int32)) := rv
  subst rv
  have e292 := e292.trans k292
  have N292 := Fr.app N291 n292
  show Run p e below _ (T292.setTop (mkF m 167 #[.val (.ref x), .val (.int (Int32.ofNat off)), .val (.ref y)] [(.int (1 : Int32))]))
  refine go (fun _ => XS.ifNo X292.here hx rfl (hb hby d_m9_167) rfl ((if0 _ _).trans (feq (by decide : ¬ ((1 : Int32) = 0))).1)) ?_
  show Run p e below _ (T292.setTop (mkF m 170 #[.val (.ref x), .val (.int (Int32.ofNat off)), .val (.ref y)] []))
  refine go (fun _ => XS.aloadN X292.here hx rfl (hb hby d_m9_170) rfl rfl) ?_
  show Run p e below _ (T292.setTop (mkF m 171 #[.val (.ref x), .val (.int (Int32.ofNat off)), .val (.ref y)] [(.ref x)]))
  refine go (fun _ => XS.iloadN X292.here hx rfl (hb hby d_m9_171) rfl) ?_
  show Run p e below _ (T292.setTop (mkF m 172 #[.val (.ref x), .val (.int (Int32.ofNat off)), .val (.ref y)] [(.int (Int32.ofNat off)), (.ref x)]))
  refine go (fun _ => XS.aloadN X292.here hx rfl (hb hby d_m9_172) rfl rfl) ?_
  show Run p e below _ (T292.setTop (mkF m 173 #[.val (.ref x), .val (.int (Int32.ofNat off)), .val (.ref y)] [(.ref y), (.int (Int32.ofNat off)), (.ref x)]))
  refine go (fun _ => XS.bipush X292.here hx rfl (hb hby d_m9_173)) ?_
  show Run p e below _ (T292.setTop (mkF m 175 #[.val (.ref x), .val (.int (Int32.ofNat off)), .val (.ref y)] [(.int (16 : Int32)), (.ref y), (.int (Int32.ofNat off)), (.ref x)]))
  refine callSt X292 hx hZ hown (wd hw 200 rfl) (wd hw 201 rfl) (wd hw 185 rfl) (wd hw 202 rfl) (by decide) e292 (argsL := [(.ref x), (.int (Int32.ofNat off)), (.ref y), (.int (16 : Int32))]) (rest := []) (rm_c l Z a0 hw [] zc fm x t kb cs off y ty ky ds 16 h0 n0 O0 S_COMPACT_STRINGS hzc S_SIOOBE_FORMATTER hfm T_x T_y Hx lx Hy ly hin hch (by decide)) (W := 0) (by decide) (by decide) (by decide) (by decide) (by rw [hml]; rfl) (lenOf pd_30 rfl) rfl (Nat.le_of_eq rfl) (hb hby d_m9_175) ?_
  intro v293 T293 L293 h293 X293 e293 q293
  obtain ⟨rv, n293, k293⟩ := q293
  replace rv : v293 = some (.int (1 : Int32)) := rv
  subst rv
  have e293 := e293.trans k293
  have N293 := Fr.app N292 n293
  show Run p e below _ (T293.setTop (mkF m 178 #[.val (.ref x), .val (.int (Int32.ofNat off)), .val (.ref y)] [(.int (1 : Int32))]))
  refine go (fun _ => XS.ifNo X293.here hx rfl (hb hby d_m9_178) rfl ((if0 _ _).trans (feq (by decide : ¬ ((1 : Int32) = 0))).1)) ?_
  show Run p e below _ (T293.setTop (mkF m 181 #[.val (.ref x), .val (.int (Int32.ofNat off)), .val (.ref y)] []))
  refine go (fun _ => XS.aloadN X293.here hx rfl (hb hby d_m9_181) rfl rfl) ?_
  show Run p e below _ (T293.setTop (mkF m 182 #[.val (.ref x), .val (.int (Int32.ofNat off)), .val (.ref y)] [(.ref x)]))
  refine go (fun _ => XS.iloadN X293.here hx rfl (hb hby d_m9_182) rfl) ?_
  show Run p e below _ (T293.setTop (mkF m 183 #[.val (.ref x), .val (.int (Int32.ofNat off)), .val (.ref y)] [(.int (Int32.ofNat off)), (.ref x)]))
  refine go (fun _ => XS.aloadN X293.here hx rfl (hb hby d_m9_183) rfl rfl) ?_
  show Run p e below _ (T293.setTop (mkF m 184 #[.val (.ref x), .val (.int (Int32.ofNat off)), .val (.ref y)] [(.ref y), (.int (Int32.ofNat off)), (.ref x)]))
  refine go (fun _ => XS.bipush X293.here hx rfl (hb hby d_m9_184)) ?_
  show Run p e below _ (T293.setTop (mkF m 186 #[.val (.ref x), .val (.int (Int32.ofNat off)), .val (.ref y)] [(.int (17 : Int32)), (.ref y), (.int (Int32.ofNat off)), (.ref x)]))
  refine callSt X293 hx hZ hown (wd hw 200 rfl) (wd hw 201 rfl) (wd hw 185 rfl) (wd hw 202 rfl) (by decide) e293 (argsL := [(.ref x), (.int (Int32.ofNat off)), (.ref y), (.int (17 : Int32))]) (rest := []) (rm_c l Z a0 hw [] zc fm x t kb cs off y ty ky ds 17 h0 n0 O0 S_COMPACT_STRINGS hzc S_SIOOBE_FORMATTER hfm T_x T_y Hx lx Hy ly hin hch (by decide)) (W := 0) (by decide) (by decide) (by decide) (by decide) (by rw [hml]; rfl) (lenOf pd_30 rfl) rfl (Nat.le_of_eq rfl) (hb hby d_m9_186) ?_
  intro v294 T294 L294 h294 X294 e294 q294
  obtain ⟨rv, n294, k294⟩ := q294
  replace rv : v294 = some (.int (1 : Int32)) := rv
  subst rv
  have e294 := e294.trans k294
  have N294 := Fr.app N293 n294
  show Run p e below _ (T294.setTop (mkF m 189 #[.val (.ref x), .val (.int (Int32.ofNat off)), .val (.ref y)] [(.int (1 : Int32))]))
  refine go (fun _ => XS.ifNo X294.here hx rfl (hb hby d_m9_189) rfl ((if0 _ _).trans (feq (by decide : ¬ ((1 : Int32) = 0))).1)) ?_
  show Run p e below _ (T294.setTop (mkF m 192 #[.val (.ref x), .val (.int (Int32.ofNat off)), .val (.ref y)] []))
  refine go (fun _ => XS.aloadN X294.here hx rfl (hb hby d_m9_192) rfl rfl) ?_
  show Run p e below _ (T294.setTop (mkF m 193 #[.val (.ref x), .val (.int (Int32.ofNat off)), .val (.ref y)] [(.ref x)]))
  refine go (fun _ => XS.iloadN X294.here hx rfl (hb hby d_m9_193) rfl) ?_
  show Run p e below _ (T294.setTop (mkF m 194 #[.val (.ref x), .val (.int (Int32.ofNat off)), .val (.ref y)] [(.int (Int32.ofNat off)), (.ref x)]))
  refine go (fun _ => XS.aloadN X294.here hx rfl (hb hby d_m9_194) rfl rfl) ?_
  show Run p e below _ (T294.setTop (mkF m 195 #[.val (.ref x), .val (.int (Int32.ofNat off)), .val (.ref y)] [(.ref y), (.int (Int32.ofNat off)), (.ref x)]))
  refine go (fun _ => XS.bipush X294.here hx rfl (hb hby d_m9_195)) ?_
  show Run p e below _ (T294.setTop (mkF m 197 #[.val (.ref x), .val (.int (Int32.ofNat off)), .val (.ref y)] [(.int (18 : Int32)), (.ref y), (.int (Int32.ofNat off)), (.ref x)]))
  refine callSt X294 hx hZ hown (wd hw 200 rfl) (wd hw 201 rfl) (wd hw 185 rfl) (wd hw 202 rfl) (by decide) e294 (argsL := [(.ref x), (.int (Int32.ofNat off)), (.ref y), (.int (18 : Int32))]) (rest := []) (rm_c l Z a0 hw [] zc fm x t kb cs off y ty ky ds 18 h0 n0 O0 S_COMPACT_STRINGS hzc S_SIOOBE_FORMATTER hfm T_x T_y Hx lx Hy ly hin hch (by decide)) (W := 0) (by decide) (by decide) (by decide) (by decide) (by rw [hml]; rfl) (lenOf pd_30 rfl) rfl (Nat.le_of_eq rfl) (hb hby d_m9_197) ?_
  intro v295 T295 L295 h295 X295 e295 q295
  obtain ⟨rv, n295, k295⟩ := q295
  replace rv : v295 = some (.int (1 : Int32)) := rv
  subst rv
  have e295 := e295.trans k295
  have N295 := Fr.app N294 n295
  show Run p e below _ (T295.setTop (mkF m 200 #[.val (.ref x), .val (.int (Int32.ofNat off)), .val (.ref y)] [(.int (1 : Int32))]))
  refine go (fun _ => XS.ifNo X295.here hx rfl (hb hby d_m9_200) rfl ((if0 _ _).trans (feq (by decide : ¬ ((1 : Int32) = 0))).1)) ?_
  show Run p e below _ (T295.setTop (mkF m 203 #[.val (.ref x), .val (.int (Int32.ofNat off)), .val (.ref y)] []))
  refine go (fun _ => XS.aloadN X295.here hx rfl (hb hby d_m9_203) rfl rfl) ?_
  show Run p e below _ (T295.setTop (mkF m 204 #[.val (.ref x), .val (.int (Int32.ofNat off)), .val (.ref y)] [(.ref x)]))
  refine go (fun _ => XS.iloadN X295.here hx rfl (hb hby d_m9_204) rfl) ?_
  show Run p e below _ (T295.setTop (mkF m 205 #[.val (.ref x), .val (.int (Int32.ofNat off)), .val (.ref y)] [(.int (Int32.ofNat off)), (.ref x)]))
  refine go (fun _ => XS.aloadN X295.here hx rfl (hb hby d_m9_205) rfl rfl) ?_
  show Run p e below _ (T295.setTop (mkF m 206 #[.val (.ref x), .val (.int (Int32.ofNat off)), .val (.ref y)] [(.ref y), (.int (Int32.ofNat off)), (.ref x)]))
  refine go (fun _ => XS.bipush X295.here hx rfl (hb hby d_m9_206)) ?_
  show Run p e below _ (T295.setTop (mkF m 208 #[.val (.ref x), .val (.int (Int32.ofNat off)), .val (.ref y)] [(.int (19 : Int32)), (.ref y), (.int (Int32.ofNat off)), (.ref x)]))
  refine callSt X295 hx hZ hown (wd hw 200 rfl) (wd hw 201 rfl) (wd hw 185 rfl) (wd hw 202 rfl) (by decide) e295 (argsL := [(.ref x), (.int (Int32.ofNat off)), (.ref y), (.int (19 : Int32))]) (rest := []) (rm_c l Z a0 hw [] zc fm x t kb cs off y ty ky ds 19 h0 n0 O0 S_COMPACT_STRINGS hzc S_SIOOBE_FORMATTER hfm T_x T_y Hx lx Hy ly hin hch (by decide)) (W := 0) (by decide) (by decide) (by decide) (by decide) (by rw [hml]; rfl) (lenOf pd_30 rfl) rfl (Nat.le_of_eq rfl) (hb hby d_m9_208) ?_
  intro v296 T296 L296 h296 X296 e296 q296
  obtain ⟨rv, n296, k296⟩ := q296
  replace rv : v296 = some (.int (1 : Int32)) := rv
  subst rv
  have e296 := e296.trans k296
  have N296 := Fr.app N295 n296
  show Run p e below _ (T296.setTop (mkF m 211 #[.val (.ref x), .val (.int (Int32.ofNat off)), .val (.ref y)] [(.int (1 : Int32))]))
  refine go (fun _ => XS.ifNo X296.here hx rfl (hb hby d_m9_211) rfl ((if0 _ _).trans (feq (by decide : ¬ ((1 : Int32) = 0))).1)) ?_
  show Run p e below _ (T296.setTop (mkF m 214 #[.val (.ref x), .val (.int (Int32.ofNat off)), .val (.ref y)] []))
  refine go (fun _ => XS.iconst X296.here hx rfl (hb hby d_m9_214)) ?_
  show Run p e below _ (T296.setTop (mkF m 215 #[.val (.ref x), .val (.int (Int32.ofNat off)), .val (.ref y)] [(.int (1 : Int32))]))
  refine go (fun _ => XS.goto X296.here hx rfl (pc0 := 215) (pc' := 219) rfl (hb hby d_m9_215) (by decide) (by decide)) ?_
  show Run p e below _ (T296.setTop (mkF m 219 #[.val (.ref x), .val (.int (Int32.ofNat off)), .val (.ref y)] [(.int (1 : Int32))]))
  exact endN X296 hx hlk (t := .boolean) hret (by simp) (hb hby d_m9_219) (⟨rfl, N296, e296⟩) (by decide) (by decide)
theorem pd_31 : parseMethodDescriptor "(Ljava/lang/String;ILjava/lang/String;)Z" = some ⟨[(.object "java/lang/String"), .int, (.object "java/lang/String")], some .boolean⟩ := by decide +kernel
theorem pd_32 : parseMethodDescriptor "(Ljava/lang/String;II)Z" = some ⟨[(.object "java/lang/String"), .int, .int], some .boolean⟩ := by decide +kernel
def Q_rmlaw (p0 p1 p2 : Int32) (zc : Int32) (fm : Value) (nl : Nat) (st d1 : Addr) (D1 : Cell) (d2 : Addr) (D2 : Cell) (h0 : Heap) (n0 : Nat) (v : Option Value) (h : Heap) (L : List Loc) : Prop := v = some (.int 1) ∧ Fr n0 L
set_option maxRecDepth 65536 in
set_option maxHeartbeats 40000000 in
theorem rmlaw (l : Launch) (Z : State) (a0 : Array Value) (hw : ∀ d ∈ tables_1, d.before a0 Z = true) (ws : List Jvm.Cond) (p0 p1 p2 : Int32) (zc : Int32) (fm : Value) (nl : Nat) (st d1 : Addr) (D1 : Cell) (d2 : Addr) (D2 : Cell) (h0 : Heap) (n0 : Nat) (O0 : Old Z n0 h0) (hEL : EW Z a0 consts_1) (S_COMPACT_STRINGS : Sta Z Z.heap "java/lang/String" "COMPACT_STRINGS" "Z" (.int zc)) (hzc : ¬ zc = 0) (S_SIOOBE_FORMATTER : Sta Z Z.heap "jdk/internal/util/Preconditions" "SIOOBE_FORMATTER" "Ljava/util/function/BiFunction;" fm) (hfm : fm.isRef = true) (hn1 : nl ≤ 2 ^ 31) (hx1 : (if p0 < 0 then p0 else -p0) = SBG.negI nl) (D : Dg Z st d1 D1 d2 D2) :
    MeetsS l x code maxLocals ret ws room_1 Z consts_1 [] #[(.int p0), (.int p1), (.int p2)] h0 (Q_rmlaw p0 p1 p2 zc fm nl st d1 D1 d2 D2 h0 n0) 88 7104 := by
  refine enterS (Ls := #[.val (.int p0), .val (.int p1), .val (.int p2), .unset, .unset, .unset, .unset, .unset, .unset]) (plainFor_of_name pn_12) (fun m => by first | (simp [entryFrame, mkF, argsToLocals, Value.category, maxLocals]; done) | rfl) ?_
  intro p e s m below meth c T0 hx hby hml hown hnm hret hlk hZ X0 e0 eS CH hS HS
  have N0 := Fr.nil n0
  replace hown : s.vm.findClass "com/example/visit_by_value/visitbyvalue/cli/WholeNumberRangePinLaw" = some m.cls := hown
  show Run p e below _ (T0.setTop (mkF m 0 #[.val (.int p0), .val (.int p1), .val (.int p2), .unset, .unset, .unset, .unset, .unset, .unset] []))
  have hk : h0.size ≤ h0.size := Nat.le_refl _
  have J24 : ∀ (T297 : State) (L297 : List Loc) (X297 : Stand p l e room_1 (s.setVm s.vm) m #[(.int p0), (.int p1), (.int p2)] below meth c T297 L297 0 0) (e297 : T297.heap = h0) (N297 : Fr n0 L297) (ub hh : Int32)  , Run p e below (EndsS Z consts_1 s (Q_rmlaw p0 p1 p2 zc fm nl st d1 D1 d2 D2 h0 n0) 88 7104) (T297.setTop (mkF m 24 #[.val (.int p0), .val (.int p1), .val (.int p2), .val (.int ub), .val (.int hh), .unset, .unset, .unset, .unset] [])) := by
    intro T297 L297 X297 e297 N297 ub hh  
    obtain ⟨nh, hn2, hx2⟩ := SBG.negI_of hh
    obtain ⟨T298, h298, X298, e298, E298, A298, D298, -, st298⟩ := newO X297 hx hZ hown (wd hw 0 rfl) (wd hw 1 rfl) (wd hw 2 rfl) e297 (g := (mkF m 24 #[.val (.int p0), .val (.int p1), .val (.int p2), .val (.int ub), .val (.int hh), .unset, .unset, .unset, .unset] [])) rfl (hb hby at_24) (by decide) (by decide)
    obtain ⟨b298, y298⟩ : ∃ z, z = h0.size := ⟨_, rfl⟩
    rw [← y298] at A298 D298 st298
    have g_b298 : n0 ≤ b298 := y298.symm ▸ old_sz O0
    have SF_b298 : Safe Z consts_1 s.vm h0 b298 := Safe.new (Nat.le_of_eq y298.symm)
    have CHo := CH
    have SF_b298o := SF_b298
    have hk := Nat.le_trans hk E298.1
    have O0 := O0.ext E298
    have SF_b298 := Safe.ext E298 CHo.1 SF_b298o
    have CH := CHo.trans (CHr.ext E298 CHo.1)
    have E_b298 := A298
    have F_low_b298 : Fld Z h298 b298 "com/example/visit_by_value/visitbyvalue/cli/OptionValue$WholeNumber" "low" "I" (.int (0 : Int32)) := D298 (Or.inr (wd hw 15 rfl)) (ty := .int) (by decide)
    have F_high_b298 : Fld Z h298 b298 "com/example/visit_by_value/visitbyvalue/cli/OptionValue$WholeNumber" "high" "I" (.int (0 : Int32)) := D298 (Or.inr (wd hw 17 rfl)) (ty := .int) (by decide)
    refine go st298 ?_
    show Run p e below _ (T298.setTop (mkF m 27 #[.val (.int p0), .val (.int p1), .val (.int p2), .val (.int ub), .val (.int hh), .unset, .unset, .unset, .unset] [(.ref b298)]))
    refine go (fun _ => XS.dup X298.here hx rfl (hb hby at_27) rfl rfl) ?_
    show Run p e below _ (T298.setTop (mkF m 28 #[.val (.int p0), .val (.int p1), .val (.int p2), .val (.int ub), .val (.int hh), .unset, .unset, .unset, .unset] [(.ref b298), (.ref b298)]))
    refine go (fun _ => XS.iloadN X298.here hx rfl (hb hby at_28) rfl) ?_
    show Run p e below _ (T298.setTop (mkF m 29 #[.val (.int p0), .val (.int p1), .val (.int p2), .val (.int ub), .val (.int hh), .unset, .unset, .unset, .unset] [(.int p0), (.ref b298), (.ref b298)]))
    refine go (fun _ => XS.iload X298.here hx rfl (hb hby at_29) rfl) ?_
    show Run p e below _ (T298.setTop (mkF m 31 #[.val (.int p0), .val (.int p1), .val (.int p2), .val (.int ub), .val (.int hh), .unset, .unset, .unset, .unset] [(.int hh), (.int p0), (.ref b298), (.ref b298)]))
    refine callSp X298 hx hZ rfl hown (wd hw 3 rfl) (wd hw 4 rfl) (wd hw 5 rfl) (wd hw 2 rfl) (by decide) e298 (a := b298) (argsL := [(.int p0), (.int hh)]) (rest := [(.ref b298)]) (rm_wn l Z a0 hw [] b298 p0 hh h298 n0 O0 E_b298 F_low_b298 F_high_b298 g_b298) (W := 1) (by decide) (by decide) (by decide) (by decide) (by rw [hml]; rfl) (lenOf pd_4 rfl) rfl (Nat.le_of_eq rfl) (hb hby at_31) ?_
    intro v299 T299 L299 h299 X299 e299 q299
    obtain ⟨rfl, n299, K299, F_low_b298, F_high_b298⟩ := q299
    have CHo := CH
    have SF_b298o := SF_b298
    have hk := Nat.le_trans hk K299.1
    have O0 := O0.keep K299 (allS g_b298 all0)
    have SF_b298 := Safe.keep K299 (allS SF_b298o all0) CHo.1 SF_b298o
    have CH := CHo.trans (CHr.keep K299 (allS SF_b298o all0) CHo.1)
    have E_b298 := E_b298.keep K299
    have N299 := Fr.app N297 n299
    show Run p e below _ (T299.setTop (mkF m 34 #[.val (.int p0), .val (.int p1), .val (.int p2), .val (.int ub), .val (.int hh), .unset, .unset, .unset, .unset] [(.ref b298)]))
    refine callViS X299 hx hZ hown (wd hw 18 rfl) (wd hw 19 rfl) (notFace_of_selects (args := #[]) (mvT hZ (wd hw 21 rfl))) (wd hw 21 rfl) (wd hw 20 rfl) (wd hw 22 rfl) (wd hw 2 rfl) (by decide) e299 hS hk hEL CH E_b298 (argsL := []) (rest := []) all0 (rm_rg l Z a0 hw [] zc b298 p0 hh nl nh st d1 D1 d2 D2 h299 n0 O0 hEL S_COMPACT_STRINGS hzc E_b298 F_low_b298 F_high_b298 hn1 hx1 hn2 hx2 D) (W := 0) (by decide) (by decide) (by decide) (by decide) (by rw [hml]; rfl) (lenOf pd_24 rfl) rfl (Nat.le_of_eq rfl) (hb hby at_34) ?_
    intro v300 T300 L300 h300 k300 X300 e300 hS hk hZ hown CH' D300 q300
    have lt301_b298 := E_b298.lt
    have SF_b298 := CHr.safe D300 lt301_b298 SF_b298
    obtain ⟨x300, t300, kb300, rfl, n300, K300, T_x300⟩ := q300
    have O0 := O0.keep K300 all0
    have E_b298 := E_b298.keep K300
    have F_low_b298 := F_low_b298.keep K300 nin0
    have F_high_b298 := F_high_b298.keep K300 nin0
    have N300 := Fr.app N299 n300
    have CH := CH'
    show Run p e below _ (T300.setTop (mkF m 37 #[.val (.int p0), .val (.int p1), .val (.int p2), .val (.int ub), .val (.int hh), .unset, .unset, .unset, .unset] [(.ref x300)]))
    refine go (fun _ => XS.astore X300.here hx rfl (hb hby at_37) rfl rfl (l' := #[.val (.int p0), .val (.int p1), .val (.int p2), .val (.int ub), .val (.int hh), .val (.ref x300), .unset, .unset, .unset]) rfl) ?_
    show Run p e below _ (T300.setTop (mkF m 39 #[.val (.int p0), .val (.int p1), .val (.int p2), .val (.int ub), .val (.int hh), .val (.ref x300), .unset, .unset, .unset] []))
    refine go (fun _ => XS.aload X300.here hx rfl (hb hby at_39) rfl rfl) ?_
    show Run p e below _ (T300.setTop (mkF m 41 #[.val (.int p0), .val (.int p1), .val (.int p2), .val (.int ub), .val (.int hh), .val (.ref x300), .unset, .unset, .unset] [(.ref x300)]))
    refine go (fun _ => XS.ifnonnullYes X300.here hx rfl (pc0 := 41) (pc' := 46) rfl (hb hby at_41) rfl (by decide) (by decide)) ?_
    show Run p e below _ (T300.setTop (mkF m 46 #[.val (.int p0), .val (.int p1), .val (.int p2), .val (.int ub), .val (.int hh), .val (.ref x300), .unset, .unset, .unset] []))
    refine go (fun _ => XS.iloadN X300.here hx rfl (hb hby at_46) rfl) ?_
    show Run p e below _ (T300.setTop (mkF m 47 #[.val (.int p0), .val (.int p1), .val (.int p2), .val (.int ub), .val (.int hh), .val (.ref x300), .unset, .unset, .unset] [(.int p0)]))
    refine callSt X300 hx hZ hown (wd hw 183 rfl) (wd hw 184 rfl) (wd hw 185 rfl) (wd hw 186 rfl) (by decide) e300 (argsL := [(.int p0)]) (rest := []) (rm_wd l Z a0 hw [] p0 nl h300 n0 O0 hn1 hx1) (W := 0) (by decide) (by decide) (by decide) (by decide) (by rw [hml]; rfl) (lenOf pd_9 rfl) rfl (Nat.le_of_eq rfl) (hb hby at_47) ?_
    intro v302 T302 L302 h302 X302 e302 q302
    obtain ⟨rv, n302, k302⟩ := q302
    replace rv : v302 = some (.int (Int32.ofNat (SBG.digits nl + SBG.GetChars.sgn p0))) := rv
    subst rv
    have e302 := e302.trans k302
    have N302 := Fr.app N300 n302
    show Run p e below _ (T302.setTop (mkF m 50 #[.val (.int p0), .val (.int p1), .val (.int p2), .val (.int ub), .val (.int hh), .val (.ref x300), .unset, .unset, .unset] [(.int (Int32.ofNat (SBG.digits nl + SBG.GetChars.sgn p0)))]))
    refine go (fun _ => XS.istore X302.here hx rfl (hb hby at_50) rfl (l' := #[.val (.int p0), .val (.int p1), .val (.int p2), .val (.int ub), .val (.int hh), .val (.ref x300), .val (.int (Int32.ofNat (SBG.digits nl + SBG.GetChars.sgn p0))), .unset, .unset]) rfl) ?_
    show Run p e below _ (T302.setTop (mkF m 52 #[.val (.int p0), .val (.int p1), .val (.int p2), .val (.int ub), .val (.int hh), .val (.ref x300), .val (.int (Int32.ofNat (SBG.digits nl + SBG.GetChars.sgn p0))), .unset, .unset] []))
    refine go (fun _ => XS.iload X302.here hx rfl (hb hby at_52) rfl) ?_
    show Run p e below _ (T302.setTop (mkF m 54 #[.val (.int p0), .val (.int p1), .val (.int p2), .val (.int ub), .val (.int hh), .val (.ref x300), .val (.int (Int32.ofNat (SBG.digits nl + SBG.GetChars.sgn p0))), .unset, .unset] [(.int hh)]))
    refine go (fun _ => X302.ldcI hx hown (mvT hZ (wd hw 194 rfl)) rfl (hb hby at_54)) ?_
    show Run p e below _ (T302.setTop (mkF m 56 #[.val (.int p0), .val (.int p1), .val (.int p2), .val (.int ub), .val (.int hh), .val (.ref x300), .val (.int (Int32.ofNat (SBG.digits nl + SBG.GetChars.sgn p0))), .unset, .unset] [(.int (2147483647 : Int32)), (.int hh)]))
    by_cases c303 : hh = (2147483647 : Int32)
    · skip
      refine go (fun _ => XS.icmpNo X302.here hx rfl (hb hby at_56) rfl (teq c303).2) ?_
      show Run p e below _ (T302.setTop (mkF m 59 #[.val (.int p0), .val (.int p1), .val (.int p2), .val (.int ub), .val (.int hh), .val (.ref x300), .val (.int (Int32.ofNat (SBG.digits nl + SBG.GetChars.sgn p0))), .unset, .unset] []))
      refine go (fun _ => XS.iconst X302.here hx rfl (hb hby at_59)) ?_
      show Run p e below _ (T302.setTop (mkF m 60 #[.val (.int p0), .val (.int p1), .val (.int p2), .val (.int ub), .val (.int hh), .val (.ref x300), .val (.int (Int32.ofNat (SBG.digits nl + SBG.GetChars.sgn p0))), .unset, .unset] [(.int (1 : Int32))]))
      refine go (fun _ => XS.goto X302.here hx rfl (pc0 := 60) (pc' := 64) rfl (hb hby at_60) (by decide) (by decide)) ?_
      show Run p e below _ (T302.setTop (mkF m 64 #[.val (.int p0), .val (.int p1), .val (.int p2), .val (.int ub), .val (.int hh), .val (.ref x300), .val (.int (Int32.ofNat (SBG.digits nl + SBG.GetChars.sgn p0))), .unset, .unset] [(.int (1 : Int32))]))
      refine go (fun _ => XS.istore X302.here hx rfl (hb hby at_64) rfl (l' := #[.val (.int p0), .val (.int p1), .val (.int p2), .val (.int ub), .val (.int hh), .val (.ref x300), .val (.int (Int32.ofNat (SBG.digits nl + SBG.GetChars.sgn p0))), .val (.int (1 : Int32)), .unset]) rfl) ?_
      show Run p e below _ (T302.setTop (mkF m 66 #[.val (.int p0), .val (.int p1), .val (.int p2), .val (.int ub), .val (.int hh), .val (.ref x300), .val (.int (Int32.ofNat (SBG.digits nl + SBG.GetChars.sgn p0))), .val (.int (1 : Int32)), .unset] []))
      refine go (fun _ => XS.iload X302.here hx rfl (hb hby at_66) rfl) ?_
      show Run p e below _ (T302.setTop (mkF m 68 #[.val (.int p0), .val (.int p1), .val (.int p2), .val (.int ub), .val (.int hh), .val (.ref x300), .val (.int (Int32.ofNat (SBG.digits nl + SBG.GetChars.sgn p0))), .val (.int (1 : Int32)), .unset] [(.int (1 : Int32))]))
      refine go (fun _ => XS.ifNo X302.here hx rfl (hb hby at_68) rfl ((if0 _ _).trans (feq (by decide : ¬ ((1 : Int32) = 0))).1)) ?_
      show Run p e below _ (T302.setTop (mkF m 71 #[.val (.int p0), .val (.int p1), .val (.int p2), .val (.int ub), .val (.int hh), .val (.ref x300), .val (.int (Int32.ofNat (SBG.digits nl + SBG.GetChars.sgn p0))), .val (.int (1 : Int32)), .unset] []))
      refine go (fun _ => XS.bipush X302.here hx rfl (hb hby at_71)) ?_
      show Run p e below _ (T302.setTop (mkF m 73 #[.val (.int p0), .val (.int p1), .val (.int p2), .val (.int ub), .val (.int hh), .val (.ref x300), .val (.int (Int32.ofNat (SBG.digits nl + SBG.GetChars.sgn p0))), .val (.int (1 : Int32)), .unset] [(.int (20 : Int32))]))
      refine go (fun _ => XS.iload X302.here hx rfl (hb hby at_73) rfl) ?_
      show Run p e below _ (T302.setTop (mkF m 75 #[.val (.int p0), .val (.int p1), .val (.int p2), .val (.int ub), .val (.int hh), .val (.ref x300), .val (.int (Int32.ofNat (SBG.digits nl + SBG.GetChars.sgn p0))), .val (.int (1 : Int32)), .unset] [(.int (Int32.ofNat (SBG.digits nl + SBG.GetChars.sgn p0))), (.int (20 : Int32))]))
      refine go (fun _ => XS.iadd X302.here hx rfl (hb hby at_75) rfl) ?_
      rw [own_addl20]
      show Run p e below _ (T302.setTop (mkF m 76 #[.val (.int p0), .val (.int p1), .val (.int p2), .val (.int ub), .val (.int hh), .val (.ref x300), .val (.int (Int32.ofNat (SBG.digits nl + SBG.GetChars.sgn p0))), .val (.int (1 : Int32)), .unset] [(.int (Int32.ofNat (20 + (SBG.digits nl + SBG.GetChars.sgn p0))))]))
      refine go (fun _ => XS.iconst X302.here hx rfl (hb hby at_76)) ?_
      show Run p e below _ (T302.setTop (mkF m 77 #[.val (.int p0), .val (.int p1), .val (.int p2), .val (.int ub), .val (.int hh), .val (.ref x300), .val (.int (Int32.ofNat (SBG.digits nl + SBG.GetChars.sgn p0))), .val (.int (1 : Int32)), .unset] [(.int (3 : Int32)), (.int (Int32.ofNat (20 + (SBG.digits nl + SBG.GetChars.sgn p0))))]))
      refine go (fun _ => XS.iadd X302.here hx rfl (hb hby at_77) rfl) ?_
      rw [own_addr3]
      show Run p e below _ (T302.setTop (mkF m 78 #[.val (.int p0), .val (.int p1), .val (.int p2), .val (.int ub), .val (.int hh), .val (.ref x300), .val (.int (Int32.ofNat (SBG.digits nl + SBG.GetChars.sgn p0))), .val (.int (1 : Int32)), .unset] [(.int (Int32.ofNat ((20 + (SBG.digits nl + SBG.GetChars.sgn p0)) + 3)))]))
      refine go (fun _ => XS.goto X302.here hx rfl (pc0 := 78) (pc' := 94) rfl (hb hby at_78) (by decide) (by decide)) ?_
      show Run p e below _ (T302.setTop (mkF m 94 #[.val (.int p0), .val (.int p1), .val (.int p2), .val (.int ub), .val (.int hh), .val (.ref x300), .val (.int (Int32.ofNat (SBG.digits nl + SBG.GetChars.sgn p0))), .val (.int (1 : Int32)), .unset] [(.int (Int32.ofNat ((20 + (SBG.digits nl + SBG.GetChars.sgn p0)) + 3)))]))
      refine go (fun _ => XS.istore X302.here hx rfl (hb hby at_94) rfl (l' := #[.val (.int p0), .val (.int p1), .val (.int p2), .val (.int ub), .val (.int hh), .val (.ref x300), .val (.int (Int32.ofNat (SBG.digits nl + SBG.GetChars.sgn p0))), .val (.int (1 : Int32)), .val (.int (Int32.ofNat ((20 + (SBG.digits nl + SBG.GetChars.sgn p0)) + 3)))]) rfl) ?_
      show Run p e below _ (T302.setTop (mkF m 96 #[.val (.int p0), .val (.int p1), .val (.int p2), .val (.int ub), .val (.int hh), .val (.ref x300), .val (.int (Int32.ofNat (SBG.digits nl + SBG.GetChars.sgn p0))), .val (.int (1 : Int32)), .val (.int (Int32.ofNat ((20 + (SBG.digits nl + SBG.GetChars.sgn p0)) + 3)))] []))
      refine go (fun _ => XS.aload X302.here hx rfl (hb hby at_96) rfl rfl) ?_
      show Run p e below _ (T302.setTop (mkF m 98 #[.val (.int p0), .val (.int p1), .val (.int p2), .val (.int ub), .val (.int hh), .val (.ref x300), .val (.int (Int32.ofNat (SBG.digits nl + SBG.GetChars.sgn p0))), .val (.int (1 : Int32)), .val (.int (Int32.ofNat ((20 + (SBG.digits nl + SBG.GetChars.sgn p0)) + 3)))] [(.ref x300)]))
      refine callVi X302 hx hZ hown (wd hw 195 rfl) (wd hw 60 rfl) (notFace_of_selects (args := #[]) (mvT hZ (wd hw 62 rfl))) (wd hw 62 rfl) (wd hw 61 rfl) (wd hw 63 rfl) (wd hw 37 rfl) (by decide) e302 T_x300.1 (argsL := []) (rest := []) (rm_len l Z a0 hw [] zc x300 t300 kb300 (rcs p0 hh nl nh) h300 n0 O0 S_COMPACT_STRINGS hzc T_x300) (W := 0) (by decide) (by decide) (by decide) (by decide) (by rw [hml]; rfl) (lenOf pd_13 rfl) rfl (Nat.le_of_eq rfl) (hb hby at_98) ?_
      intro v304 T304 L304 h304 X304 e304 q304
      obtain ⟨rv, n304, k304⟩ := q304
      replace rv : v304 = some (.int (Int32.ofNat ((rcs p0 hh nl nh)).length)) := rv
      subst rv
      have e304 := e304.trans k304
      have N304 := Fr.app N302 n304
      show Run p e below _ (T304.setTop (mkF m 101 #[.val (.int p0), .val (.int p1), .val (.int p2), .val (.int ub), .val (.int hh), .val (.ref x300), .val (.int (Int32.ofNat (SBG.digits nl + SBG.GetChars.sgn p0))), .val (.int (1 : Int32)), .val (.int (Int32.ofNat ((20 + (SBG.digits nl + SBG.GetChars.sgn p0)) + 3)))] [(.int (Int32.ofNat ((rcs p0 hh nl nh)).length))]))
      refine go (fun _ => XS.iload X304.here hx rfl (hb hby at_101) rfl) ?_
      show Run p e below _ (T304.setTop (mkF m 103 #[.val (.int p0), .val (.int p1), .val (.int p2), .val (.int ub), .val (.int hh), .val (.ref x300), .val (.int (Int32.ofNat (SBG.digits nl + SBG.GetChars.sgn p0))), .val (.int (1 : Int32)), .val (.int (Int32.ofNat ((20 + (SBG.digits nl + SBG.GetChars.sgn p0)) + 3)))] [(.int (Int32.ofNat ((20 + (SBG.digits nl + SBG.GetChars.sgn p0)) + 3))), (.int (Int32.ofNat ((rcs p0 hh nl nh)).length))]))
      have htot : (Int32.ofNat ((rcs p0 hh nl nh)).length) = (Int32.ofNat ((20 + (SBG.digits nl + SBG.GetChars.sgn p0)) + 3)) := congrArg Int32.ofNat (rcs_lu c303)
      refine go (fun _ => XS.icmpYes X304.here hx rfl (pc0 := 103) (pc' := 108) rfl (hb hby at_103) rfl (teq htot).1 (by decide) (by decide)) ?_
      show Run p e below _ (T304.setTop (mkF m 108 #[.val (.int p0), .val (.int p1), .val (.int p2), .val (.int ub), .val (.int hh), .val (.ref x300), .val (.int (Int32.ofNat (SBG.digits nl + SBG.GetChars.sgn p0))), .val (.int (1 : Int32)), .val (.int (Int32.ofNat ((20 + (SBG.digits nl + SBG.GetChars.sgn p0)) + 3)))] []))
      refine go (fun _ => XS.aload X304.here hx rfl (hb hby at_108) rfl rfl) ?_
      show Run p e below _ (T304.setTop (mkF m 110 #[.val (.int p0), .val (.int p1), .val (.int p2), .val (.int ub), .val (.int hh), .val (.ref x300), .val (.int (Int32.ofNat (SBG.digits nl + SBG.GetChars.sgn p0))), .val (.int (1 : Int32)), .val (.int (Int32.ofNat ((20 + (SBG.digits nl + SBG.GetChars.sgn p0)) + 3)))] [(.ref x300)]))
      refine go (fun _ => XS.iconst X304.here hx rfl (hb hby at_110)) ?_
      show Run p e below _ (T304.setTop (mkF m 111 #[.val (.int p0), .val (.int p1), .val (.int p2), .val (.int ub), .val (.int hh), .val (.ref x300), .val (.int (Int32.ofNat (SBG.digits nl + SBG.GetChars.sgn p0))), .val (.int (1 : Int32)), .val (.int (Int32.ofNat ((20 + (SBG.digits nl + SBG.GetChars.sgn p0)) + 3)))] [(.int (0 : Int32)), (.ref x300)]))
      have lt306_b298 := E_b298.lt
      have lt306_x300 := T_x300.1.lt
      have lt306_t300 := T_x300.2.2.2.lt
      refine goLdc (text := "a whole number from ") (ds := ([97, 32, 119, 104, 111, 108, 101, 32, 110, 117, 109, 98, 101, 114, 32, 102, 114, 111, 109, 32] : List Int32)) X304 hx hZ hown (wd hw 196 rfl) (fun d hd => hw d (subStr d hd)) e304 hS hk hEL (by decide) CH ⟨by decide, by decide⟩ (by decide) (by decide) (n := 80) (hb hby at_111) (by decide) (by decide) (by decide) (by decide) ?_
      intro b305 t305 kb305 T305 h305 k305 X305 e305 E305 hS hk hZ hown Ea305 Fc305 Fv305 Va305 CH' D305 sf305
      have SF_b298 := CHr.safe D305 lt306_b298 SF_b298
      have O0 := O0.ext E305
      have E_b298 := E_b298.ext E305
      have F_low_b298 := F_low_b298.ext E305
      have F_high_b298 := F_high_b298.ext E305
      have T_x300 := T_x300.ext E305
      have CH := CH'
      have T_b305 : Str Z h305 b305 t305 kb305 ([97, 32, 119, 104, 111, 108, 101, 32, 110, 117, 109, 98, 101, 114, 32, 102, 114, 111, 109, 32] : List Int32) := ⟨Ea305, Fv305, Fc305, Va305⟩
      have ne_b298_b305 := (sf305 _ SF_b298).1
      have ne_b298_t305 := (sf305 _ SF_b298).2
      show Run p e below _ (T305.setTop (mkF m 113 #[.val (.int p0), .val (.int p1), .val (.int p2), .val (.int ub), .val (.int hh), .val (.ref x300), .val (.int (Int32.ofNat (SBG.digits nl + SBG.GetChars.sgn p0))), .val (.int (1 : Int32)), .val (.int (Int32.ofNat ((20 + (SBG.digits nl + SBG.GetChars.sgn p0)) + 3)))] [(.ref b305), (.int (0 : Int32)), (.ref x300)]))
      refine callSt X305 hx hZ hown (wd hw 197 rfl) (wd hw 198 rfl) (wd hw 185 rfl) (wd hw 199 rfl) (by decide) e305 (argsL := [(.ref x300), (.int (0 : Int32)), (.ref b305)]) (rest := []) (rm_lt l Z a0 hw [] zc fm x300 t300 kb300 (rcs p0 hh nl nh) 0 b305 t305 kb305 ([97, 32, 119, 104, 111, 108, 101, 32, 110, 117, 109, 98, 101, 114, 32, 102, 114, 111, 109, 32] : List Int32) h305 n0 O0 S_COMPACT_STRINGS hzc S_SIOOBE_FORMATTER hfm T_x300 T_b305 (rcs_in8 _ _ _ _) (rcs_le _ _ _ _) (show In8 ([97, 32, 119, 104, 111, 108, 101, 32, 110, 117, 109, 98, 101, 114, 32, 102, 114, 111, 109, 32] : List Int32) by unfold In8; decide) (by decide) (by have := rcs_ge p0 hh nl nh; show 0 + 20 ≤ _; omega) (fun j hj => rcs_a _ _ _ _ j hj)) (W := 0) (by decide) (by decide) (by decide) (by decide) (by rw [hml]; rfl) (lenOf pd_31 rfl) rfl (Nat.le_of_eq rfl) (hb hby at_113) ?_
      intro v307 T307 L307 h307 X307 e307 q307
      obtain ⟨rv, n307, k307⟩ := q307
      replace rv : v307 = some (.int (1 : Int32)) := rv
      subst rv
      have e307 := e307.trans k307
      have N307 := Fr.app N304 n307
      show Run p e below _ (T307.setTop (mkF m 116 #[.val (.int p0), .val (.int p1), .val (.int p2), .val (.int ub), .val (.int hh), .val (.ref x300), .val (.int (Int32.ofNat (SBG.digits nl + SBG.GetChars.sgn p0))), .val (.int (1 : Int32)), .val (.int (Int32.ofNat ((20 + (SBG.digits nl + SBG.GetChars.sgn p0)) + 3)))] [(.int (1 : Int32))]))
      refine go (fun _ => XS.ifYes X307.here hx rfl (pc0 := 116) (pc' := 121) rfl (hb hby at_116) rfl ((if0 _ _).trans (feq (by decide : ¬ ((1 : Int32) = 0))).2) (by decide) (by decide)) ?_
      show Run p e below _ (T307.setTop (mkF m 121 #[.val (.int p0), .val (.int p1), .val (.int p2), .val (.int ub), .val (.int hh), .val (.ref x300), .val (.int (Int32.ofNat (SBG.digits nl + SBG.GetChars.sgn p0))), .val (.int (1 : Int32)), .val (.int (Int32.ofNat ((20 + (SBG.digits nl + SBG.GetChars.sgn p0)) + 3)))] []))
      refine go (fun _ => XS.aload X307.here hx rfl (hb hby at_121) rfl rfl) ?_
      show Run p e below _ (T307.setTop (mkF m 123 #[.val (.int p0), .val (.int p1), .val (.int p2), .val (.int ub), .val (.int hh), .val (.ref x300), .val (.int (Int32.ofNat (SBG.digits nl + SBG.GetChars.sgn p0))), .val (.int (1 : Int32)), .val (.int (Int32.ofNat ((20 + (SBG.digits nl + SBG.GetChars.sgn p0)) + 3)))] [(.ref x300)]))
      refine go (fun _ => XS.bipush X307.here hx rfl (hb hby at_123)) ?_
      show Run p e below _ (T307.setTop (mkF m 125 #[.val (.int p0), .val (.int p1), .val (.int p2), .val (.int ub), .val (.int hh), .val (.ref x300), .val (.int (Int32.ofNat (SBG.digits nl + SBG.GetChars.sgn p0))), .val (.int (1 : Int32)), .val (.int (Int32.ofNat ((20 + (SBG.digits nl + SBG.GetChars.sgn p0)) + 3)))] [(.int (20 : Int32)), (.ref x300)]))
      refine go (fun _ => XS.iloadN X307.here hx rfl (hb hby at_125) rfl) ?_
      show Run p e below _ (T307.setTop (mkF m 126 #[.val (.int p0), .val (.int p1), .val (.int p2), .val (.int ub), .val (.int hh), .val (.ref x300), .val (.int (Int32.ofNat (SBG.digits nl + SBG.GetChars.sgn p0))), .val (.int (1 : Int32)), .val (.int (Int32.ofNat ((20 + (SBG.digits nl + SBG.GetChars.sgn p0)) + 3)))] [(.int p0), (.int (20 : Int32)), (.ref x300)]))
      refine callSt X307 hx hZ hown (wd hw 225 rfl) (wd hw 226 rfl) (wd hw 185 rfl) (wd hw 227 rfl) (by decide) e307 (argsL := [(.ref x300), (.int (20 : Int32)), (.int p0)]) (rest := []) (rm_nm l Z a0 hw [] zc fm x300 t300 kb300 (rcs p0 hh nl nh) 20 p0 nl h305 n0 O0 S_COMPACT_STRINGS hzc S_SIOOBE_FORMATTER hfm T_x300 (rcs_in8 _ _ _ _) (rcs_le _ _ _ _) hn1 hx1 (by rw [decI_len]; have := rcs_ge p0 hh nl nh; omega) (fun j hj => rcs_b _ _ _ _ j hj)) (W := 0) (by decide) (by decide) (by decide) (by decide) (by rw [hml]; rfl) (lenOf pd_32 rfl) rfl (Nat.le_of_eq rfl) (hb hby at_126) ?_
      intro v308 T308 L308 h308 X308 e308 q308
      obtain ⟨rfl, n308, K308⟩ := q308
      have CHo := CH
      have SF_b298o := SF_b298
      have hk := Nat.le_trans hk K308.1
      have O0 := O0.keep K308 all0
      have SF_b298 := Safe.keep K308 all0 CHo.1 SF_b298o
      have CH := CHo.trans (CHr.keep K308 all0 CHo.1)
      have E_b298 := E_b298.keep K308
      have F_low_b298 := F_low_b298.keep K308 nin0
      have F_high_b298 := F_high_b298.keep K308 nin0
      have T_x300 := T_x300.keep K308 nin0 nin0
      have T_b305 := T_b305.keep K308 nin0 nin0
      have N308 := Fr.app N307 n308
      show Run p e below _ (T308.setTop (mkF m 129 #[.val (.int p0), .val (.int p1), .val (.int p2), .val (.int ub), .val (.int hh), .val (.ref x300), .val (.int (Int32.ofNat (SBG.digits nl + SBG.GetChars.sgn p0))), .val (.int (1 : Int32)), .val (.int (Int32.ofNat ((20 + (SBG.digits nl + SBG.GetChars.sgn p0)) + 3)))] [(.int (1 : Int32))]))
      refine go (fun _ => XS.ifYes X308.here hx rfl (pc0 := 129) (pc' := 134) rfl (hb hby at_129) rfl ((if0 _ _).trans (feq (by decide : ¬ ((1 : Int32) = 0))).2) (by decide) (by decide)) ?_
      show Run p e below _ (T308.setTop (mkF m 134 #[.val (.int p0), .val (.int p1), .val (.int p2), .val (.int ub), .val (.int hh), .val (.ref x300), .val (.int (Int32.ofNat (SBG.digits nl + SBG.GetChars.sgn p0))), .val (.int (1 : Int32)), .val (.int (Int32.ofNat ((20 + (SBG.digits nl + SBG.GetChars.sgn p0)) + 3)))] []))
      refine go (fun _ => XS.iload X308.here hx rfl (hb hby at_134) rfl) ?_
      show Run p e below _ (T308.setTop (mkF m 136 #[.val (.int p0), .val (.int p1), .val (.int p2), .val (.int ub), .val (.int hh), .val (.ref x300), .val (.int (Int32.ofNat (SBG.digits nl + SBG.GetChars.sgn p0))), .val (.int (1 : Int32)), .val (.int (Int32.ofNat ((20 + (SBG.digits nl + SBG.GetChars.sgn p0)) + 3)))] [(.int (1 : Int32))]))
      refine go (fun _ => XS.ifNo X308.here hx rfl (hb hby at_136) rfl ((if0 _ _).trans (feq (by decide : ¬ ((1 : Int32) = 0))).1)) ?_
      show Run p e below _ (T308.setTop (mkF m 139 #[.val (.int p0), .val (.int p1), .val (.int p2), .val (.int ub), .val (.int hh), .val (.ref x300), .val (.int (Int32.ofNat (SBG.digits nl + SBG.GetChars.sgn p0))), .val (.int (1 : Int32)), .val (.int (Int32.ofNat ((20 + (SBG.digits nl + SBG.GetChars.sgn p0)) + 3)))] []))
      refine go (fun _ => XS.aload X308.here hx rfl (hb hby at_139) rfl rfl) ?_
      show Run p e below _ (T308.setTop (mkF m 141 #[.val (.int p0), .val (.int p1), .val (.int p2), .val (.int ub), .val (.int hh), .val (.ref x300), .val (.int (Int32.ofNat (SBG.digits nl + SBG.GetChars.sgn p0))), .val (.int (1 : Int32)), .val (.int (Int32.ofNat ((20 + (SBG.digits nl + SBG.GetChars.sgn p0)) + 3)))] [(.ref x300)]))
      refine go (fun _ => XS.bipush X308.here hx rfl (hb hby at_141)) ?_
      show Run p e below _ (T308.setTop (mkF m 143 #[.val (.int p0), .val (.int p1), .val (.int p2), .val (.int ub), .val (.int hh), .val (.ref x300), .val (.int (Int32.ofNat (SBG.digits nl + SBG.GetChars.sgn p0))), .val (.int (1 : Int32)), .val (.int (Int32.ofNat ((20 + (SBG.digits nl + SBG.GetChars.sgn p0)) + 3)))] [(.int (20 : Int32)), (.ref x300)]))
      refine go (fun _ => XS.iload X308.here hx rfl (hb hby at_143) rfl) ?_
      show Run p e below _ (T308.setTop (mkF m 145 #[.val (.int p0), .val (.int p1), .val (.int p2), .val (.int ub), .val (.int hh), .val (.ref x300), .val (.int (Int32.ofNat (SBG.digits nl + SBG.GetChars.sgn p0))), .val (.int (1 : Int32)), .val (.int (Int32.ofNat ((20 + (SBG.digits nl + SBG.GetChars.sgn p0)) + 3)))] [(.int (Int32.ofNat (SBG.digits nl + SBG.GetChars.sgn p0))), (.int (20 : Int32)), (.ref x300)]))
      refine go (fun _ => XS.iadd X308.here hx rfl (hb hby at_145) rfl) ?_
      rw [own_addl20]
      show Run p e below _ (T308.setTop (mkF m 146 #[.val (.int p0), .val (.int p1), .val (.int p2), .val (.int ub), .val (.int hh), .val (.ref x300), .val (.int (Int32.ofNat (SBG.digits nl + SBG.GetChars.sgn p0))), .val (.int (1 : Int32)), .val (.int (Int32.ofNat ((20 + (SBG.digits nl + SBG.GetChars.sgn p0)) + 3)))] [(.int (Int32.ofNat (20 + (SBG.digits nl + SBG.GetChars.sgn p0)))), (.ref x300)]))
      have lt310_b298 := E_b298.lt
      have lt310_x300 := T_x300.1.lt
      have lt310_t300 := T_x300.2.2.2.lt
      have lt310_b305 := T_b305.1.lt
      have lt310_t305 := T_b305.2.2.2.lt
      refine goLdc (text := " up") (ds := ([32, 117, 112] : List Int32)) X308 hx hZ hown (wd hw 246 rfl) (fun d hd => hw d (subStr d hd)) e308 hS hk hEL (by decide) CH ⟨by decide, by decide⟩ (by decide) (by decide) (n := 12) (hb hby at_146) (by decide) (by decide) (by decide) (by decide) ?_
      intro b309 t309 kb309 T309 h309 k309 X309 e309 E309 hS hk hZ hown Ea309 Fc309 Fv309 Va309 CH' D309 sf309
      have SF_b298 := CHr.safe D309 lt310_b298 SF_b298
      have O0 := O0.ext E309
      have E_b298 := E_b298.ext E309
      have F_low_b298 := F_low_b298.ext E309
      have F_high_b298 := F_high_b298.ext E309
      have T_x300 := T_x300.ext E309
      have T_b305 := T_b305.ext E309
      have CH := CH'
      have T_b309 : Str Z h309 b309 t309 kb309 ([32, 117, 112] : List Int32) := ⟨Ea309, Fv309, Fc309, Va309⟩
      have ne_b298_b309 := (sf309 _ SF_b298).1
      have ne_b298_t309 := (sf309 _ SF_b298).2
      show Run p e below _ (T309.setTop (mkF m 148 #[.val (.int p0), .val (.int p1), .val (.int p2), .val (.int ub), .val (.int hh), .val (.ref x300), .val (.int (Int32.ofNat (SBG.digits nl + SBG.GetChars.sgn p0))), .val (.int (1 : Int32)), .val (.int (Int32.ofNat ((20 + (SBG.digits nl + SBG.GetChars.sgn p0)) + 3)))] [(.ref b309), (.int (Int32.ofNat (20 + (SBG.digits nl + SBG.GetChars.sgn p0)))), (.ref x300)]))
      refine callSt X309 hx hZ hown (wd hw 197 rfl) (wd hw 198 rfl) (wd hw 185 rfl) (wd hw 199 rfl) (by decide) e309 (argsL := [(.ref x300), (.int (Int32.ofNat (20 + (SBG.digits nl + SBG.GetChars.sgn p0)))), (.ref b309)]) (rest := []) (rm_lt l Z a0 hw [] zc fm x300 t300 kb300 (rcs p0 hh nl nh) (20 + (SBG.digits nl + SBG.GetChars.sgn p0)) b309 t309 kb309 ([32, 117, 112] : List Int32) h309 n0 O0 S_COMPACT_STRINGS hzc S_SIOOBE_FORMATTER hfm T_x300 T_b309 (rcs_in8 _ _ _ _) (rcs_le _ _ _ _) (show In8 ([32, 117, 112] : List Int32) by unfold In8; decide) (by decide) (by rw [rcs_lu c303]; show _ + 3 ≤ _; omega) (fun j _ => rcs_c c303 j)) (W := 0) (by decide) (by decide) (by decide) (by decide) (by rw [hml]; rfl) (lenOf pd_31 rfl) rfl (Nat.le_of_eq rfl) (hb hby at_148) ?_
      intro v311 T311 L311 h311 X311 e311 q311
      obtain ⟨rv, n311, k311⟩ := q311
      replace rv : v311 = some (.int (1 : Int32)) := rv
      subst rv
      have e311 := e311.trans k311
      have N311 := Fr.app N308 n311
      show Run p e below _ (T311.setTop (mkF m 151 #[.val (.int p0), .val (.int p1), .val (.int p2), .val (.int ub), .val (.int hh), .val (.ref x300), .val (.int (Int32.ofNat (SBG.digits nl + SBG.GetChars.sgn p0))), .val (.int (1 : Int32)), .val (.int (Int32.ofNat ((20 + (SBG.digits nl + SBG.GetChars.sgn p0)) + 3)))] [(.int (1 : Int32))]))
      exact endNS X311 hx hlk hZ hEL e311 eS CH hS hk (t := .boolean) hret (by simp) (hb hby at_151) (⟨rfl, N311⟩) (by decide) (by decide)
    · skip
      refine go (fun _ => XS.icmpYes X302.here hx rfl (pc0 := 56) (pc' := 63) rfl (hb hby at_56) rfl (feq c303).2 (by decide) (by decide)) ?_
      show Run p e below _ (T302.setTop (mkF m 63 #[.val (.int p0), .val (.int p1), .val (.int p2), .val (.int ub), .val (.int hh), .val (.ref x300), .val (.int (Int32.ofNat (SBG.digits nl + SBG.GetChars.sgn p0))), .unset, .unset] []))
      refine go (fun _ => XS.iconst X302.here hx rfl (hb hby at_63)) ?_
      show Run p e below _ (T302.setTop (mkF m 64 #[.val (.int p0), .val (.int p1), .val (.int p2), .val (.int ub), .val (.int hh), .val (.ref x300), .val (.int (Int32.ofNat (SBG.digits nl + SBG.GetChars.sgn p0))), .unset, .unset] [(.int (0 : Int32))]))
      refine go (fun _ => XS.istore X302.here hx rfl (hb hby at_64) rfl (l' := #[.val (.int p0), .val (.int p1), .val (.int p2), .val (.int ub), .val (.int hh), .val (.ref x300), .val (.int (Int32.ofNat (SBG.digits nl + SBG.GetChars.sgn p0))), .val (.int (0 : Int32)), .unset]) rfl) ?_
      show Run p e below _ (T302.setTop (mkF m 66 #[.val (.int p0), .val (.int p1), .val (.int p2), .val (.int ub), .val (.int hh), .val (.ref x300), .val (.int (Int32.ofNat (SBG.digits nl + SBG.GetChars.sgn p0))), .val (.int (0 : Int32)), .unset] []))
      refine go (fun _ => XS.iload X302.here hx rfl (hb hby at_66) rfl) ?_
      show Run p e below _ (T302.setTop (mkF m 68 #[.val (.int p0), .val (.int p1), .val (.int p2), .val (.int ub), .val (.int hh), .val (.ref x300), .val (.int (Int32.ofNat (SBG.digits nl + SBG.GetChars.sgn p0))), .val (.int (0 : Int32)), .unset] [(.int (0 : Int32))]))
      refine go (fun _ => XS.ifYes X302.here hx rfl (pc0 := 68) (pc' := 81) rfl (hb hby at_68) rfl ((if0 _ _).trans (teq (by decide : (0 : Int32) = 0)).1) (by decide) (by decide)) ?_
      show Run p e below _ (T302.setTop (mkF m 81 #[.val (.int p0), .val (.int p1), .val (.int p2), .val (.int ub), .val (.int hh), .val (.ref x300), .val (.int (Int32.ofNat (SBG.digits nl + SBG.GetChars.sgn p0))), .val (.int (0 : Int32)), .unset] []))
      refine go (fun _ => XS.bipush X302.here hx rfl (hb hby at_81)) ?_
      show Run p e below _ (T302.setTop (mkF m 83 #[.val (.int p0), .val (.int p1), .val (.int p2), .val (.int ub), .val (.int hh), .val (.ref x300), .val (.int (Int32.ofNat (SBG.digits nl + SBG.GetChars.sgn p0))), .val (.int (0 : Int32)), .unset] [(.int (20 : Int32))]))
      refine go (fun _ => XS.iload X302.here hx rfl (hb hby at_83) rfl) ?_
      show Run p e below _ (T302.setTop (mkF m 85 #[.val (.int p0), .val (.int p1), .val (.int p2), .val (.int ub), .val (.int hh), .val (.ref x300), .val (.int (Int32.ofNat (SBG.digits nl + SBG.GetChars.sgn p0))), .val (.int (0 : Int32)), .unset] [(.int (Int32.ofNat (SBG.digits nl + SBG.GetChars.sgn p0))), (.int (20 : Int32))]))
      refine go (fun _ => XS.iadd X302.here hx rfl (hb hby at_85) rfl) ?_
      rw [own_addl20]
      show Run p e below _ (T302.setTop (mkF m 86 #[.val (.int p0), .val (.int p1), .val (.int p2), .val (.int ub), .val (.int hh), .val (.ref x300), .val (.int (Int32.ofNat (SBG.digits nl + SBG.GetChars.sgn p0))), .val (.int (0 : Int32)), .unset] [(.int (Int32.ofNat (20 + (SBG.digits nl + SBG.GetChars.sgn p0))))]))
      refine go (fun _ => XS.iconst X302.here hx rfl (hb hby at_86)) ?_
      show Run p e below _ (T302.setTop (mkF m 87 #[.val (.int p0), .val (.int p1), .val (.int p2), .val (.int ub), .val (.int hh), .val (.ref x300), .val (.int (Int32.ofNat (SBG.digits nl + SBG.GetChars.sgn p0))), .val (.int (0 : Int32)), .unset] [(.int (4 : Int32)), (.int (Int32.ofNat (20 + (SBG.digits nl + SBG.GetChars.sgn p0))))]))
      refine go (fun _ => XS.iadd X302.here hx rfl (hb hby at_87) rfl) ?_
      rw [own_addr4]
      show Run p e below _ (T302.setTop (mkF m 88 #[.val (.int p0), .val (.int p1), .val (.int p2), .val (.int ub), .val (.int hh), .val (.ref x300), .val (.int (Int32.ofNat (SBG.digits nl + SBG.GetChars.sgn p0))), .val (.int (0 : Int32)), .unset] [(.int (Int32.ofNat ((20 + (SBG.digits nl + SBG.GetChars.sgn p0)) + 4)))]))
      refine go (fun _ => XS.iload X302.here hx rfl (hb hby at_88) rfl) ?_
      show Run p e below _ (T302.setTop (mkF m 90 #[.val (.int p0), .val (.int p1), .val (.int p2), .val (.int ub), .val (.int hh), .val (.ref x300), .val (.int (Int32.ofNat (SBG.digits nl + SBG.GetChars.sgn p0))), .val (.int (0 : Int32)), .unset] [(.int hh), (.int (Int32.ofNat ((20 + (SBG.digits nl + SBG.GetChars.sgn p0)) + 4)))]))
      refine callSt X302 hx hZ hown (wd hw 183 rfl) (wd hw 184 rfl) (wd hw 185 rfl) (wd hw 186 rfl) (by decide) e302 (argsL := [(.int hh)]) (rest := [(.int (Int32.ofNat ((20 + (SBG.digits nl + SBG.GetChars.sgn p0)) + 4)))]) (rm_wd l Z a0 hw [] hh nh h300 n0 O0 hn2 hx2) (W := 1) (by decide) (by decide) (by decide) (by decide) (by rw [hml]; rfl) (lenOf pd_9 rfl) rfl (Nat.le_of_eq rfl) (hb hby at_90) ?_
      intro v312 T312 L312 h312 X312 e312 q312
      obtain ⟨rv, n312, k312⟩ := q312
      replace rv : v312 = some (.int (Int32.ofNat (SBG.digits nh + SBG.GetChars.sgn hh))) := rv
      subst rv
      have e312 := e312.trans k312
      have N312 := Fr.app N302 n312
      show Run p e below _ (T312.setTop (mkF m 93 #[.val (.int p0), .val (.int p1), .val (.int p2), .val (.int ub), .val (.int hh), .val (.ref x300), .val (.int (Int32.ofNat (SBG.digits nl + SBG.GetChars.sgn p0))), .val (.int (0 : Int32)), .unset] [(.int (Int32.ofNat (SBG.digits nh + SBG.GetChars.sgn hh))), (.int (Int32.ofNat ((20 + (SBG.digits nl + SBG.GetChars.sgn p0)) + 4)))]))
      refine go (fun _ => XS.iadd X312.here hx rfl (hb hby at_93) rfl) ?_
      rw [own_add]
      show Run p e below _ (T312.setTop (mkF m 94 #[.val (.int p0), .val (.int p1), .val (.int p2), .val (.int ub), .val (.int hh), .val (.ref x300), .val (.int (Int32.ofNat (SBG.digits nl + SBG.GetChars.sgn p0))), .val (.int (0 : Int32)), .unset] [(.int (Int32.ofNat (((20 + (SBG.digits nl + SBG.GetChars.sgn p0)) + 4) + (SBG.digits nh + SBG.GetChars.sgn hh))))]))
      refine go (fun _ => XS.istore X312.here hx rfl (hb hby at_94) rfl (l' := #[.val (.int p0), .val (.int p1), .val (.int p2), .val (.int ub), .val (.int hh), .val (.ref x300), .val (.int (Int32.ofNat (SBG.digits nl + SBG.GetChars.sgn p0))), .val (.int (0 : Int32)), .val (.int (Int32.ofNat (((20 + (SBG.digits nl + SBG.GetChars.sgn p0)) + 4) + (SBG.digits nh + SBG.GetChars.sgn hh))))]) rfl) ?_
      show Run p e below _ (T312.setTop (mkF m 96 #[.val (.int p0), .val (.int p1), .val (.int p2), .val (.int ub), .val (.int hh), .val (.ref x300), .val (.int (Int32.ofNat (SBG.digits nl + SBG.GetChars.sgn p0))), .val (.int (0 : Int32)), .val (.int (Int32.ofNat (((20 + (SBG.digits nl + SBG.GetChars.sgn p0)) + 4) + (SBG.digits nh + SBG.GetChars.sgn hh))))] []))
      refine go (fun _ => XS.aload X312.here hx rfl (hb hby at_96) rfl rfl) ?_
      show Run p e below _ (T312.setTop (mkF m 98 #[.val (.int p0), .val (.int p1), .val (.int p2), .val (.int ub), .val (.int hh), .val (.ref x300), .val (.int (Int32.ofNat (SBG.digits nl + SBG.GetChars.sgn p0))), .val (.int (0 : Int32)), .val (.int (Int32.ofNat (((20 + (SBG.digits nl + SBG.GetChars.sgn p0)) + 4) + (SBG.digits nh + SBG.GetChars.sgn hh))))] [(.ref x300)]))
      refine callVi X312 hx hZ hown (wd hw 195 rfl) (wd hw 60 rfl) (notFace_of_selects (args := #[]) (mvT hZ (wd hw 62 rfl))) (wd hw 62 rfl) (wd hw 61 rfl) (wd hw 63 rfl) (wd hw 37 rfl) (by decide) e312 T_x300.1 (argsL := []) (rest := []) (rm_len l Z a0 hw [] zc x300 t300 kb300 (rcs p0 hh nl nh) h300 n0 O0 S_COMPACT_STRINGS hzc T_x300) (W := 0) (by decide) (by decide) (by decide) (by decide) (by rw [hml]; rfl) (lenOf pd_13 rfl) rfl (Nat.le_of_eq rfl) (hb hby at_98) ?_
      intro v313 T313 L313 h313 X313 e313 q313
      obtain ⟨rv, n313, k313⟩ := q313
      replace rv : v313 = some (.int (Int32.ofNat ((rcs p0 hh nl nh)).length)) := rv
      subst rv
      have e313 := e313.trans k313
      have N313 := Fr.app N312 n313
      show Run p e below _ (T313.setTop (mkF m 101 #[.val (.int p0), .val (.int p1), .val (.int p2), .val (.int ub), .val (.int hh), .val (.ref x300), .val (.int (Int32.ofNat (SBG.digits nl + SBG.GetChars.sgn p0))), .val (.int (0 : Int32)), .val (.int (Int32.ofNat (((20 + (SBG.digits nl + SBG.GetChars.sgn p0)) + 4) + (SBG.digits nh + SBG.GetChars.sgn hh))))] [(.int (Int32.ofNat ((rcs p0 hh nl nh)).length))]))
      refine go (fun _ => XS.iload X313.here hx rfl (hb hby at_101) rfl) ?_
      show Run p e below _ (T313.setTop (mkF m 103 #[.val (.int p0), .val (.int p1), .val (.int p2), .val (.int ub), .val (.int hh), .val (.ref x300), .val (.int (Int32.ofNat (SBG.digits nl + SBG.GetChars.sgn p0))), .val (.int (0 : Int32)), .val (.int (Int32.ofNat (((20 + (SBG.digits nl + SBG.GetChars.sgn p0)) + 4) + (SBG.digits nh + SBG.GetChars.sgn hh))))] [(.int (Int32.ofNat (((20 + (SBG.digits nl + SBG.GetChars.sgn p0)) + 4) + (SBG.digits nh + SBG.GetChars.sgn hh)))), (.int (Int32.ofNat ((rcs p0 hh nl nh)).length))]))
      have htot : (Int32.ofNat ((rcs p0 hh nl nh)).length) = (Int32.ofNat (((20 + (SBG.digits nl + SBG.GetChars.sgn p0)) + 4) + (SBG.digits nh + SBG.GetChars.sgn hh))) := congrArg Int32.ofNat (rcs_lt c303)
      refine go (fun _ => XS.icmpYes X313.here hx rfl (pc0 := 103) (pc' := 108) rfl (hb hby at_103) rfl (teq htot).1 (by decide) (by decide)) ?_
      show Run p e below _ (T313.setTop (mkF m 108 #[.val (.int p0), .val (.int p1), .val (.int p2), .val (.int ub), .val (.int hh), .val (.ref x300), .val (.int (Int32.ofNat (SBG.digits nl + SBG.GetChars.sgn p0))), .val (.int (0 : Int32)), .val (.int (Int32.ofNat (((20 + (SBG.digits nl + SBG.GetChars.sgn p0)) + 4) + (SBG.digits nh + SBG.GetChars.sgn hh))))] []))
      refine go (fun _ => XS.aload X313.here hx rfl (hb hby at_108) rfl rfl) ?_
      show Run p e below _ (T313.setTop (mkF m 110 #[.val (.int p0), .val (.int p1), .val (.int p2), .val (.int ub), .val (.int hh), .val (.ref x300), .val (.int (Int32.ofNat (SBG.digits nl + SBG.GetChars.sgn p0))), .val (.int (0 : Int32)), .val (.int (Int32.ofNat (((20 + (SBG.digits nl + SBG.GetChars.sgn p0)) + 4) + (SBG.digits nh + SBG.GetChars.sgn hh))))] [(.ref x300)]))
      refine go (fun _ => XS.iconst X313.here hx rfl (hb hby at_110)) ?_
      show Run p e below _ (T313.setTop (mkF m 111 #[.val (.int p0), .val (.int p1), .val (.int p2), .val (.int ub), .val (.int hh), .val (.ref x300), .val (.int (Int32.ofNat (SBG.digits nl + SBG.GetChars.sgn p0))), .val (.int (0 : Int32)), .val (.int (Int32.ofNat (((20 + (SBG.digits nl + SBG.GetChars.sgn p0)) + 4) + (SBG.digits nh + SBG.GetChars.sgn hh))))] [(.int (0 : Int32)), (.ref x300)]))
      have lt315_b298 := E_b298.lt
      have lt315_x300 := T_x300.1.lt
      have lt315_t300 := T_x300.2.2.2.lt
      refine goLdc (text := "a whole number from ") (ds := ([97, 32, 119, 104, 111, 108, 101, 32, 110, 117, 109, 98, 101, 114, 32, 102, 114, 111, 109, 32] : List Int32)) X313 hx hZ hown (wd hw 196 rfl) (fun d hd => hw d (subStr d hd)) e313 hS hk hEL (by decide) CH ⟨by decide, by decide⟩ (by decide) (by decide) (n := 80) (hb hby at_111) (by decide) (by decide) (by decide) (by decide) ?_
      intro b314 t314 kb314 T314 h314 k314 X314 e314 E314 hS hk hZ hown Ea314 Fc314 Fv314 Va314 CH' D314 sf314
      have SF_b298 := CHr.safe D314 lt315_b298 SF_b298
      have O0 := O0.ext E314
      have E_b298 := E_b298.ext E314
      have F_low_b298 := F_low_b298.ext E314
      have F_high_b298 := F_high_b298.ext E314
      have T_x300 := T_x300.ext E314
      have CH := CH'
      have T_b314 : Str Z h314 b314 t314 kb314 ([97, 32, 119, 104, 111, 108, 101, 32, 110, 117, 109, 98, 101, 114, 32, 102, 114, 111, 109, 32] : List Int32) := ⟨Ea314, Fv314, Fc314, Va314⟩
      have ne_b298_b314 := (sf314 _ SF_b298).1
      have ne_b298_t314 := (sf314 _ SF_b298).2
      show Run p e below _ (T314.setTop (mkF m 113 #[.val (.int p0), .val (.int p1), .val (.int p2), .val (.int ub), .val (.int hh), .val (.ref x300), .val (.int (Int32.ofNat (SBG.digits nl + SBG.GetChars.sgn p0))), .val (.int (0 : Int32)), .val (.int (Int32.ofNat (((20 + (SBG.digits nl + SBG.GetChars.sgn p0)) + 4) + (SBG.digits nh + SBG.GetChars.sgn hh))))] [(.ref b314), (.int (0 : Int32)), (.ref x300)]))
      refine callSt X314 hx hZ hown (wd hw 197 rfl) (wd hw 198 rfl) (wd hw 185 rfl) (wd hw 199 rfl) (by decide) e314 (argsL := [(.ref x300), (.int (0 : Int32)), (.ref b314)]) (rest := []) (rm_lt l Z a0 hw [] zc fm x300 t300 kb300 (rcs p0 hh nl nh) 0 b314 t314 kb314 ([97, 32, 119, 104, 111, 108, 101, 32, 110, 117, 109, 98, 101, 114, 32, 102, 114, 111, 109, 32] : List Int32) h314 n0 O0 S_COMPACT_STRINGS hzc S_SIOOBE_FORMATTER hfm T_x300 T_b314 (rcs_in8 _ _ _ _) (rcs_le _ _ _ _) (show In8 ([97, 32, 119, 104, 111, 108, 101, 32, 110, 117, 109, 98, 101, 114, 32, 102, 114, 111, 109, 32] : List Int32) by unfold In8; decide) (by decide) (by have := rcs_ge p0 hh nl nh; show 0 + 20 ≤ _; omega) (fun j hj => rcs_a _ _ _ _ j hj)) (W := 0) (by decide) (by decide) (by decide) (by decide) (by rw [hml]; rfl) (lenOf pd_31 rfl) rfl (Nat.le_of_eq rfl) (hb hby at_113) ?_
      intro v316 T316 L316 h316 X316 e316 q316
      obtain ⟨rv, n316, k316⟩ := q316
      replace rv : v316 = some (.int (1 : Int32)) := rv
      subst rv
      have e316 := e316.trans k316
      have N316 := Fr.app N313 n316
      show Run p e below _ (T316.setTop (mkF m 116 #[.val (.int p0), .val (.int p1), .val (.int p2), .val (.int ub), .val (.int hh), .val (.ref x300), .val (.int (Int32.ofNat (SBG.digits nl + SBG.GetChars.sgn p0))), .val (.int (0 : Int32)), .val (.int (Int32.ofNat (((20 + (SBG.digits nl + SBG.GetChars.sgn p0)) + 4) + (SBG.digits nh + SBG.GetChars.sgn hh))))] [(.int (1 : Int32))]))
      refine go (fun _ => XS.ifYes X316.here hx rfl (pc0 := 116) (pc' := 121) rfl (hb hby at_116) rfl ((if0 _ _).trans (feq (by decide : ¬ ((1 : Int32) = 0))).2) (by decide) (by decide)) ?_
      show Run p e below _ (T316.setTop (mkF m 121 #[.val (.int p0), .val (.int p1), .val (.int p2), .val (.int ub), .val (.int hh), .val (.ref x300), .val (.int (Int32.ofNat (SBG.digits nl + SBG.GetChars.sgn p0))), .val (.int (0 : Int32)), .val (.int (Int32.ofNat (((20 + (SBG.digits nl + SBG.GetChars.sgn p0)) + 4) + (SBG.digits nh + SBG.GetChars.sgn hh))))] []))
      refine go (fun _ => XS.aload X316.here hx rfl (hb hby at_121) rfl rfl) ?_
      show Run p e below _ (T316.setTop (mkF m 123 #[.val (.int p0), .val (.int p1), .val (.int p2), .val (.int ub), .val (.int hh), .val (.ref x300), .val (.int (Int32.ofNat (SBG.digits nl + SBG.GetChars.sgn p0))), .val (.int (0 : Int32)), .val (.int (Int32.ofNat (((20 + (SBG.digits nl + SBG.GetChars.sgn p0)) + 4) + (SBG.digits nh + SBG.GetChars.sgn hh))))] [(.ref x300)]))
      refine go (fun _ => XS.bipush X316.here hx rfl (hb hby at_123)) ?_
      show Run p e below _ (T316.setTop (mkF m 125 #[.val (.int p0), .val (.int p1), .val (.int p2), .val (.int ub), .val (.int hh), .val (.ref x300), .val (.int (Int32.ofNat (SBG.digits nl + SBG.GetChars.sgn p0))), .val (.int (0 : Int32)), .val (.int (Int32.ofNat (((20 + (SBG.digits nl + SBG.GetChars.sgn p0)) + 4) + (SBG.digits nh + SBG.GetChars.sgn hh))))] [(.int (20 : Int32)), (.ref x300)]))
      refine go (fun _ => XS.iloadN X316.here hx rfl (hb hby at_125) rfl) ?_
      show Run p e below _ (T316.setTop (mkF m 126 #[.val (.int p0), .val (.int p1), .val (.int p2), .val (.int ub), .val (.int hh), .val (.ref x300), .val (.int (Int32.ofNat (SBG.digits nl + SBG.GetChars.sgn p0))), .val (.int (0 : Int32)), .val (.int (Int32.ofNat (((20 + (SBG.digits nl + SBG.GetChars.sgn p0)) + 4) + (SBG.digits nh + SBG.GetChars.sgn hh))))] [(.int p0), (.int (20 : Int32)), (.ref x300)]))
      refine callSt X316 hx hZ hown (wd hw 225 rfl) (wd hw 226 rfl) (wd hw 185 rfl) (wd hw 227 rfl) (by decide) e316 (argsL := [(.ref x300), (.int (20 : Int32)), (.int p0)]) (rest := []) (rm_nm l Z a0 hw [] zc fm x300 t300 kb300 (rcs p0 hh nl nh) 20 p0 nl h314 n0 O0 S_COMPACT_STRINGS hzc S_SIOOBE_FORMATTER hfm T_x300 (rcs_in8 _ _ _ _) (rcs_le _ _ _ _) hn1 hx1 (by rw [decI_len]; have := rcs_ge p0 hh nl nh; omega) (fun j hj => rcs_b _ _ _ _ j hj)) (W := 0) (by decide) (by decide) (by decide) (by decide) (by rw [hml]; rfl) (lenOf pd_32 rfl) rfl (Nat.le_of_eq rfl) (hb hby at_126) ?_
      intro v317 T317 L317 h317 X317 e317 q317
      obtain ⟨rfl, n317, K317⟩ := q317
      have CHo := CH
      have SF_b298o := SF_b298
      have hk := Nat.le_trans hk K317.1
      have O0 := O0.keep K317 all0
      have SF_b298 := Safe.keep K317 all0 CHo.1 SF_b298o
      have CH := CHo.trans (CHr.keep K317 all0 CHo.1)
      have E_b298 := E_b298.keep K317
      have F_low_b298 := F_low_b298.keep K317 nin0
      have F_high_b298 := F_high_b298.keep K317 nin0
      have T_x300 := T_x300.keep K317 nin0 nin0
      have T_b314 := T_b314.keep K317 nin0 nin0
      have N317 := Fr.app N316 n317
      show Run p e below _ (T317.setTop (mkF m 129 #[.val (.int p0), .val (.int p1), .val (.int p2), .val (.int ub), .val (.int hh), .val (.ref x300), .val (.int (Int32.ofNat (SBG.digits nl + SBG.GetChars.sgn p0))), .val (.int (0 : Int32)), .val (.int (Int32.ofNat (((20 + (SBG.digits nl + SBG.GetChars.sgn p0)) + 4) + (SBG.digits nh + SBG.GetChars.sgn hh))))] [(.int (1 : Int32))]))
      refine go (fun _ => XS.ifYes X317.here hx rfl (pc0 := 129) (pc' := 134) rfl (hb hby at_129) rfl ((if0 _ _).trans (feq (by decide : ¬ ((1 : Int32) = 0))).2) (by decide) (by decide)) ?_
      show Run p e below _ (T317.setTop (mkF m 134 #[.val (.int p0), .val (.int p1), .val (.int p2), .val (.int ub), .val (.int hh), .val (.ref x300), .val (.int (Int32.ofNat (SBG.digits nl + SBG.GetChars.sgn p0))), .val (.int (0 : Int32)), .val (.int (Int32.ofNat (((20 + (SBG.digits nl + SBG.GetChars.sgn p0)) + 4) + (SBG.digits nh + SBG.GetChars.sgn hh))))] []))
      refine go (fun _ => XS.iload X317.here hx rfl (hb hby at_134) rfl) ?_
      show Run p e below _ (T317.setTop (mkF m 136 #[.val (.int p0), .val (.int p1), .val (.int p2), .val (.int ub), .val (.int hh), .val (.ref x300), .val (.int (Int32.ofNat (SBG.digits nl + SBG.GetChars.sgn p0))), .val (.int (0 : Int32)), .val (.int (Int32.ofNat (((20 + (SBG.digits nl + SBG.GetChars.sgn p0)) + 4) + (SBG.digits nh + SBG.GetChars.sgn hh))))] [(.int (0 : Int32))]))
      refine go (fun _ => XS.ifYes X317.here hx rfl (pc0 := 136) (pc' := 152) rfl (hb hby at_136) rfl ((if0 _ _).trans (teq (by decide : (0 : Int32) = 0)).1) (by decide) (by decide)) ?_
      show Run p e below _ (T317.setTop (mkF m 152 #[.val (.int p0), .val (.int p1), .val (.int p2), .val (.int ub), .val (.int hh), .val (.ref x300), .val (.int (Int32.ofNat (SBG.digits nl + SBG.GetChars.sgn p0))), .val (.int (0 : Int32)), .val (.int (Int32.ofNat (((20 + (SBG.digits nl + SBG.GetChars.sgn p0)) + 4) + (SBG.digits nh + SBG.GetChars.sgn hh))))] []))
      refine go (fun _ => XS.aload X317.here hx rfl (hb hby at_152) rfl rfl) ?_
      show Run p e below _ (T317.setTop (mkF m 154 #[.val (.int p0), .val (.int p1), .val (.int p2), .val (.int ub), .val (.int hh), .val (.ref x300), .val (.int (Int32.ofNat (SBG.digits nl + SBG.GetChars.sgn p0))), .val (.int (0 : Int32)), .val (.int (Int32.ofNat (((20 + (SBG.digits nl + SBG.GetChars.sgn p0)) + 4) + (SBG.digits nh + SBG.GetChars.sgn hh))))] [(.ref x300)]))
      refine go (fun _ => XS.bipush X317.here hx rfl (hb hby at_154)) ?_
      show Run p e below _ (T317.setTop (mkF m 156 #[.val (.int p0), .val (.int p1), .val (.int p2), .val (.int ub), .val (.int hh), .val (.ref x300), .val (.int (Int32.ofNat (SBG.digits nl + SBG.GetChars.sgn p0))), .val (.int (0 : Int32)), .val (.int (Int32.ofNat (((20 + (SBG.digits nl + SBG.GetChars.sgn p0)) + 4) + (SBG.digits nh + SBG.GetChars.sgn hh))))] [(.int (20 : Int32)), (.ref x300)]))
      refine go (fun _ => XS.iload X317.here hx rfl (hb hby at_156) rfl) ?_
      show Run p e below _ (T317.setTop (mkF m 158 #[.val (.int p0), .val (.int p1), .val (.int p2), .val (.int ub), .val (.int hh), .val (.ref x300), .val (.int (Int32.ofNat (SBG.digits nl + SBG.GetChars.sgn p0))), .val (.int (0 : Int32)), .val (.int (Int32.ofNat (((20 + (SBG.digits nl + SBG.GetChars.sgn p0)) + 4) + (SBG.digits nh + SBG.GetChars.sgn hh))))] [(.int (Int32.ofNat (SBG.digits nl + SBG.GetChars.sgn p0))), (.int (20 : Int32)), (.ref x300)]))
      refine go (fun _ => XS.iadd X317.here hx rfl (hb hby at_158) rfl) ?_
      rw [own_addl20]
      show Run p e below _ (T317.setTop (mkF m 159 #[.val (.int p0), .val (.int p1), .val (.int p2), .val (.int ub), .val (.int hh), .val (.ref x300), .val (.int (Int32.ofNat (SBG.digits nl + SBG.GetChars.sgn p0))), .val (.int (0 : Int32)), .val (.int (Int32.ofNat (((20 + (SBG.digits nl + SBG.GetChars.sgn p0)) + 4) + (SBG.digits nh + SBG.GetChars.sgn hh))))] [(.int (Int32.ofNat (20 + (SBG.digits nl + SBG.GetChars.sgn p0)))), (.ref x300)]))
      have lt319_b298 := E_b298.lt
      have lt319_x300 := T_x300.1.lt
      have lt319_t300 := T_x300.2.2.2.lt
      have lt319_b314 := T_b314.1.lt
      have lt319_t314 := T_b314.2.2.2.lt
      refine goLdc (text := " to ") (ds := ([32, 116, 111, 32] : List Int32)) X317 hx hZ hown (wd hw 244 rfl) (fun d hd => hw d (subStr d hd)) e317 hS hk hEL (by decide) CH ⟨by decide, by decide⟩ (by decide) (by decide) (n := 16) (hb hby at_159) (by decide) (by decide) (by decide) (by decide) ?_
      intro b318 t318 kb318 T318 h318 k318 X318 e318 E318 hS hk hZ hown Ea318 Fc318 Fv318 Va318 CH' D318 sf318
      have SF_b298 := CHr.safe D318 lt319_b298 SF_b298
      have O0 := O0.ext E318
      have E_b298 := E_b298.ext E318
      have F_low_b298 := F_low_b298.ext E318
      have F_high_b298 := F_high_b298.ext E318
      have T_x300 := T_x300.ext E318
      have T_b314 := T_b314.ext E318
      have CH := CH'
      have T_b318 : Str Z h318 b318 t318 kb318 ([32, 116, 111, 32] : List Int32) := ⟨Ea318, Fv318, Fc318, Va318⟩
      have ne_b298_b318 := (sf318 _ SF_b298).1
      have ne_b298_t318 := (sf318 _ SF_b298).2
      show Run p e below _ (T318.setTop (mkF m 161 #[.val (.int p0), .val (.int p1), .val (.int p2), .val (.int ub), .val (.int hh), .val (.ref x300), .val (.int (Int32.ofNat (SBG.digits nl + SBG.GetChars.sgn p0))), .val (.int (0 : Int32)), .val (.int (Int32.ofNat (((20 + (SBG.digits nl + SBG.GetChars.sgn p0)) + 4) + (SBG.digits nh + SBG.GetChars.sgn hh))))] [(.ref b318), (.int (Int32.ofNat (20 + (SBG.digits nl + SBG.GetChars.sgn p0)))), (.ref x300)]))
      refine callSt X318 hx hZ hown (wd hw 197 rfl) (wd hw 198 rfl) (wd hw 185 rfl) (wd hw 199 rfl) (by decide) e318 (argsL := [(.ref x300), (.int (Int32.ofNat (20 + (SBG.digits nl + SBG.GetChars.sgn p0)))), (.ref b318)]) (rest := []) (rm_lt l Z a0 hw [] zc fm x300 t300 kb300 (rcs p0 hh nl nh) (20 + (SBG.digits nl + SBG.GetChars.sgn p0)) b318 t318 kb318 ([32, 116, 111, 32] : List Int32) h318 n0 O0 S_COMPACT_STRINGS hzc S_SIOOBE_FORMATTER hfm T_x300 T_b318 (rcs_in8 _ _ _ _) (rcs_le _ _ _ _) (show In8 ([32, 116, 111, 32] : List Int32) by unfold In8; decide) (by decide) (by rw [rcs_lt c303]; show _ + 4 ≤ _; omega) (fun j hj => rcs_d c303 j hj)) (W := 0) (by decide) (by decide) (by decide) (by decide) (by rw [hml]; rfl) (lenOf pd_31 rfl) rfl (Nat.le_of_eq rfl) (hb hby at_161) ?_
      intro v320 T320 L320 h320 X320 e320 q320
      obtain ⟨rv, n320, k320⟩ := q320
      replace rv : v320 = some (.int (1 : Int32)) := rv
      subst rv
      have e320 := e320.trans k320
      have N320 := Fr.app N317 n320
      show Run p e below _ (T320.setTop (mkF m 164 #[.val (.int p0), .val (.int p1), .val (.int p2), .val (.int ub), .val (.int hh), .val (.ref x300), .val (.int (Int32.ofNat (SBG.digits nl + SBG.GetChars.sgn p0))), .val (.int (0 : Int32)), .val (.int (Int32.ofNat (((20 + (SBG.digits nl + SBG.GetChars.sgn p0)) + 4) + (SBG.digits nh + SBG.GetChars.sgn hh))))] [(.int (1 : Int32))]))
      refine go (fun _ => XS.ifNo X320.here hx rfl (hb hby at_164) rfl ((if0 _ _).trans (feq (by decide : ¬ ((1 : Int32) = 0))).1)) ?_
      show Run p e below _ (T320.setTop (mkF m 167 #[.val (.int p0), .val (.int p1), .val (.int p2), .val (.int ub), .val (.int hh), .val (.ref x300), .val (.int (Int32.ofNat (SBG.digits nl + SBG.GetChars.sgn p0))), .val (.int (0 : Int32)), .val (.int (Int32.ofNat (((20 + (SBG.digits nl + SBG.GetChars.sgn p0)) + 4) + (SBG.digits nh + SBG.GetChars.sgn hh))))] []))
      refine go (fun _ => XS.aload X320.here hx rfl (hb hby at_167) rfl rfl) ?_
      show Run p e below _ (T320.setTop (mkF m 169 #[.val (.int p0), .val (.int p1), .val (.int p2), .val (.int ub), .val (.int hh), .val (.ref x300), .val (.int (Int32.ofNat (SBG.digits nl + SBG.GetChars.sgn p0))), .val (.int (0 : Int32)), .val (.int (Int32.ofNat (((20 + (SBG.digits nl + SBG.GetChars.sgn p0)) + 4) + (SBG.digits nh + SBG.GetChars.sgn hh))))] [(.ref x300)]))
      refine go (fun _ => XS.bipush X320.here hx rfl (hb hby at_169)) ?_
      show Run p e below _ (T320.setTop (mkF m 171 #[.val (.int p0), .val (.int p1), .val (.int p2), .val (.int ub), .val (.int hh), .val (.ref x300), .val (.int (Int32.ofNat (SBG.digits nl + SBG.GetChars.sgn p0))), .val (.int (0 : Int32)), .val (.int (Int32.ofNat (((20 + (SBG.digits nl + SBG.GetChars.sgn p0)) + 4) + (SBG.digits nh + SBG.GetChars.sgn hh))))] [(.int (24 : Int32)), (.ref x300)]))
      refine go (fun _ => XS.iload X320.here hx rfl (hb hby at_171) rfl) ?_
      show Run p e below _ (T320.setTop (mkF m 173 #[.val (.int p0), .val (.int p1), .val (.int p2), .val (.int ub), .val (.int hh), .val (.ref x300), .val (.int (Int32.ofNat (SBG.digits nl + SBG.GetChars.sgn p0))), .val (.int (0 : Int32)), .val (.int (Int32.ofNat (((20 + (SBG.digits nl + SBG.GetChars.sgn p0)) + 4) + (SBG.digits nh + SBG.GetChars.sgn hh))))] [(.int (Int32.ofNat (SBG.digits nl + SBG.GetChars.sgn p0))), (.int (24 : Int32)), (.ref x300)]))
      refine go (fun _ => XS.iadd X320.here hx rfl (hb hby at_173) rfl) ?_
      rw [own_addl24]
      show Run p e below _ (T320.setTop (mkF m 174 #[.val (.int p0), .val (.int p1), .val (.int p2), .val (.int ub), .val (.int hh), .val (.ref x300), .val (.int (Int32.ofNat (SBG.digits nl + SBG.GetChars.sgn p0))), .val (.int (0 : Int32)), .val (.int (Int32.ofNat (((20 + (SBG.digits nl + SBG.GetChars.sgn p0)) + 4) + (SBG.digits nh + SBG.GetChars.sgn hh))))] [(.int (Int32.ofNat (24 + (SBG.digits nl + SBG.GetChars.sgn p0)))), (.ref x300)]))
      refine go (fun _ => XS.iload X320.here hx rfl (hb hby at_174) rfl) ?_
      show Run p e below _ (T320.setTop (mkF m 176 #[.val (.int p0), .val (.int p1), .val (.int p2), .val (.int ub), .val (.int hh), .val (.ref x300), .val (.int (Int32.ofNat (SBG.digits nl + SBG.GetChars.sgn p0))), .val (.int (0 : Int32)), .val (.int (Int32.ofNat (((20 + (SBG.digits nl + SBG.GetChars.sgn p0)) + 4) + (SBG.digits nh + SBG.GetChars.sgn hh))))] [(.int hh), (.int (Int32.ofNat (24 + (SBG.digits nl + SBG.GetChars.sgn p0)))), (.ref x300)]))
      refine callSt X320 hx hZ hown (wd hw 225 rfl) (wd hw 226 rfl) (wd hw 185 rfl) (wd hw 227 rfl) (by decide) e320 (argsL := [(.ref x300), (.int (Int32.ofNat (24 + (SBG.digits nl + SBG.GetChars.sgn p0)))), (.int hh)]) (rest := []) (rm_nm l Z a0 hw [] zc fm x300 t300 kb300 (rcs p0 hh nl nh) (24 + (SBG.digits nl + SBG.GetChars.sgn p0)) hh nh h318 n0 O0 S_COMPACT_STRINGS hzc S_SIOOBE_FORMATTER hfm T_x300 (rcs_in8 _ _ _ _) (rcs_le _ _ _ _) hn2 hx2 (by rw [decI_len, rcs_lt c303]; omega) (fun j _ => rcs_e c303 j)) (W := 0) (by decide) (by decide) (by decide) (by decide) (by rw [hml]; rfl) (lenOf pd_32 rfl) rfl (Nat.le_of_eq rfl) (hb hby at_176) ?_
      intro v321 T321 L321 h321 X321 e321 q321
      obtain ⟨rfl, n321, K321⟩ := q321
      have CHo := CH
      have SF_b298o := SF_b298
      have hk := Nat.le_trans hk K321.1
      have O0 := O0.keep K321 all0
      have SF_b298 := Safe.keep K321 all0 CHo.1 SF_b298o
      have CH := CHo.trans (CHr.keep K321 all0 CHo.1)
      have E_b298 := E_b298.keep K321
      have F_low_b298 := F_low_b298.keep K321 nin0
      have F_high_b298 := F_high_b298.keep K321 nin0
      have T_x300 := T_x300.keep K321 nin0 nin0
      have T_b314 := T_b314.keep K321 nin0 nin0
      have T_b318 := T_b318.keep K321 nin0 nin0
      have N321 := Fr.app N320 n321
      show Run p e below _ (T321.setTop (mkF m 179 #[.val (.int p0), .val (.int p1), .val (.int p2), .val (.int ub), .val (.int hh), .val (.ref x300), .val (.int (Int32.ofNat (SBG.digits nl + SBG.GetChars.sgn p0))), .val (.int (0 : Int32)), .val (.int (Int32.ofNat (((20 + (SBG.digits nl + SBG.GetChars.sgn p0)) + 4) + (SBG.digits nh + SBG.GetChars.sgn hh))))] [(.int (1 : Int32))]))
      refine go (fun _ => XS.ifNo X321.here hx rfl (hb hby at_179) rfl ((if0 _ _).trans (feq (by decide : ¬ ((1 : Int32) = 0))).1)) ?_
      show Run p e below _ (T321.setTop (mkF m 182 #[.val (.int p0), .val (.int p1), .val (.int p2), .val (.int ub), .val (.int hh), .val (.ref x300), .val (.int (Int32.ofNat (SBG.digits nl + SBG.GetChars.sgn p0))), .val (.int (0 : Int32)), .val (.int (Int32.ofNat (((20 + (SBG.digits nl + SBG.GetChars.sgn p0)) + 4) + (SBG.digits nh + SBG.GetChars.sgn hh))))] []))
      refine go (fun _ => XS.iconst X321.here hx rfl (hb hby at_182)) ?_
      show Run p e below _ (T321.setTop (mkF m 183 #[.val (.int p0), .val (.int p1), .val (.int p2), .val (.int ub), .val (.int hh), .val (.ref x300), .val (.int (Int32.ofNat (SBG.digits nl + SBG.GetChars.sgn p0))), .val (.int (0 : Int32)), .val (.int (Int32.ofNat (((20 + (SBG.digits nl + SBG.GetChars.sgn p0)) + 4) + (SBG.digits nh + SBG.GetChars.sgn hh))))] [(.int (1 : Int32))]))
      refine go (fun _ => XS.goto X321.here hx rfl (pc0 := 183) (pc' := 187) rfl (hb hby at_183) (by decide) (by decide)) ?_
      show Run p e below _ (T321.setTop (mkF m 187 #[.val (.int p0), .val (.int p1), .val (.int p2), .val (.int ub), .val (.int hh), .val (.ref x300), .val (.int (Int32.ofNat (SBG.digits nl + SBG.GetChars.sgn p0))), .val (.int (0 : Int32)), .val (.int (Int32.ofNat (((20 + (SBG.digits nl + SBG.GetChars.sgn p0)) + 4) + (SBG.digits nh + SBG.GetChars.sgn hh))))] [(.int (1 : Int32))]))
      exact endNS X321 hx hlk hZ hEL e321 eS CH hS hk (t := .boolean) hret (by simp) (hb hby at_187) (⟨rfl, N321⟩) (by decide) (by decide)
  refine go (fun _ => XS.iloadN X0.here hx rfl (hb hby at_0) rfl) ?_
  show Run p e below _ (T0.setTop (mkF m 1 #[.val (.int p0), .val (.int p1), .val (.int p2), .unset, .unset, .unset, .unset, .unset, .unset] [(.int p2)]))
  refine go (fun _ => XS.iconst X0.here hx rfl (hb hby at_1)) ?_
  show Run p e below _ (T0.setTop (mkF m 2 #[.val (.int p0), .val (.int p1), .val (.int p2), .unset, .unset, .unset, .unset, .unset, .unset] [(.int (1 : Int32)), (.int p2)]))
  refine go (fun _ => XS.iand X0.here hx rfl (hb hby at_2) rfl) ?_
  show Run p e below _ (T0.setTop (mkF m 3 #[.val (.int p0), .val (.int p1), .val (.int p2), .unset, .unset, .unset, .unset, .unset, .unset] [(.int (p2 &&& (1 : Int32)))]))
  by_cases c322 : (p2 &&& (1 : Int32)) = 0
  · skip
    refine go (fun _ => XS.ifYes X0.here hx rfl (pc0 := 3) (pc' := 10) rfl (hb hby at_3) rfl ((if0 _ _).trans (teq c322).1) (by decide) (by decide)) ?_
    show Run p e below _ (T0.setTop (mkF m 10 #[.val (.int p0), .val (.int p1), .val (.int p2), .unset, .unset, .unset, .unset, .unset, .unset] []))
    refine go (fun _ => XS.iconst X0.here hx rfl (hb hby at_10)) ?_
    show Run p e below _ (T0.setTop (mkF m 11 #[.val (.int p0), .val (.int p1), .val (.int p2), .unset, .unset, .unset, .unset, .unset, .unset] [(.int (0 : Int32))]))
    refine go (fun _ => XS.istoreN X0.here hx rfl (hb hby at_11) rfl (l' := #[.val (.int p0), .val (.int p1), .val (.int p2), .val (.int (0 : Int32)), .unset, .unset, .unset, .unset, .unset]) rfl) ?_
    show Run p e below _ (T0.setTop (mkF m 12 #[.val (.int p0), .val (.int p1), .val (.int p2), .val (.int (0 : Int32)), .unset, .unset, .unset, .unset, .unset] []))
    refine go (fun _ => XS.iloadN X0.here hx rfl (hb hby at_12) rfl) ?_
    show Run p e below _ (T0.setTop (mkF m 13 #[.val (.int p0), .val (.int p1), .val (.int p2), .val (.int (0 : Int32)), .unset, .unset, .unset, .unset, .unset] [(.int (0 : Int32))]))
    refine go (fun _ => XS.ifYes X0.here hx rfl (pc0 := 13) (pc' := 21) rfl (hb hby at_13) rfl ((if0 _ _).trans (teq (by decide : (0 : Int32) = 0)).1) (by decide) (by decide)) ?_
    show Run p e below _ (T0.setTop (mkF m 21 #[.val (.int p0), .val (.int p1), .val (.int p2), .val (.int (0 : Int32)), .unset, .unset, .unset, .unset, .unset] []))
    refine go (fun _ => XS.iloadN X0.here hx rfl (hb hby at_21) rfl) ?_
    show Run p e below _ (T0.setTop (mkF m 22 #[.val (.int p0), .val (.int p1), .val (.int p2), .val (.int (0 : Int32)), .unset, .unset, .unset, .unset, .unset] [(.int p1)]))
    refine go (fun _ => XS.istore X0.here hx rfl (hb hby at_22) rfl (l' := #[.val (.int p0), .val (.int p1), .val (.int p2), .val (.int (0 : Int32)), .val (.int p1), .unset, .unset, .unset, .unset]) rfl) ?_
    show Run p e below _ (T0.setTop (mkF m 24 #[.val (.int p0), .val (.int p1), .val (.int p2), .val (.int (0 : Int32)), .val (.int p1), .unset, .unset, .unset, .unset] []))
    exact J24 _ _ X0 e0 N0 (0 : Int32) p1  
  · skip
    refine go (fun _ => XS.ifNo X0.here hx rfl (hb hby at_3) rfl ((if0 _ _).trans (feq c322).1)) ?_
    show Run p e below _ (T0.setTop (mkF m 6 #[.val (.int p0), .val (.int p1), .val (.int p2), .unset, .unset, .unset, .unset, .unset, .unset] []))
    refine go (fun _ => XS.iconst X0.here hx rfl (hb hby at_6)) ?_
    show Run p e below _ (T0.setTop (mkF m 7 #[.val (.int p0), .val (.int p1), .val (.int p2), .unset, .unset, .unset, .unset, .unset, .unset] [(.int (1 : Int32))]))
    refine go (fun _ => XS.goto X0.here hx rfl (pc0 := 7) (pc' := 11) rfl (hb hby at_7) (by decide) (by decide)) ?_
    show Run p e below _ (T0.setTop (mkF m 11 #[.val (.int p0), .val (.int p1), .val (.int p2), .unset, .unset, .unset, .unset, .unset, .unset] [(.int (1 : Int32))]))
    refine go (fun _ => XS.istoreN X0.here hx rfl (hb hby at_11) rfl (l' := #[.val (.int p0), .val (.int p1), .val (.int p2), .val (.int (1 : Int32)), .unset, .unset, .unset, .unset, .unset]) rfl) ?_
    show Run p e below _ (T0.setTop (mkF m 12 #[.val (.int p0), .val (.int p1), .val (.int p2), .val (.int (1 : Int32)), .unset, .unset, .unset, .unset, .unset] []))
    refine go (fun _ => XS.iloadN X0.here hx rfl (hb hby at_12) rfl) ?_
    show Run p e below _ (T0.setTop (mkF m 13 #[.val (.int p0), .val (.int p1), .val (.int p2), .val (.int (1 : Int32)), .unset, .unset, .unset, .unset, .unset] [(.int (1 : Int32))]))
    refine go (fun _ => XS.ifNo X0.here hx rfl (hb hby at_13) rfl ((if0 _ _).trans (feq (by decide : ¬ ((1 : Int32) = 0))).1)) ?_
    show Run p e below _ (T0.setTop (mkF m 16 #[.val (.int p0), .val (.int p1), .val (.int p2), .val (.int (1 : Int32)), .unset, .unset, .unset, .unset, .unset] []))
    refine go (fun _ => X0.ldcI hx hown (mvT hZ (wd hw 194 rfl)) rfl (hb hby at_16)) ?_
    show Run p e below _ (T0.setTop (mkF m 18 #[.val (.int p0), .val (.int p1), .val (.int p2), .val (.int (1 : Int32)), .unset, .unset, .unset, .unset, .unset] [(.int (2147483647 : Int32))]))
    refine go (fun _ => XS.goto X0.here hx rfl (pc0 := 18) (pc' := 22) rfl (hb hby at_18) (by decide) (by decide)) ?_
    show Run p e below _ (T0.setTop (mkF m 22 #[.val (.int p0), .val (.int p1), .val (.int p2), .val (.int (1 : Int32)), .unset, .unset, .unset, .unset, .unset] [(.int (2147483647 : Int32))]))
    refine go (fun _ => XS.istore X0.here hx rfl (hb hby at_22) rfl (l' := #[.val (.int p0), .val (.int p1), .val (.int p2), .val (.int (1 : Int32)), .val (.int (2147483647 : Int32)), .unset, .unset, .unset, .unset]) rfl) ?_
    show Run p e below _ (T0.setTop (mkF m 24 #[.val (.int p0), .val (.int p1), .val (.int p2), .val (.int (1 : Int32)), .val (.int (2147483647 : Int32)), .unset, .unset, .unset, .unset] []))
    exact J24 _ _ X0 e0 N0 (1 : Int32) (2147483647 : Int32)  
set_option maxRecDepth 65536 in
set_option maxHeartbeats 40000000 in
theorem comes_1 {Post : Tables → Env → Array Value → State → Outcome → State → Prop} (hpost : ∀ tb e args s v u, (limb_1_1.after args s (.returned v) u = true ∧ limb_1_2.after args s (.returned v) u = true ∧ True) → FramedW s (.returned v) u (Jvm.fieldLocs frame_1_writes args s ++ Jvm.arrayLocs frame_1_arrays args s ++ Jvm.staticLocs frame_1_statics s) 88 7104 → Post tb e args s (.returned v) u) :
    ArmFor flags0 classFile x code maxLocals ret World_1 tables_1 room_1 Calls_1 rest_1 Pre_1 Post := by
  intro l hfl _ _ p e ha hc hk s m args below hf hA hF happ hP
  obtain ⟨hcalls, hrest, hpre⟩ := hP
  obtain ⟨-, -, -, hnamed, -, -, -, hat⟩ := (Spec.applies_iff hf).mp happ
  obtain ⟨hg, hn⟩ := and_e (Cond.before_iff.mp (show (Jvm.Cond.and given_1 narrow_1).before args s = true from hpre))
  obtain ⟨h1, hg⟩ := and_e hg
  obtain ⟨g0, hg⟩ := and_e hg
  obtain ⟨g1, hg⟩ := and_e hg
  have g2 := hg
  obtain ⟨w0, w1, w2, rfl⟩ : ∃ w0 w1 w2 : Value, args = #[w0, w1, w2] := by
    have hs : args.size = 3 := by simpa [Cond.value, given_1] using h1
    obtain ⟨L⟩ := args
    match L, hs with
    | [w0, w1, w2], _ => exact ⟨w0, w1, w2, rfl⟩
  have hw := fun d (hd : d ∈ tables_1) => atoms_spec (ws := Jvm.Cond.code x code maxLocals ret :: tables_1) hat d (List.mem_cons_of_mem _ hd)
  obtain ⟨hsets, hown0⟩ := atoms_of _ (rest_1_c_eq ▸ (show rest_1_c.before _ s = true from hrest))
  have hr0 := Cond.before_iff.mp hown0
  have hfit : Fit s := fun {y c} hc i hi => by
    obtain ⟨ha, rfl⟩ := Array.getElem?_eq_some_iff.mp hc
    have q := List.all_eq_true.mp ((Array.all_eq_true_iff_forall_mem.mp hF) _ (Array.getElem_mem ha)) i (List.mem_range.mpr hi)
    simpa [Array.getElem?_eq_getElem hi] using q
  obtain ⟨i0, ev0⟩ := is_v g0
  obtain rfl : w0 = (.int i0) := Option.some.inj ev0
  obtain ⟨i1, ev1⟩ := is_v g1
  obtain rfl : w1 = (.int i1) := Option.some.inj ev1
  obtain ⟨i2, ev2⟩ := is_v g2
  obtain rfl : w2 = (.int i2) := Option.some.inj ev2
  have hnz := not_v (Cond.before_iff.mp (hsets _ (List.mem_of_getElem? (i := 2) rfl)))
  obtain ⟨zc, ezc⟩ := is_v (Cond.before_iff.mp (hsets _ (List.mem_of_getElem? (i := 1) rfl)))
  have S_COMPACT_STRINGS := Sta.start ezc (Or.inl (hsets _ (List.mem_of_getElem? (i := 0) rfl)))
  have hzc : ¬ (zc = (0 : Int32)) := gotF (Cond.eq_ints ezc (Term.int_eval (0))) hnz
  obtain ⟨fm, efm, hfm⟩ := isR_v (Cond.before_iff.mp (hsets _ (List.mem_of_getElem? (i := 8) rfl)))
  have S_SIOOBE_FORMATTER := Sta.start efm (Or.inl (hsets _ (List.mem_of_getElem? (i := 7) rfl)))
  obtain ⟨nl, hn1, hx1⟩ := SBG.negI_of i0
  obtain ⟨st, d1, D1, d2, D2, D⟩ := own_Dg hfit (wd hw 133 rfl) (wd hw 38 rfl) (hsets _ (List.mem_of_getElem? (i := 10) rfl)) (hsets _ (List.mem_of_getElem? (i := 12) rfl)) (hsets _ (List.mem_of_getElem? (i := 13) rfl)) (hsets _ (List.mem_of_getElem? (i := 14) rfl)) (hsets _ (List.mem_of_getElem? (i := 15) rfl)) (hsets _ (List.mem_of_getElem? (i := 17) rfl)) (hsets _ (List.mem_of_getElem? (i := 18) rfl)) (hsets _ (List.mem_of_getElem? (i := 19) rfl))
  have hEL : EW s _ consts_1 := (EW.cons (wd hw 43 rfl) (by decide) (EW.cons (wd hw 245 rfl) (by decide) (EW.cons (wd hw 145 rfl) (by decide) (EW.cons (wd hw 196 rfl) (by decide) (EW.cons (wd hw 246 rfl) (by decide) (EW.cons (wd hw 244 rfl) (by decide) EW.nil))))))
  have hCH := CHv.start hEL (fun p hp => hcalls.1 p hp) (hsets _ (List.mem_of_getElem? (i := 2) rfl)) (wd hw 38 rfl) (wd hw 44 rfl)
  obtain ⟨n, o, h1, h2, h3, _, L, rfl, ⟨rfl, N⟩, -, hq⟩ := rmlaw l s _ hw tables_1 i0 i1 i2 zc fm nl st d1 D1 d2 D2 s.heap s.heap.size (Old.start s) hEL S_COMPACT_STRINGS hzc S_SIOOBE_FORMATTER hfm hn1 hx1 D p e ha hc hk s m _ below hf ((Spec.applies_iff_loose hf).mp happ).1 ⟨rfl, State.Warmed39.refl s, rfl, hCH, fun _ q => by cases q⟩ trivial
  refine ⟨n, _, h1, h2, h3, hpost _ _ _ _ _ _ ⟨Cond.after_iff.mpr rfl, Cond.after_iff.mpr (eq_i res_at (Term.int_eval (1)) rfl), trivial⟩ ⟨hq.1, hq.2.1, hq.2.2.1, (hq.2.2.2.sift fun y hy => Or.inr (N y hy)).mono (by decide) (by decide)⟩⟩
theorem main_1_1 : Claimed_1_1 := comes_1 fun _ _ _ _ _ _ h hF => ⟨h.1, hF⟩
theorem main_1_2 : Claimed_1_2 := comes_1 fun _ _ _ _ _ _ h hF => ⟨h.2.1, hF⟩
end Jvm.Pilot.@@N@@
namespace Jvm.Pilot.@@N@@
open Jvm Jvm.ClassFile Sem Op Lib Jvm.Free Jvm.Stand Jvm.Pilot.@@N@@.Jvm.D
/-! MADE BY PROGRAM (witnessworld.py) out of the Statement's table words and the real class files: 29 classes; the members and pool entries that the words name. The judged class is class 1, her method 1. -/
namespace start1
open Jvm.ClassFile
def u (s : String) : CpInfo := .utf8 (stringToUtf16 s)
/-- a pool by its gaps: so many unusable entries, then the entry; so many at the end -/
def gap : Nat → List CpInfo → List CpInfo
  | 0, r => r
  | n + 1, r => .unusable :: gap n r
def poolList (es : List (Nat × CpInfo)) (last : Nat) : List CpInfo := es.foldr (fun e r => gap e.1 (e.2 :: r)) (gap last [])
def pool (es : List (Nat × CpInfo)) (last : Nat) : Array CpInfo := ⟨poolList es last⟩
def fileOf (pool : Array CpInfo) (this : Nat) (attrs : Array Attribute := #[]) (ms : Array MethodInfo := #[]) (fl : Nat := 33) (sup : Nat := 0) (ifs : Array Nat := #[]) (fds : Array FieldInfo := #[]) : ClassFile where
  minorVersion := 0
  majorVersion := 65
  constantPool := pool
  accessFlags := fl
  thisClass := this
  superClass := sup
  interfaces := ifs
  fields := fds
  methods := ms
  attributes := attrs
def plain (name : String) (sup : Option ClassId) : Class where
  name := name
  kind := .ordinary
  loader := none
  accessFlags := 33
  super := sup
  interfaces := #[]
  cf := none
  fields := #[]
  methods := #[]
  instanceTypes := #[]
  staticTypes := #[]
  resolved := #[]
  callSites := []
  init := .initialized
  statics := none
  mirror := none

def pool0 : Array CpInfo := pool [(5, u "<init>"), (0, u "()V"), (1, .class_ 10), (1, u "java/lang/Object"), (85, u "clone"), (0, u "()Ljava/lang/Object;")] 26

def k0c0 : Code := { maxStack := 0, maxLocals := 1, code := object_method_1_code, exceptionTable := #[], attributes := #[] }
def k0m0 : Method := { name := "<init>", desc := "()V", sig := { parameters := [], returnType := none }, accessFlags := 1, code := some k0c0 }
def k0m1 : Method := { name := "clone", desc := "()Ljava/lang/Object;", sig := { parameters := [], returnType := some (.object "java/lang/Object") }, accessFlags := 260, code := none }
/-- java/lang/Object -/
def k0 : Class := { plain "java/lang/Object" none with
  accessFlags := 33
  interfaces := #[]
  cf := some (fileOf pool0 8 #[] #[{ accessFlags := 1, nameIndex := 5, descriptorIndex := 6, attributes := #[] }, { accessFlags := 260, nameIndex := 96, descriptorIndex := 97, attributes := #[] }] 33 0 #[] #[])
  fields := #[]
  methods := #[k0m0, k0m1]
  instanceTypes := #[]
  staticTypes := #[]
  resolved := Array.replicate 124 none
  statics := none }

def pool1 : Array CpInfo := pool [(2, .class_ 4), (1, u "java/lang/Object"), (0, u "<init>"), (0, u "()V"), (2, .integer 2147483647), (0, .class_ 11), (0, u "com/example/visit_by_value/visitbyvalue/cli/OptionValue$WholeNumber"), (0, .methodref 10 13), (0, .nameAndType 5 14), (0, u "(II)V"), (0, .methodref 10 16), (0, .nameAndType 17 18), (0, u "range"), (0, u "()Ljava/lang/String;"), (0, .methodref 20 21), (0, .class_ 22), (0, .nameAndType 23 24), (0, u "com/example/visit_by_value/visitbyvalue/cli/WholeNumberRangePinLaw"), (0, u "width"), (0, u "(I)I"), (0, .methodref 26 27), (0, .class_ 28), (0, .nameAndType 29 30), (0, u "java/lang/String"), (0, u "length"), (0, u "()I"), (0, .string 32), (0, u "a whole number from "), (0, .methodref 20 34), (0, .nameAndType 35 36), (0, u "lit"), (0, u "(Ljava/lang/String;ILjava/lang/String;)Z"), (0, .methodref 20 38), (0, .nameAndType 39 40), (0, u "num"), (0, u "(Ljava/lang/String;II)Z"), (0, .string 42), (0, u " up"), (0, .string 44), (0, u " to "), (0, .long 10), (1, .long 100), (1, .long 1000), (1, .long 10000), (1, .long 100000), (1, .long 1000000), (1, .long 10000000), (1, .long 100000000), (1, .long 1000000000), (1, .methodref 64 65), (0, .class_ 66), (0, .nameAndType 67 68), (0, u "java/lang/Math"), (0, u "abs"), (0, u "(J)J"), (0, .methodref 20 70), (0, .nameAndType 71 72), (0, u "ndig"), (0, u "(J)I"), (0, .methodref 20 74), (0, .nameAndType 75 76), (0, u "pow"), (0, u "(I)J"), (0, .methodref 26 78), (0, .nameAndType 79 80), (0, u "charAt"), (0, u "(I)C"), (0, .long 48), (1, .methodref 20 84), (0, .nameAndType 85 86), (0, u "d"), (0, u "(Ljava/lang/String;IJII)Z"), (0, .methodref 20 88), (0, .nameAndType 89 90), (0, u "c"), (0, u "(Ljava/lang/String;ILjava/lang/String;I)Z"), (2, u "law"), (0, u "(III)Z")] 7

def k1m0 : Method := { name := "<init>", desc := "()V", sig := { parameters := [], returnType := none }, accessFlags := 2, code := none }
def k1c1 : Code := { maxStack := 4, maxLocals := 9, code := code, exceptionTable := #[], attributes := #[] }
def k1m1 : Method := { name := "law", desc := "(III)Z", sig := { parameters := [.int, .int, .int], returnType := some .boolean }, accessFlags := 9, code := some k1c1 }
def k1c2 : Code := { maxStack := 4, maxLocals := 2, code := method_3_code, exceptionTable := #[], attributes := #[] }
def k1m2 : Method := { name := "ndig", desc := "(J)I", sig := { parameters := [.long], returnType := some .int }, accessFlags := 10, code := some k1c2 }
def k1c3 : Code := { maxStack := 3, maxLocals := 3, code := method_4_code, exceptionTable := #[], attributes := #[] }
def k1m3 : Method := { name := "width", desc := "(I)I", sig := { parameters := [.int], returnType := some .int }, accessFlags := 10, code := some k1c3 }
def k1c4 : Code := { maxStack := 5, maxLocals := 2, code := method_5_code, exceptionTable := #[], attributes := #[] }
def k1m4 : Method := { name := "pow", desc := "(I)J", sig := { parameters := [.int], returnType := some .long }, accessFlags := 10, code := some k1c4 }
def k1c5 : Code := { maxStack := 5, maxLocals := 8, code := method_6_code, exceptionTable := #[], attributes := #[] }
def k1m5 : Method := { name := "d", desc := "(Ljava/lang/String;IJII)Z", sig := { parameters := [(.object "java/lang/String"), .int, .long, .int, .int], returnType := some .boolean }, accessFlags := 10, code := some k1c5 }
def k1c6 : Code := { maxStack := 6, maxLocals := 7, code := method_7_code, exceptionTable := #[], attributes := #[] }
def k1m6 : Method := { name := "num", desc := "(Ljava/lang/String;II)Z", sig := { parameters := [(.object "java/lang/String"), .int, .int], returnType := some .boolean }, accessFlags := 10, code := some k1c6 }
def k1c7 : Code := { maxStack := 3, maxLocals := 4, code := method_8_code, exceptionTable := #[], attributes := #[] }
def k1m7 : Method := { name := "c", desc := "(Ljava/lang/String;ILjava/lang/String;I)Z", sig := { parameters := [(.object "java/lang/String"), .int, (.object "java/lang/String"), .int], returnType := some .boolean }, accessFlags := 10, code := some k1c7 }
def k1c8 : Code := { maxStack := 4, maxLocals := 3, code := method_9_code, exceptionTable := #[], attributes := #[] }
def k1m8 : Method := { name := "lit", desc := "(Ljava/lang/String;ILjava/lang/String;)Z", sig := { parameters := [(.object "java/lang/String"), .int, (.object "java/lang/String")], returnType := some .boolean }, accessFlags := 10, code := some k1c8 }
/-- com/example/visit_by_value/visitbyvalue/cli/WholeNumberRangePinLaw -/
def k1 : Class := { plain "com/example/visit_by_value/visitbyvalue/cli/WholeNumberRangePinLaw" (some 0) with
  accessFlags := 49
  interfaces := #[]
  cf := some (fileOf pool1 20 #[] #[{ accessFlags := 2, nameIndex := 5, descriptorIndex := 6, attributes := #[] }, { accessFlags := 9, nameIndex := 93, descriptorIndex := 94, attributes := #[] }, { accessFlags := 10, nameIndex := 71, descriptorIndex := 72, attributes := #[] }, { accessFlags := 10, nameIndex := 23, descriptorIndex := 24, attributes := #[] }, { accessFlags := 10, nameIndex := 75, descriptorIndex := 76, attributes := #[] }, { accessFlags := 10, nameIndex := 85, descriptorIndex := 86, attributes := #[] }, { accessFlags := 10, nameIndex := 39, descriptorIndex := 40, attributes := #[] }, { accessFlags := 10, nameIndex := 89, descriptorIndex := 90, attributes := #[] }, { accessFlags := 10, nameIndex := 35, descriptorIndex := 36, attributes := #[] }] 49 2 #[] #[])
  fields := #[]
  methods := #[k1m0, k1m1, k1m2, k1m3, k1m4, k1m5, k1m6, k1m7, k1m8]
  instanceTypes := #[]
  staticTypes := #[]
  resolved := Array.replicate 102 none
  statics := none }

def pool2 : Array CpInfo := pool [(1, .methodref 2 3), (0, .class_ 4), (0, .nameAndType 5 6), (0, u "java/lang/Object"), (0, u "<init>"), (0, u "()V"), (0, .class_ 8), (0, u "java/lang/Record")] 13

def k2c0 : Code := { maxStack := 1, maxLocals := 1, code := jdk_30_method_1_code, exceptionTable := #[], attributes := #[] }
def k2m0 : Method := { name := "<init>", desc := "()V", sig := { parameters := [], returnType := none }, accessFlags := 4, code := some k2c0 }
/-- java/lang/Record -/
def k2 : Class := { plain "java/lang/Record" (some 0) with
  accessFlags := 1057
  interfaces := #[]
  cf := some (fileOf pool2 7 #[] #[{ accessFlags := 4, nameIndex := 5, descriptorIndex := 6, attributes := #[] }] 1057 2 #[] #[])
  fields := #[]
  methods := #[k2m0]
  instanceTypes := #[]
  staticTypes := #[]
  resolved := Array.replicate 22 none
  statics := none }

def pool3 : Array CpInfo := pool [(16, .class_ 18), (1, u "com/example/visit_by_value/visitbyvalue/cli/OptionValue$Seconds"), (3, .class_ 24), (1, u "com/example/visit_by_value/visitbyvalue/cli/OptionValue"), (2, .class_ 28), (0, u "java/lang/Object"), (15, .class_ 45), (0, u "com/example/visit_by_value/visitbyvalue/cli/OptionValue$DecimalNumber"), (0, .class_ 47), (0, u "com/example/visit_by_value/visitbyvalue/cli/OptionValue$WholeNumber"), (0, .class_ 49), (0, u "com/example/visit_by_value/visitbyvalue/cli/OptionValue$Text"), (0, .class_ 51), (0, u "com/example/visit_by_value/visitbyvalue/cli/OptionValue$Flag")] 7

/-- com/example/visit_by_value/visitbyvalue/cli/OptionValue -/
def k3 : Class := { plain "com/example/visit_by_value/visitbyvalue/cli/OptionValue" (some 0) with
  accessFlags := 1536
  interfaces := #[]
  cf := some (fileOf pool3 22 #[.nestMembers #[16, 44, 46, 48, 50]] #[] 1536 27 #[] #[])
  fields := #[]
  methods := #[]
  instanceTypes := #[]
  staticTypes := #[]
  resolved := Array.replicate 59 none
  statics := none }

def pool4 : Array CpInfo := pool [(3, .methodref 4 5), (0, .class_ 6), (0, .nameAndType 7 8), (0, u "java/lang/Record"), (0, u "<init>"), (0, u "()V"), (0, .fieldref 10 11), (0, .class_ 12), (0, .nameAndType 13 14), (0, u "com/example/visit_by_value/visitbyvalue/cli/OptionValue$WholeNumber"), (0, u "low"), (0, u "I"), (0, .fieldref 10 16), (0, .nameAndType 17 14), (0, u "high"), (0, .integer 2147483647), (2, u "(II)V"), (17, .class_ 40), (0, u "java/lang/StringBuilder"), (0, .methodref 39 5), (0, .methodref 39 43), (0, .nameAndType 44 45), (0, u "append"), (0, u "(Ljava/lang/String;)Ljava/lang/StringBuilder;"), (4, u "range"), (0, u "()Ljava/lang/String;"), (2, .methodref 39 55), (0, .nameAndType 56 51), (0, u "toString"), (3, .string 61), (0, u "a whole number from "), (0, .methodref 39 63), (0, .nameAndType 44 64), (0, u "(I)Ljava/lang/StringBuilder;"), (0, .string 66), (0, u " up"), (0, .string 68), (0, u " to "), (15, .class_ 85), (0, u "com/example/visit_by_value/visitbyvalue/cli/OptionValue"), (0, u "UNBOUNDED")] 40

def k4c0 : Code := { maxStack := 2, maxLocals := 3, code := prog_7_method_1_code, exceptionTable := #[], attributes := #[] }
def k4m0 : Method := { name := "<init>", desc := "(II)V", sig := { parameters := [.int, .int], returnType := none }, accessFlags := 1, code := some k4c0 }
def k4c1 : Code := { maxStack := 3, maxLocals := 1, code := prog_7_method_4_code, exceptionTable := #[], attributes := #[] }
def k4m1 : Method := { name := "range", desc := "()Ljava/lang/String;", sig := { parameters := [], returnType := some (.object "java/lang/String") }, accessFlags := 1, code := some k4c1 }
/-- com/example/visit_by_value/visitbyvalue/cli/OptionValue$WholeNumber -/
def k4 : Class := { plain "com/example/visit_by_value/visitbyvalue/cli/OptionValue$WholeNumber" (some 2) with
  accessFlags := 49
  interfaces := #[3]
  cf := some (fileOf pool4 10 #[.nestHost 84] #[{ accessFlags := 1, nameIndex := 7, descriptorIndex := 21, attributes := #[] }, { accessFlags := 1, nameIndex := 50, descriptorIndex := 51, attributes := #[] }] 49 4 #[84] #[{ accessFlags := 18, nameIndex := 13, descriptorIndex := 14, attributes := #[] }, { accessFlags := 18, nameIndex := 17, descriptorIndex := 14, attributes := #[] }, { accessFlags := 24, nameIndex := 86, descriptorIndex := 14, attributes := #[] }])
  fields := #[{ name := "low", type := .int, accessFlags := 18, slot := 0, constantValue := 0 }, { name := "high", type := .int, accessFlags := 18, slot := 1, constantValue := 0 }, { name := "UNBOUNDED", type := .int, accessFlags := 24, slot := 0, constantValue := 0 }]
  methods := #[k4m0, k4m1]
  instanceTypes := #[.int, .int]
  staticTypes := #[.int]
  resolved := Array.replicate 127 none
  statics := none }

def pool5 : Array CpInfo := pool [(1, .class_ 2), (0, u "java/lang/Appendable"), (0, .class_ 4), (0, u "java/lang/Object")] 9

/-- java/lang/Appendable -/
def k5 : Class := { plain "java/lang/Appendable" (some 0) with
  accessFlags := 1537
  interfaces := #[]
  cf := some (fileOf pool5 1 #[] #[] 1537 3 #[] #[])
  fields := #[]
  methods := #[]
  instanceTypes := #[]
  staticTypes := #[]
  resolved := Array.replicate 14 none
  statics := none }

def pool6 : Array CpInfo := pool [(2, .class_ 4), (1, u "java/lang/CharSequence"), (42, .class_ 48), (0, u "java/lang/CharSequence$1CodePointIterator"), (10, .class_ 60), (0, u "java/lang/CharSequence$1CharIterator"), (5, .class_ 67), (0, u "java/lang/Object")] 63

/-- java/lang/CharSequence -/
def k6 : Class := { plain "java/lang/CharSequence" (some 0) with
  accessFlags := 1537
  interfaces := #[]
  cf := some (fileOf pool6 2 #[.nestMembers #[47, 59]] #[] 1537 66 #[] #[])
  fields := #[]
  methods := #[]
  instanceTypes := #[]
  staticTypes := #[]
  resolved := Array.replicate 131 none
  statics := none }

def pool7 : Array CpInfo := pool [(1, .class_ 2), (0, u "java/lang/String"), (0, .methodref 4 5), (0, .class_ 6), (0, .nameAndType 7 8), (0, u "java/lang/Object"), (0, u "<init>"), (0, u "()V"), (1, .class_ 12), (1, u "java/lang/AbstractStringBuilder"), (0, u "EMPTYVALUE"), (0, u "[B"), (0, .fieldref 10 16), (0, .nameAndType 17 14), (0, u "value"), (0, .fieldref 1 19), (0, .nameAndType 20 21), (0, u "COMPACT_STRINGS"), (0, u "Z"), (0, .fieldref 10 23), (0, .nameAndType 24 25), (0, u "coder"), (0, u "B"), (6, .methodref 1 33), (0, .nameAndType 34 35), (0, u "length"), (0, u "()I"), (0, .class_ 37), (0, u "java/lang/Integer"), (1, .integer 2147483647), (0, .methodref 1 41), (0, .nameAndType 24 42), (0, u "()B"), (2, u "append"), (0, u "(Ljava/lang/String;)Ljava/lang/AbstractStringBuilder;"), (1, .class_ 49), (0, u "java/lang/CharSequence"), (19, u "(Ljava/lang/String;)V"), (5, u "maybeLatin1"), (3, .fieldref 10 80), (0, .nameAndType 81 82), (0, u "count"), (0, u "I"), (0, .methodref 10 84), (0, .nameAndType 85 86), (0, u "isLatin1"), (0, u "()Z"), (13, .methodref 10 101), (0, .nameAndType 102 103), (0, u "ensureCapacityInternal"), (0, u "(I)V"), (0, .methodref 10 105), (0, .nameAndType 106 107), (0, u "newCapacity"), (0, u "(I)I"), (0, .methodref 109 110), (0, .class_ 111), (0, .nameAndType 112 113), (0, u "java/util/Arrays"), (0, u "copyOf"), (0, u "([BI)[B"), (0, .methodref 115 116), (0, .class_ 117), (0, .nameAndType 118 119), (0, u "jdk/internal/util/ArraysSupport"), (0, u "newLength"), (0, u "(III)I"), (68, u "getChars"), (19, .methodref 10 209), (0, .nameAndType 210 211), (0, u "putStringAt"), (0, u "(ILjava/lang/String;)V"), (5, u "inflateIfNeededFor"), (2, .nameAndType 221 222), (0, u "getBytes"), (0, u "([BIB)V"), (22, .methodref 36 246), (0, .nameAndType 247 107), (0, u "stringSize"), (0, .methodref 36 249), (0, .nameAndType 188 250), (0, u "(II[B)I"), (146, .methodref 10 398), (0, .nameAndType 217 69), (0, .methodref 1 220), (3, u "()[B"), (40, .class_ 445), (0, u "java/lang/Appendable"), (65, u "(I)Ljava/lang/AbstractStringBuilder;"), (40, u "getValue")] 56

def k7m0 : Method := { name := "<init>", desc := "()V", sig := { parameters := [], returnType := none }, accessFlags := 0, code := none }
def k7c1 : Code := { maxStack := 2, maxLocals := 2, code := jdk_68_method_2_code, exceptionTable := #[], attributes := #[] }
def k7m1 : Method := { name := "<init>", desc := "(I)V", sig := { parameters := [.int], returnType := none }, accessFlags := 0, code := some k7c1 }
def k7c2 : Code := { maxStack := 1, maxLocals := 1, code := jdk_68_method_6_code, exceptionTable := #[], attributes := #[] }
def k7m2 : Method := { name := "length", desc := "()I", sig := { parameters := [], returnType := some .int }, accessFlags := 1, code := some k7c2 }
def k7c3 : Code := { maxStack := 4, maxLocals := 3, code := jdk_68_method_9_code, exceptionTable := #[], attributes := #[] }
def k7m3 : Method := { name := "ensureCapacityInternal", desc := "(I)V", sig := { parameters := [.int], returnType := none }, accessFlags := 2, code := some k7c3 }
def k7c4 : Code := { maxStack := 5, maxLocals := 6, code := jdk_68_method_10_code, exceptionTable := #[], attributes := #[] }
def k7m4 : Method := { name := "newCapacity", desc := "(I)I", sig := { parameters := [.int], returnType := some .int }, accessFlags := 2, code := some k7c4 }
def k7c5 : Code := { maxStack := 3, maxLocals := 3, code := jdk_68_method_22_code, exceptionTable := #[], attributes := #[] }
def k7m5 : Method := { name := "append", desc := "(Ljava/lang/String;)Ljava/lang/AbstractStringBuilder;", sig := { parameters := [(.object "java/lang/String")], returnType := some (.object "java/lang/AbstractStringBuilder") }, accessFlags := 1, code := some k7c5 }
def k7c6 : Code := { maxStack := 4, maxLocals := 4, code := jdk_68_method_32_code, exceptionTable := #[], attributes := #[] }
def k7m6 : Method := { name := "append", desc := "(I)Ljava/lang/AbstractStringBuilder;", sig := { parameters := [.int], returnType := some (.object "java/lang/AbstractStringBuilder") }, accessFlags := 1, code := some k7c6 }
def k7c7 : Code := { maxStack := 1, maxLocals := 1, code := jdk_68_method_64_code, exceptionTable := #[], attributes := #[] }
def k7m7 : Method := { name := "getValue", desc := "()[B", sig := { parameters := [], returnType := some (.array .byte) }, accessFlags := 16, code := some k7c7 }
def k7c8 : Code := { maxStack := 1, maxLocals := 1, code := jdk_68_method_68_code, exceptionTable := #[], attributes := #[] }
def k7m8 : Method := { name := "isLatin1", desc := "()Z", sig := { parameters := [], returnType := some .boolean }, accessFlags := 16, code := some k7c8 }
def k7c9 : Code := { maxStack := 2, maxLocals := 2, code := jdk_68_method_71_code, exceptionTable := #[], attributes := #[] }
def k7m9 : Method := { name := "inflateIfNeededFor", desc := "(Ljava/lang/String;)V", sig := { parameters := [(.object "java/lang/String")], returnType := none }, accessFlags := 2, code := some k7c9 }
def k7c10 : Code := { maxStack := 4, maxLocals := 3, code := jdk_68_method_73_code, exceptionTable := #[], attributes := #[] }
def k7m10 : Method := { name := "putStringAt", desc := "(ILjava/lang/String;)V", sig := { parameters := [.int, (.object "java/lang/String")], returnType := none }, accessFlags := 2, code := some k7c10 }
/-- java/lang/AbstractStringBuilder -/
def k7 : Class := { plain "java/lang/AbstractStringBuilder" (some 0) with
  accessFlags := 1056
  interfaces := #[5, 6]
  cf := some (fileOf pool7 10 #[] #[{ accessFlags := 0, nameIndex := 7, descriptorIndex := 8, attributes := #[] }, { accessFlags := 0, nameIndex := 7, descriptorIndex := 103, attributes := #[] }, { accessFlags := 1, nameIndex := 34, descriptorIndex := 35, attributes := #[] }, { accessFlags := 2, nameIndex := 102, descriptorIndex := 103, attributes := #[] }, { accessFlags := 2, nameIndex := 106, descriptorIndex := 107, attributes := #[] }, { accessFlags := 1, nameIndex := 45, descriptorIndex := 46, attributes := #[] }, { accessFlags := 1, nameIndex := 45, descriptorIndex := 511, attributes := #[] }, { accessFlags := 16, nameIndex := 552, descriptorIndex := 403, attributes := #[] }, { accessFlags := 16, nameIndex := 85, descriptorIndex := 86, attributes := #[] }, { accessFlags := 2, nameIndex := 217, descriptorIndex := 69, attributes := #[] }, { accessFlags := 2, nameIndex := 210, descriptorIndex := 211, attributes := #[] }] 1056 4 #[444, 48] #[{ accessFlags := 0, nameIndex := 17, descriptorIndex := 14, attributes := #[] }, { accessFlags := 0, nameIndex := 24, descriptorIndex := 25, attributes := #[] }, { accessFlags := 0, nameIndex := 75, descriptorIndex := 21, attributes := #[] }, { accessFlags := 0, nameIndex := 81, descriptorIndex := 82, attributes := #[] }, { accessFlags := 26, nameIndex := 13, descriptorIndex := 14, attributes := #[] }])
  fields := #[{ name := "value", type := (.array .byte), accessFlags := 0, slot := 0, constantValue := 0 }, { name := "coder", type := .byte, accessFlags := 0, slot := 1, constantValue := 0 }, { name := "maybeLatin1", type := .boolean, accessFlags := 0, slot := 2, constantValue := 0 }, { name := "count", type := .int, accessFlags := 0, slot := 3, constantValue := 0 }, { name := "EMPTYVALUE", type := (.array .byte), accessFlags := 26, slot := 0, constantValue := 0 }]
  methods := #[k7m0, k7m1, k7m2, k7m3, k7m4, k7m5, k7m6, k7m7, k7m8, k7m9, k7m10]
  instanceTypes := #[(.array .byte), .byte, .boolean, .int]
  staticTypes := #[(.array .byte)]
  resolved := Array.replicate 609 none
  statics := none }

def pool8 : Array CpInfo := pool [(1, .class_ 2), (0, u "java/io/Serializable"), (0, .class_ 4), (0, u "java/lang/Object")] 2

/-- java/io/Serializable -/
def k8 : Class := { plain "java/io/Serializable" (some 0) with
  accessFlags := 1537
  interfaces := #[]
  cf := some (fileOf pool8 1 #[] #[] 1537 3 #[] #[])
  fields := #[]
  methods := #[]
  instanceTypes := #[]
  staticTypes := #[]
  resolved := Array.replicate 7 none
  statics := none }

def pool9 : Array CpInfo := pool [(1, .class_ 2), (0, u "java/lang/Comparable"), (0, .class_ 4), (0, u "java/lang/Object")] 7

/-- java/lang/Comparable -/
def k9 : Class := { plain "java/lang/Comparable" (some 0) with
  accessFlags := 1537
  interfaces := #[]
  cf := some (fileOf pool9 1 #[] #[] 1537 3 #[] #[])
  fields := #[]
  methods := #[]
  instanceTypes := #[]
  staticTypes := #[]
  resolved := Array.replicate 12 none
  statics := none }

def pool10 : Array CpInfo := pool [(1, .methodref 2 3), (0, .class_ 4), (0, .nameAndType 5 6), (0, u "java/lang/AbstractStringBuilder"), (0, u "<init>"), (0, u "(I)V"), (11, .class_ 20), (1, u "java/lang/String"), (3, .class_ 26), (1, u "java/lang/StringBuilder"), (0, u "append"), (0, u "(Ljava/lang/String;)Ljava/lang/StringBuilder;"), (0, .methodref 2 30), (0, .nameAndType 27 31), (0, u "(Ljava/lang/String;)Ljava/lang/AbstractStringBuilder;"), (21, .methodref 2 54), (0, .nameAndType 27 55), (0, u "(I)Ljava/lang/AbstractStringBuilder;"), (81, .methodref 18 138), (0, .nameAndType 5 139), (0, u "(Ljava/lang/StringBuilder;)V"), (5, u "()V"), (10, u "()I"), (111, u "(I)Ljava/lang/StringBuilder;"), (74, .methodref 2 344), (0, .nameAndType 345 156), (0, u "length"), (3, .class_ 350), (0, u "java/lang/Appendable"), (0, .class_ 352), (0, u "java/io/Serializable"), (0, .class_ 354), (0, u "java/lang/Comparable"), (0, .class_ 356), (0, u "java/lang/CharSequence"), (0, u "serialVersionUID"), (0, u "J"), (40, u "toString"), (0, u "()Ljava/lang/String;")] 21

def k10c0 : Code := { maxStack := 2, maxLocals := 1, code := jdk_67_method_1_code, exceptionTable := #[], attributes := #[] }
def k10m0 : Method := { name := "<init>", desc := "()V", sig := { parameters := [], returnType := none }, accessFlags := 1, code := some k10c0 }
def k10c1 : Code := { maxStack := 2, maxLocals := 2, code := jdk_67_method_7_code, exceptionTable := #[], attributes := #[] }
def k10m1 : Method := { name := "append", desc := "(Ljava/lang/String;)Ljava/lang/StringBuilder;", sig := { parameters := [(.object "java/lang/String")], returnType := some (.object "java/lang/StringBuilder") }, accessFlags := 1, code := some k10c1 }
def k10c2 : Code := { maxStack := 2, maxLocals := 2, code := jdk_67_method_15_code, exceptionTable := #[], attributes := #[] }
def k10m2 : Method := { name := "append", desc := "(I)Ljava/lang/StringBuilder;", sig := { parameters := [.int], returnType := some (.object "java/lang/StringBuilder") }, accessFlags := 1, code := some k10c2 }
def k10c3 : Code := { maxStack := 3, maxLocals := 1, code := jdk_67_method_42_code, exceptionTable := #[], attributes := #[] }
def k10m3 : Method := { name := "toString", desc := "()Ljava/lang/String;", sig := { parameters := [], returnType := some (.object "java/lang/String") }, accessFlags := 1, code := some k10c3 }
def k10c4 : Code := { maxStack := 1, maxLocals := 1, code := jdk_67_method_93_code, exceptionTable := #[], attributes := #[] }
def k10m4 : Method := { name := "length", desc := "()I", sig := { parameters := [], returnType := some .int }, accessFlags := 4161, code := some k10c4 }
/-- java/lang/StringBuilder -/
def k10 : Class := { plain "java/lang/StringBuilder" (some 7) with
  accessFlags := 49
  interfaces := #[5, 8, 9, 6]
  cf := some (fileOf pool10 24 #[] #[{ accessFlags := 1, nameIndex := 5, descriptorIndex := 145, attributes := #[] }, { accessFlags := 1, nameIndex := 27, descriptorIndex := 28, attributes := #[] }, { accessFlags := 1, nameIndex := 27, descriptorIndex := 268, attributes := #[] }, { accessFlags := 1, nameIndex := 399, descriptorIndex := 400, attributes := #[] }, { accessFlags := 4161, nameIndex := 345, descriptorIndex := 156, attributes := #[] }] 49 2 #[349, 351, 353, 355] #[{ accessFlags := 24, nameIndex := 357, descriptorIndex := 358, attributes := #[] }])
  fields := #[{ name := "serialVersionUID", type := .long, accessFlags := 24, slot := 0, constantValue := 0 }]
  methods := #[k10m0, k10m1, k10m2, k10m3, k10m4]
  instanceTypes := #[(.array .byte), .byte, .boolean, .int]
  staticTypes := #[.long]
  resolved := Array.replicate 422 none
  statics := none }

def pool11 : Array CpInfo := pool [(1, .class_ 2), (0, u "java/lang/constant/Constable"), (0, .class_ 4), (0, u "java/lang/Object")] 6

/-- java/lang/constant/Constable -/
def k11 : Class := { plain "java/lang/constant/Constable" (some 0) with
  accessFlags := 1537
  interfaces := #[]
  cf := some (fileOf pool11 1 #[] #[] 1537 3 #[] #[])
  fields := #[]
  methods := #[]
  instanceTypes := #[]
  staticTypes := #[]
  resolved := Array.replicate 11 none
  statics := none }

def pool12 : Array CpInfo := pool [(1, .class_ 2), (0, u "java/lang/constant/ConstantDesc"), (0, .class_ 4), (0, u "java/lang/Object")] 32

/-- java/lang/constant/ConstantDesc -/
def k12 : Class := { plain "java/lang/constant/ConstantDesc" (some 0) with
  accessFlags := 1537
  interfaces := #[]
  cf := some (fileOf pool12 1 #[] #[] 1537 3 #[] #[])
  fields := #[]
  methods := #[]
  instanceTypes := #[]
  staticTypes := #[]
  resolved := Array.replicate 37 none
  statics := none }

def pool13 : Array CpInfo := pool [(1, .methodref 2 3), (0, .class_ 4), (0, .nameAndType 5 6), (0, u "java/lang/Object"), (0, u "<init>"), (0, u "()V"), (2, .fieldref 10 11), (0, .class_ 12), (0, .nameAndType 13 14), (0, u "java/lang/String"), (0, u "value"), (0, u "[B"), (0, .fieldref 10 16), (0, .nameAndType 17 18), (0, u "coder"), (0, u "B"), (2, u "hash"), (0, u "I"), (2, u "hashIsZero"), (0, u "Z"), (11, .fieldref 10 39), (0, .nameAndType 40 26), (0, u "COMPACT_STRINGS"), (13, .methodref 55 56), (0, .class_ 57), (0, .nameAndType 58 59), (0, u "java/util/Arrays"), (0, u "copyOfRange"), (0, u "([BII)[B"), (47, .class_ 109), (1, u "java/lang/StringLatin1"), (32, u "()Z"), (50, .class_ 195), (1, u "java/lang/System"), (16, .methodref 193 213), (0, .nameAndType 214 215), (0, u "arraycopy"), (0, u "(Ljava/lang/Object;ILjava/lang/Object;II)V"), (118, u "()I"), (0, .methodref 10 336), (0, .nameAndType 17 337), (0, u "()B"), (2, u "()[B"), (22, u "([BI)C"), (27, u "(II)V"), (35, u "(I)C"), (61, .methodref 10 490), (0, .nameAndType 5 491), (0, u "(Ljava/lang/AbstractStringBuilder;Ljava/lang/Void;)V"), (0, .methodref 10 493), (0, .nameAndType 494 142), (0, u "isLatin1"), (0, .methodref 107 496), (0, .nameAndType 497 363), (0, u "charAt"), (3, u "checkIndex"), (4, .nameAndType 507 334), (0, u "length"), (24, u "getBytes"), (16, .methodref 550 506), (0, .class_ 551), (0, u "java/lang/AbstractStringBuilder"), (0, .methodref 550 553), (0, .nameAndType 554 340), (0, u "getValue"), (20, .class_ 576), (0, u "java/lang/CharSequence"), (22, u "CASE_INSENSITIVE_ORDER"), (0, u "Ljava/util/Comparator;"), (220, u "([BIB)V"), (225, .methodref 550 493), (5, .fieldref 1054 1055), (0, .class_ 1056), (0, .nameAndType 1057 1058), (0, u "jdk/internal/util/Preconditions"), (0, u "SIOOBE_FORMATTER"), (0, u "Ljava/util/function/BiFunction;"), (0, .methodref 1054 1060), (0, .nameAndType 501 1061), (0, u "(IILjava/util/function/BiFunction;)I"), (39, u "serialPersistentFields"), (0, u "[Ljava/io/ObjectStreamField;"), (0, .class_ 1104), (0, u "java/lang/String$CaseInsensitiveComparator"), (1, .class_ 1107), (0, u "java/io/Serializable"), (0, .class_ 1109), (0, u "java/lang/Comparable"), (0, .class_ 1111), (0, u "java/lang/constant/Constable"), (0, .class_ 1113), (0, u "java/lang/constant/ConstantDesc"), (2, u "serialVersionUID"), (0, u "J"), (3, u "REPL"), (0, u "C"), (2, u "LATIN1"), (1, u "UTF16"), (105, u "(Ljava/lang/StringBuilder;)V")] 217

def k13m0 : Method := { name := "<init>", desc := "()V", sig := { parameters := [], returnType := none }, accessFlags := 1, code := none }
def k13c1 : Code := { maxStack := 3, maxLocals := 2, code := jdk_42_method_53_code, exceptionTable := #[], attributes := #[] }
def k13m1 : Method := { name := "<init>", desc := "(Ljava/lang/StringBuilder;)V", sig := { parameters := [(.object "java/lang/StringBuilder")], returnType := none }, accessFlags := 1, code := some k13c1 }
def k13c2 : Code := { maxStack := 2, maxLocals := 1, code := jdk_42_method_54_code, exceptionTable := #[], attributes := #[] }
def k13m2 : Method := { name := "length", desc := "()I", sig := { parameters := [], returnType := some .int }, accessFlags := 1, code := some k13c2 }
def k13c3 : Code := { maxStack := 2, maxLocals := 2, code := jdk_42_method_56_code, exceptionTable := #[], attributes := #[] }
def k13m3 : Method := { name := "charAt", desc := "(I)C", sig := { parameters := [.int], returnType := some .char }, accessFlags := 1, code := some k13c3 }
def k13c4 : Code := { maxStack := 5, maxLocals := 4, code := jdk_42_method_147_code, exceptionTable := #[], attributes := #[] }
def k13m4 : Method := { name := "getBytes", desc := "([BIB)V", sig := { parameters := [(.array .byte), .int, .byte], returnType := none }, accessFlags := 0, code := some k13c4 }
def k13c5 : Code := { maxStack := 5, maxLocals := 5, code := jdk_42_method_150_code, exceptionTable := #[], attributes := #[] }
def k13m5 : Method := { name := "<init>", desc := "(Ljava/lang/AbstractStringBuilder;Ljava/lang/Void;)V", sig := { parameters := [(.object "java/lang/AbstractStringBuilder"), (.object "java/lang/Void")], returnType := none }, accessFlags := 0, code := some k13c5 }
def k13c6 : Code := { maxStack := 1, maxLocals := 1, code := jdk_42_method_152_code, exceptionTable := #[], attributes := #[] }
def k13m6 : Method := { name := "coder", desc := "()B", sig := { parameters := [], returnType := some .byte }, accessFlags := 0, code := some k13c6 }
def k13c7 : Code := { maxStack := 1, maxLocals := 1, code := jdk_42_method_154_code, exceptionTable := #[], attributes := #[] }
def k13m7 : Method := { name := "isLatin1", desc := "()Z", sig := { parameters := [], returnType := some .boolean }, accessFlags := 0, code := some k13c7 }
def k13c8 : Code := { maxStack := 3, maxLocals := 2, code := jdk_42_method_155_code, exceptionTable := #[], attributes := #[] }
def k13m8 : Method := { name := "checkIndex", desc := "(II)V", sig := { parameters := [.int, .int], returnType := none }, accessFlags := 8, code := some k13c8 }
/-- java/lang/String -/
def k13 : Class := { plain "java/lang/String" (some 0) with
  accessFlags := 49
  interfaces := #[8, 9, 6, 11, 12]
  cf := some (fileOf pool13 10 #[.nestMembers #[1103]] #[{ accessFlags := 1, nameIndex := 5, descriptorIndex := 6, attributes := #[] }, { accessFlags := 1, nameIndex := 5, descriptorIndex := 1233, attributes := #[] }, { accessFlags := 1, nameIndex := 507, descriptorIndex := 334, attributes := #[] }, { accessFlags := 1, nameIndex := 497, descriptorIndex := 427, attributes := #[] }, { accessFlags := 0, nameIndex := 532, descriptorIndex := 821, attributes := #[] }, { accessFlags := 0, nameIndex := 5, descriptorIndex := 491, attributes := #[] }, { accessFlags := 0, nameIndex := 17, descriptorIndex := 337, attributes := #[] }, { accessFlags := 0, nameIndex := 494, descriptorIndex := 142, attributes := #[] }, { accessFlags := 8, nameIndex := 501, descriptorIndex := 391, attributes := #[] }] 49 2 #[1106, 1108, 575, 1110, 1112] #[{ accessFlags := 18, nameIndex := 13, descriptorIndex := 14, attributes := #[] }, { accessFlags := 18, nameIndex := 17, descriptorIndex := 18, attributes := #[] }, { accessFlags := 2, nameIndex := 21, descriptorIndex := 22, attributes := #[] }, { accessFlags := 2, nameIndex := 25, descriptorIndex := 26, attributes := #[] }, { accessFlags := 26, nameIndex := 1116, descriptorIndex := 1117, attributes := #[] }, { accessFlags := 24, nameIndex := 40, descriptorIndex := 26, attributes := #[] }, { accessFlags := 26, nameIndex := 1101, descriptorIndex := 1102, attributes := #[] }, { accessFlags := 26, nameIndex := 1121, descriptorIndex := 1122, attributes := #[] }, { accessFlags := 25, nameIndex := 599, descriptorIndex := 600, attributes := #[] }, { accessFlags := 24, nameIndex := 1125, descriptorIndex := 18, attributes := #[] }, { accessFlags := 24, nameIndex := 1127, descriptorIndex := 18, attributes := #[] }])
  fields := #[{ name := "value", type := (.array .byte), accessFlags := 18, slot := 0, constantValue := 0 }, { name := "coder", type := .byte, accessFlags := 18, slot := 1, constantValue := 0 }, { name := "hash", type := .int, accessFlags := 2, slot := 2, constantValue := 0 }, { name := "hashIsZero", type := .boolean, accessFlags := 2, slot := 3, constantValue := 0 }, { name := "serialVersionUID", type := .long, accessFlags := 26, slot := 0, constantValue := 0 }, { name := "COMPACT_STRINGS", type := .boolean, accessFlags := 24, slot := 1, constantValue := 0 }, { name := "serialPersistentFields", type := (.array (.object "java/io/ObjectStreamField")), accessFlags := 26, slot := 2, constantValue := 0 }, { name := "REPL", type := .char, accessFlags := 26, slot := 3, constantValue := 0 }, { name := "CASE_INSENSITIVE_ORDER", type := (.object "java/util/Comparator"), accessFlags := 25, slot := 4, constantValue := 0 }, { name := "LATIN1", type := .byte, accessFlags := 24, slot := 5, constantValue := 0 }, { name := "UTF16", type := .byte, accessFlags := 24, slot := 6, constantValue := 0 }]
  methods := #[k13m0, k13m1, k13m2, k13m3, k13m4, k13m5, k13m6, k13m7, k13m8]
  instanceTypes := #[(.array .byte), .byte, .int, .boolean]
  staticTypes := #[.long, .boolean, (.array (.object "java/io/ObjectStreamField")), .char, (.object "java/util/Comparator"), .byte, .byte]
  resolved := Array.replicate 1451 none
  statics := some 0 }

def pool14 : Array CpInfo := pool [(9, u "<init>"), (6, .class_ 18), (1, u "java/lang/Object"), (0, u "()V"), (1, .class_ 23), (1, u "jdk/internal/util/ArraysSupport"), (0, u "LOG2_ARRAY_LONG_INDEX_SCALE"), (0, u "I"), (2, u "U"), (0, u "Ljdk/internal/misc/Unsafe;"), (8, u "BIG_ENDIAN"), (0, u "Z"), (8, u "LOG2_BYTE_BIT_SIZE"), (4, u "LOG2_ARRAY_INT_INDEX_SCALE"), (54, u "JLA"), (0, u "Ljdk/internal/access/JavaLangAccess;"), (11, u "LOG2_ARRAY_BOOLEAN_INDEX_SCALE"), (9, u "LOG2_ARRAY_BYTE_INDEX_SCALE"), (5, u "LOG2_ARRAY_CHAR_INDEX_SCALE"), (5, u "LOG2_ARRAY_SHORT_INDEX_SCALE"), (18, u "LOG2_ARRAY_FLOAT_INDEX_SCALE"), (24, u "LOG2_ARRAY_DOUBLE_INDEX_SCALE"), (6, .methodref 195 196), (0, .class_ 197), (0, .nameAndType 198 199), (0, u "java/lang/Math"), (0, u "max"), (0, u "(II)I"), (0, .integer 2147483639), (76, u "T_BOOLEAN"), (2, u "T_CHAR"), (1, u "T_FLOAT"), (1, u "T_DOUBLE"), (1, u "T_BYTE"), (1, u "T_SHORT"), (1, u "T_INT"), (1, u "T_LONG"), (1, u "SOFT_MAX_ARRAY_LENGTH"), (56, u "newLength"), (0, u "(III)I")] 25

def k14m0 : Method := { name := "<init>", desc := "()V", sig := { parameters := [], returnType := none }, accessFlags := 2, code := none }
def k14c1 : Code := { maxStack := 3, maxLocals := 4, code := jdk_48_method_27_code, exceptionTable := #[], attributes := #[] }
def k14m1 : Method := { name := "newLength", desc := "(III)I", sig := { parameters := [.int, .int, .int], returnType := some .int }, accessFlags := 9, code := some k14c1 }
/-- jdk/internal/util/ArraysSupport -/
def k14 : Class := { plain "jdk/internal/util/ArraysSupport" (some 0) with
  accessFlags := 33
  interfaces := #[]
  cf := some (fileOf pool14 21 #[] #[{ accessFlags := 2, nameIndex := 9, descriptorIndex := 19, attributes := #[] }, { accessFlags := 9, nameIndex := 351, descriptorIndex := 352, attributes := #[] }] 33 16 #[] #[{ accessFlags := 24, nameIndex := 28, descriptorIndex := 29, attributes := #[] }, { accessFlags := 26, nameIndex := 38, descriptorIndex := 39, attributes := #[] }, { accessFlags := 25, nameIndex := 121, descriptorIndex := 25, attributes := #[] }, { accessFlags := 25, nameIndex := 131, descriptorIndex := 25, attributes := #[] }, { accessFlags := 25, nameIndex := 137, descriptorIndex := 25, attributes := #[] }, { accessFlags := 25, nameIndex := 143, descriptorIndex := 25, attributes := #[] }, { accessFlags := 25, nameIndex := 53, descriptorIndex := 25, attributes := #[] }, { accessFlags := 25, nameIndex := 24, descriptorIndex := 25, attributes := #[] }, { accessFlags := 25, nameIndex := 162, descriptorIndex := 25, attributes := #[] }, { accessFlags := 25, nameIndex := 187, descriptorIndex := 25, attributes := #[] }, { accessFlags := 26, nameIndex := 48, descriptorIndex := 25, attributes := #[] }, { accessFlags := 25, nameIndex := 277, descriptorIndex := 25, attributes := #[] }, { accessFlags := 25, nameIndex := 280, descriptorIndex := 25, attributes := #[] }, { accessFlags := 25, nameIndex := 282, descriptorIndex := 25, attributes := #[] }, { accessFlags := 25, nameIndex := 284, descriptorIndex := 25, attributes := #[] }, { accessFlags := 25, nameIndex := 286, descriptorIndex := 25, attributes := #[] }, { accessFlags := 25, nameIndex := 288, descriptorIndex := 25, attributes := #[] }, { accessFlags := 25, nameIndex := 290, descriptorIndex := 25, attributes := #[] }, { accessFlags := 25, nameIndex := 292, descriptorIndex := 25, attributes := #[] }, { accessFlags := 26, nameIndex := 108, descriptorIndex := 109, attributes := #[] }, { accessFlags := 25, nameIndex := 294, descriptorIndex := 25, attributes := #[] }])
  fields := #[{ name := "U", type := (.object "jdk/internal/misc/Unsafe"), accessFlags := 24, slot := 0, constantValue := 0 }, { name := "BIG_ENDIAN", type := .boolean, accessFlags := 26, slot := 1, constantValue := 0 }, { name := "LOG2_ARRAY_BOOLEAN_INDEX_SCALE", type := .int, accessFlags := 25, slot := 2, constantValue := 0 }, { name := "LOG2_ARRAY_BYTE_INDEX_SCALE", type := .int, accessFlags := 25, slot := 3, constantValue := 0 }, { name := "LOG2_ARRAY_CHAR_INDEX_SCALE", type := .int, accessFlags := 25, slot := 4, constantValue := 0 }, { name := "LOG2_ARRAY_SHORT_INDEX_SCALE", type := .int, accessFlags := 25, slot := 5, constantValue := 0 }, { name := "LOG2_ARRAY_INT_INDEX_SCALE", type := .int, accessFlags := 25, slot := 6, constantValue := 0 }, { name := "LOG2_ARRAY_LONG_INDEX_SCALE", type := .int, accessFlags := 25, slot := 7, constantValue := 0 }, { name := "LOG2_ARRAY_FLOAT_INDEX_SCALE", type := .int, accessFlags := 25, slot := 8, constantValue := 0 }, { name := "LOG2_ARRAY_DOUBLE_INDEX_SCALE", type := .int, accessFlags := 25, slot := 9, constantValue := 0 }, { name := "LOG2_BYTE_BIT_SIZE", type := .int, accessFlags := 26, slot := 10, constantValue := 0 }, { name := "T_BOOLEAN", type := .int, accessFlags := 25, slot := 11, constantValue := 0 }, { name := "T_CHAR", type := .int, accessFlags := 25, slot := 12, constantValue := 0 }, { name := "T_FLOAT", type := .int, accessFlags := 25, slot := 13, constantValue := 0 }, { name := "T_DOUBLE", type := .int, accessFlags := 25, slot := 14, constantValue := 0 }, { name := "T_BYTE", type := .int, accessFlags := 25, slot := 15, constantValue := 0 }, { name := "T_SHORT", type := .int, accessFlags := 25, slot := 16, constantValue := 0 }, { name := "T_INT", type := .int, accessFlags := 25, slot := 17, constantValue := 0 }, { name := "T_LONG", type := .int, accessFlags := 25, slot := 18, constantValue := 0 }, { name := "JLA", type := (.object "jdk/internal/access/JavaLangAccess"), accessFlags := 26, slot := 19, constantValue := 0 }, { name := "SOFT_MAX_ARRAY_LENGTH", type := .int, accessFlags := 25, slot := 20, constantValue := 0 }]
  methods := #[k14m0, k14m1]
  instanceTypes := #[]
  staticTypes := #[(.object "jdk/internal/misc/Unsafe"), .boolean, .int, .int, .int, .int, .int, .int, .int, .int, .int, .int, .int, .int, .int, .int, .int, .int, .int, (.object "jdk/internal/access/JavaLangAccess"), .int]
  resolved := Array.replicate 378 none
  statics := none }

def pool15 : Array CpInfo := pool [(1, .class_ 2), (0, u "java/lang/Math"), (1, .class_ 6), (1, u "java/lang/Object"), (0, u "<init>"), (0, u "()V"), (89, .class_ 100), (1, u "java/lang/Math$RandomNumberGeneratorHolder"), (23, u "abs"), (0, u "(J)J"), (46, u "negativeZeroFloatBits"), (0, u "J"), (2, u "negativeZeroDoubleBits"), (21, u "max"), (2, u "min"), (43, u "$assertionsDisabled"), (0, u "Z"), (88, u "(II)I"), (2, u "twoToTheDoubleScaleDown"), (0, u "D"), (4, u "twoToTheDoubleScaleUp"), (9, u "E"), (3, u "PI"), (2, u "TAU"), (2, u "DEGREES_TO_RADIANS"), (0, u "RADIANS_TO_DEGREES")] 94

def k15m0 : Method := { name := "<init>", desc := "()V", sig := { parameters := [], returnType := none }, accessFlags := 2, code := none }
def k15c1 : Code := { maxStack := 4, maxLocals := 2, code := jdk_29_method_61_code, exceptionTable := #[], attributes := #[] }
def k15m1 : Method := { name := "abs", desc := "(J)J", sig := { parameters := [.long], returnType := some .long }, accessFlags := 9, code := some k15c1 }
def k15c2 : Code := { maxStack := 2, maxLocals := 2, code := jdk_29_method_65_code, exceptionTable := #[], attributes := #[] }
def k15m2 : Method := { name := "max", desc := "(II)I", sig := { parameters := [.int, .int], returnType := some .int }, accessFlags := 9, code := some k15c2 }
def k15c3 : Code := { maxStack := 2, maxLocals := 2, code := jdk_29_method_69_code, exceptionTable := #[], attributes := #[] }
def k15m3 : Method := { name := "min", desc := "(II)I", sig := { parameters := [.int, .int], returnType := some .int }, accessFlags := 9, code := some k15c3 }
/-- java/lang/Math -/
def k15 : Class := { plain "java/lang/Math" (some 0) with
  accessFlags := 49
  interfaces := #[]
  cf := some (fileOf pool15 1 #[.nestMembers #[98]] #[{ accessFlags := 2, nameIndex := 7, descriptorIndex := 8, attributes := #[] }, { accessFlags := 9, nameIndex := 124, descriptorIndex := 125, attributes := #[] }, { accessFlags := 9, nameIndex := 198, descriptorIndex := 335, attributes := #[] }, { accessFlags := 9, nameIndex := 201, descriptorIndex := 335, attributes := #[] }] 49 4 #[] #[{ accessFlags := 25, nameIndex := 354, descriptorIndex := 339, attributes := #[] }, { accessFlags := 25, nameIndex := 358, descriptorIndex := 339, attributes := #[] }, { accessFlags := 25, nameIndex := 361, descriptorIndex := 339, attributes := #[] }, { accessFlags := 26, nameIndex := 364, descriptorIndex := 339, attributes := #[] }, { accessFlags := 26, nameIndex := 365, descriptorIndex := 339, attributes := #[] }, { accessFlags := 26, nameIndex := 172, descriptorIndex := 173, attributes := #[] }, { accessFlags := 26, nameIndex := 176, descriptorIndex := 173, attributes := #[] }, { accessFlags := 8, nameIndex := 344, descriptorIndex := 339, attributes := #[] }, { accessFlags := 8, nameIndex := 338, descriptorIndex := 339, attributes := #[] }, { accessFlags := 4120, nameIndex := 245, descriptorIndex := 246, attributes := #[] }])
  fields := #[{ name := "E", type := .double, accessFlags := 25, slot := 0, constantValue := 0 }, { name := "PI", type := .double, accessFlags := 25, slot := 1, constantValue := 0 }, { name := "TAU", type := .double, accessFlags := 25, slot := 2, constantValue := 0 }, { name := "DEGREES_TO_RADIANS", type := .double, accessFlags := 26, slot := 3, constantValue := 0 }, { name := "RADIANS_TO_DEGREES", type := .double, accessFlags := 26, slot := 4, constantValue := 0 }, { name := "negativeZeroFloatBits", type := .long, accessFlags := 26, slot := 5, constantValue := 0 }, { name := "negativeZeroDoubleBits", type := .long, accessFlags := 26, slot := 6, constantValue := 0 }, { name := "twoToTheDoubleScaleUp", type := .double, accessFlags := 8, slot := 7, constantValue := 0 }, { name := "twoToTheDoubleScaleDown", type := .double, accessFlags := 8, slot := 8, constantValue := 0 }, { name := "$assertionsDisabled", type := .boolean, accessFlags := 4120, slot := 9, constantValue := 0 }]
  methods := #[k15m0, k15m1, k15m2, k15m3]
  instanceTypes := #[]
  staticTypes := #[.double, .double, .double, .double, .double, .long, .long, .double, .double, .boolean]
  resolved := Array.replicate 460 none
  statics := none }

def pool16 : Array CpInfo := pool [(2, .class_ 4), (1, u "java/lang/Object"), (0, u "<init>"), (0, u "()V"), (7, .class_ 16), (1, u "java/util/Arrays"), (57, .class_ 76), (1, u "java/util/Arrays$NaturalOrder"), (32, u "()Ljava/lang/Object;"), (3, .class_ 115), (1, u "java/util/Arrays$LegacyMergeSort"), (1, u "Z"), (10, .nameAndType 129 109), (0, u "clone"), (9, u "copyOfRange"), (10, .methodref 151 152), (0, .class_ 153), (0, .nameAndType 154 155), (0, u "java/lang/System"), (0, u "arraycopy"), (0, u "(Ljava/lang/Object;ILjava/lang/Object;II)V"), (146, u "copyOf"), (1, .methodref 305 306), (0, .class_ 307), (0, .nameAndType 308 309), (0, u "java/lang/Math"), (0, u "min"), (0, u "(II)I"), (0, .methodref 311 128), (0, .class_ 312), (0, u "[B"), (26, .methodref 14 340), (0, .nameAndType 341 342), (0, u "copyOfRangeByte"), (0, u "([BII)[B"), (0, .methodref 14 344), (0, .nameAndType 345 346), (0, u "checkLength"), (0, u "(II)V"), (28, .class_ 376), (0, u "java/util/Arrays$ArrayList"), (68, u "$assertionsDisabled"), (269, u "MIN_ARRAY_SORT_GRAN"), (0, u "I"), (2, u "INSERTIONSORT_THRESHOLD"), (149, u "([BI)[B"), (105, .class_ 976), (0, u "java/util/Arrays$ArrayItr")] 52

def k16m0 : Method := { name := "<init>", desc := "()V", sig := { parameters := [], returnType := none }, accessFlags := 2, code := none }
def k16c1 : Code := { maxStack := 6, maxLocals := 3, code := jdk_65_method_121_code, exceptionTable := #[], attributes := #[] }
def k16m1 : Method := { name := "copyOf", desc := "([BI)[B", sig := { parameters := [(.array .byte), .int], returnType := some (.array .byte) }, accessFlags := 9, code := some k16c1 }
def k16c2 : Code := { maxStack := 4, maxLocals := 2, code := jdk_65_method_131_code, exceptionTable := #[], attributes := #[] }
def k16m2 : Method := { name := "checkLength", desc := "(II)V", sig := { parameters := [.int, .int], returnType := none }, accessFlags := 10, code := some k16c2 }
def k16c3 : Code := { maxStack := 3, maxLocals := 3, code := jdk_65_method_132_code, exceptionTable := #[], attributes := #[] }
def k16m3 : Method := { name := "copyOfRange", desc := "([BII)[B", sig := { parameters := [(.array .byte), .int, .int], returnType := some (.array .byte) }, accessFlags := 9, code := some k16c3 }
def k16c4 : Code := { maxStack := 6, maxLocals := 5, code := jdk_65_method_133_code, exceptionTable := #[], attributes := #[] }
def k16m4 : Method := { name := "copyOfRangeByte", desc := "([BII)[B", sig := { parameters := [(.array .byte), .int, .int], returnType := some (.array .byte) }, accessFlags := 10, code := some k16c4 }
/-- java/util/Arrays -/
def k16 : Class := { plain "java/util/Arrays" (some 0) with
  accessFlags := 49
  interfaces := #[]
  cf := some (fileOf pool16 14 #[.nestMembers #[975, 375, 113, 74]] #[{ accessFlags := 2, nameIndex := 5, descriptorIndex := 6, attributes := #[] }, { accessFlags := 9, nameIndex := 302, descriptorIndex := 869, attributes := #[] }, { accessFlags := 10, nameIndex := 345, descriptorIndex := 346, attributes := #[] }, { accessFlags := 9, nameIndex := 139, descriptorIndex := 342, attributes := #[] }, { accessFlags := 10, nameIndex := 341, descriptorIndex := 342, attributes := #[] }] 49 2 #[] #[{ accessFlags := 26, nameIndex := 715, descriptorIndex := 716, attributes := #[] }, { accessFlags := 26, nameIndex := 719, descriptorIndex := 716, attributes := #[] }, { accessFlags := 4120, nameIndex := 445, descriptorIndex := 117, attributes := #[] }])
  fields := #[{ name := "MIN_ARRAY_SORT_GRAN", type := .int, accessFlags := 26, slot := 0, constantValue := 0 }, { name := "INSERTIONSORT_THRESHOLD", type := .int, accessFlags := 26, slot := 1, constantValue := 0 }, { name := "$assertionsDisabled", type := .boolean, accessFlags := 4120, slot := 2, constantValue := 0 }]
  methods := #[k16m0, k16m1, k16m2, k16m3, k16m4]
  instanceTypes := #[]
  staticTypes := #[.int, .int, .boolean]
  resolved := Array.replicate 1029 none
  statics := none }

def pool17 : Array CpInfo := pool [(2, .class_ 4), (1, u "java/lang/Object"), (0, u "<init>"), (0, u "()V"), (1, .class_ 10), (1, u "java/lang/System"), (0, u "allowSecurityManager"), (0, u "I"), (16, u "cons"), (0, u "Ljava/io/Console;"), (77, .class_ 110), (1, u "java/lang/System$CallersHolder"), (43, u "initialErrStream"), (0, u "Ljava/io/PrintStream;"), (19, u "security"), (0, u "Ljava/lang/SecurityManager;"), (31, .class_ 209), (0, u "java/lang/System$1"), (7, u "props"), (0, u "Ljava/util/Properties;"), (2, u "lineSeparator"), (0, u "Ljava/lang/String;"), (96, .class_ 321), (1, u "java/lang/System$LoggerFinder"), (5, .class_ 328), (0, u "java/lang/System$Logger"), (67, u "err"), (2, u "out"), (91, u "notSupportedJnuEncoding"), (15, u "in"), (17, u "initialIn"), (0, u "Ljava/io/InputStream;"), (35, u "bootLayer"), (0, u "Ljava/lang/ModuleLayer;"), (99, .class_ 664), (0, u "java/lang/System$2"), (9, u "NEVER"), (2, u "MAYBE"), (49, u "arraycopy"), (0, u "(Ljava/lang/Object;ILjava/lang/Object;II)V"), (72, .class_ 802), (0, u "java/lang/System$Logger$Level")] 31

def k17m0 : Method := { name := "<init>", desc := "()V", sig := { parameters := [], returnType := none }, accessFlags := 2, code := none }
def k17m1 : Method := { name := "arraycopy", desc := "(Ljava/lang/Object;ILjava/lang/Object;II)V", sig := { parameters := [(.object "java/lang/Object"), .int, (.object "java/lang/Object"), .int, .int], returnType := none }, accessFlags := 265, code := none }
/-- java/lang/System -/
def k17 : Class := { plain "java/lang/System" (some 0) with
  accessFlags := 49
  interfaces := #[]
  cf := some (fileOf pool17 8 #[.nestMembers #[319, 327, 801, 108, 663, 208]] #[{ accessFlags := 2, nameIndex := 5, descriptorIndex := 6, attributes := #[] }, { accessFlags := 265, nameIndex := 727, descriptorIndex := 728, attributes := #[] }] 49 2 #[] #[{ accessFlags := 25, nameIndex := 507, descriptorIndex := 526, attributes := #[] }, { accessFlags := 25, nameIndex := 399, descriptorIndex := 155, attributes := #[] }, { accessFlags := 25, nameIndex := 396, descriptorIndex := 155, attributes := #[] }, { accessFlags := 10, nameIndex := 525, descriptorIndex := 526, attributes := #[] }, { accessFlags := 26, nameIndex := 674, descriptorIndex := 12, attributes := #[] }, { accessFlags := 26, nameIndex := 677, descriptorIndex := 12, attributes := #[] }, { accessFlags := 10, nameIndex := 11, descriptorIndex := 12, attributes := #[] }, { accessFlags := 74, nameIndex := 175, descriptorIndex := 176, attributes := #[] }, { accessFlags := 10, nameIndex := 491, descriptorIndex := 222, attributes := #[] }, { accessFlags := 74, nameIndex := 29, descriptorIndex := 30, attributes := #[] }, { accessFlags := 74, nameIndex := 154, descriptorIndex := 155, attributes := #[] }, { accessFlags := 10, nameIndex := 217, descriptorIndex := 218, attributes := #[] }, { accessFlags := 10, nameIndex := 221, descriptorIndex := 222, attributes := #[] }, { accessFlags := 8, nameIndex := 562, descriptorIndex := 563, attributes := #[] }])
  fields := #[{ name := "in", type := (.object "java/io/InputStream"), accessFlags := 25, slot := 0, constantValue := 0 }, { name := "out", type := (.object "java/io/PrintStream"), accessFlags := 25, slot := 1, constantValue := 0 }, { name := "err", type := (.object "java/io/PrintStream"), accessFlags := 25, slot := 2, constantValue := 0 }, { name := "initialIn", type := (.object "java/io/InputStream"), accessFlags := 10, slot := 3, constantValue := 0 }, { name := "NEVER", type := .int, accessFlags := 26, slot := 4, constantValue := 0 }, { name := "MAYBE", type := .int, accessFlags := 26, slot := 5, constantValue := 0 }, { name := "allowSecurityManager", type := .int, accessFlags := 10, slot := 6, constantValue := 0 }, { name := "security", type := (.object "java/lang/SecurityManager"), accessFlags := 74, slot := 7, constantValue := 0 }, { name := "notSupportedJnuEncoding", type := (.object "java/lang/String"), accessFlags := 10, slot := 8, constantValue := 0 }, { name := "cons", type := (.object "java/io/Console"), accessFlags := 74, slot := 9, constantValue := 0 }, { name := "initialErrStream", type := (.object "java/io/PrintStream"), accessFlags := 74, slot := 10, constantValue := 0 }, { name := "props", type := (.object "java/util/Properties"), accessFlags := 10, slot := 11, constantValue := 0 }, { name := "lineSeparator", type := (.object "java/lang/String"), accessFlags := 10, slot := 12, constantValue := 0 }, { name := "bootLayer", type := (.object "java/lang/ModuleLayer"), accessFlags := 8, slot := 13, constantValue := 0 }]
  methods := #[k17m0, k17m1]
  instanceTypes := #[]
  staticTypes := #[(.object "java/io/InputStream"), (.object "java/io/PrintStream"), (.object "java/io/PrintStream"), (.object "java/io/InputStream"), .int, .int, .int, (.object "java/lang/SecurityManager"), (.object "java/lang/String"), (.object "java/io/Console"), (.object "java/io/PrintStream"), (.object "java/util/Properties"), (.object "java/lang/String"), (.object "java/lang/ModuleLayer")]
  resolved := Array.replicate 834 none
  statics := none }

def pool18 : Array CpInfo := pool [(2, .class_ 4), (1, u "java/lang/Object"), (0, u "<init>"), (0, u "()V"), (1, .class_ 10), (1, u "java/lang/Number"), (2, .class_ 14), (0, u "java/io/Serializable"), (0, u "serialVersionUID"), (0, u "J")] 20

def k18m0 : Method := { name := "<init>", desc := "()V", sig := { parameters := [], returnType := none }, accessFlags := 1, code := none }
/-- java/lang/Number -/
def k18 : Class := { plain "java/lang/Number" (some 0) with
  accessFlags := 1057
  interfaces := #[8]
  cf := some (fileOf pool18 8 #[] #[{ accessFlags := 1, nameIndex := 5, descriptorIndex := 6, attributes := #[] }] 1057 2 #[13] #[{ accessFlags := 26, nameIndex := 15, descriptorIndex := 16, attributes := #[] }])
  fields := #[{ name := "serialVersionUID", type := .long, accessFlags := 26, slot := 0, constantValue := 0 }]
  methods := #[k18m0]
  instanceTypes := #[]
  staticTypes := #[.long]
  resolved := Array.replicate 37 none
  statics := none }

def pool19 : Array CpInfo := pool [(1, .class_ 2), (0, u "java/lang/Integer"), (16, u "digits"), (0, u "[C"), (33, u "(I)I"), (19, u "stringSize"), (2, u "getChars"), (0, u "(II[B)I"), (4, .fieldref 1 84), (0, .nameAndType 85 86), (0, u "DigitOnes"), (0, u "[B"), (0, .fieldref 1 88), (0, .nameAndType 89 86), (0, u "DigitTens"), (99, .class_ 190), (0, u "java/lang/Integer$IntegerCache"), (3, u "I"), (8, .class_ 204), (0, u "java/lang/Number"), (2, u "value"), (94, u "TYPE"), (0, u "Ljava/lang/Class;"), (0, .class_ 305), (0, u "java/lang/Comparable"), (0, .class_ 307), (0, u "java/lang/constant/Constable"), (0, .class_ 309), (0, u "java/lang/constant/ConstantDesc"), (0, u "MIN_VALUE"), (1, u "MAX_VALUE"), (3, u "SIZE"), (1, u "BYTES"), (1, u "serialVersionUID"), (0, u "J")] 131

def k19c0 : Code := { maxStack := 4, maxLocals := 7, code := jdk_33_method_12_code, exceptionTable := #[], attributes := #[] }
def k19m0 : Method := { name := "getChars", desc := "(II[B)I", sig := { parameters := [.int, .int, (.array .byte)], returnType := some .int }, accessFlags := 8, code := some k19c0 }
def k19c1 : Code := { maxStack := 2, maxLocals := 4, code := jdk_33_method_13_code, exceptionTable := #[], attributes := #[] }
def k19m1 : Method := { name := "stringSize", desc := "(I)I", sig := { parameters := [.int], returnType := some .int }, accessFlags := 8, code := some k19c1 }
/-- java/lang/Integer -/
def k19 : Class := { plain "java/lang/Integer" (some 18) with
  accessFlags := 49
  interfaces := #[9, 11, 12]
  cf := some (fileOf pool19 1 #[.nestMembers #[189]] #[{ accessFlags := 8, nameIndex := 77, descriptorIndex := 78, attributes := #[] }, { accessFlags := 8, nameIndex := 74, descriptorIndex := 54, attributes := #[] }] 49 203 #[304, 306, 308] #[{ accessFlags := 25, nameIndex := 310, descriptorIndex := 194, attributes := #[] }, { accessFlags := 25, nameIndex := 312, descriptorIndex := 194, attributes := #[] }, { accessFlags := 25, nameIndex := 302, descriptorIndex := 303, attributes := #[] }, { accessFlags := 24, nameIndex := 19, descriptorIndex := 20, attributes := #[] }, { accessFlags := 24, nameIndex := 89, descriptorIndex := 86, attributes := #[] }, { accessFlags := 24, nameIndex := 85, descriptorIndex := 86, attributes := #[] }, { accessFlags := 18, nameIndex := 207, descriptorIndex := 194, attributes := #[] }, { accessFlags := 25, nameIndex := 316, descriptorIndex := 194, attributes := #[] }, { accessFlags := 25, nameIndex := 318, descriptorIndex := 194, attributes := #[] }, { accessFlags := 26, nameIndex := 320, descriptorIndex := 321, attributes := #[] }])
  fields := #[{ name := "MIN_VALUE", type := .int, accessFlags := 25, slot := 0, constantValue := 0 }, { name := "MAX_VALUE", type := .int, accessFlags := 25, slot := 1, constantValue := 0 }, { name := "TYPE", type := (.object "java/lang/Class"), accessFlags := 25, slot := 2, constantValue := 0 }, { name := "digits", type := (.array .char), accessFlags := 24, slot := 3, constantValue := 0 }, { name := "DigitTens", type := (.array .byte), accessFlags := 24, slot := 4, constantValue := 0 }, { name := "DigitOnes", type := (.array .byte), accessFlags := 24, slot := 5, constantValue := 0 }, { name := "value", type := .int, accessFlags := 18, slot := 0, constantValue := 0 }, { name := "SIZE", type := .int, accessFlags := 25, slot := 6, constantValue := 0 }, { name := "BYTES", type := .int, accessFlags := 25, slot := 7, constantValue := 0 }, { name := "serialVersionUID", type := .long, accessFlags := 26, slot := 8, constantValue := 0 }]
  methods := #[k19m0, k19m1]
  instanceTypes := #[.int]
  staticTypes := #[.int, .int, (.object "java/lang/Class"), (.array .char), (.array .byte), (.array .byte), .int, .int, .long]
  resolved := Array.replicate 453 none
  statics := some 1 }

def pool20 : Array CpInfo := pool [(1, .class_ 2), (0, u "java/lang/String"), (1, .class_ 6), (1, u "java/lang/Object"), (0, u "<init>"), (0, u "()V"), (0, .methodref 1 10), (0, .nameAndType 11 12), (0, u "checkIndex"), (0, u "(II)V"), (1, .class_ 16), (1, u "java/lang/StringLatin1"), (36, u "([BI)C"), (67, u "$assertionsDisabled"), (0, u "Z"), (98, .class_ 223), (1, u "java/lang/StringLatin1$LinesSpliterator"), (28, u "charAt"), (137, .class_ 391), (0, u "java/lang/StringLatin1$CharsSpliterator")] 3

def k20m0 : Method := { name := "<init>", desc := "()V", sig := { parameters := [], returnType := none }, accessFlags := 0, code := none }
def k20c1 : Code := { maxStack := 2, maxLocals := 2, code := jdk_43_method_2_code, exceptionTable := #[], attributes := #[] }
def k20m1 : Method := { name := "charAt", desc := "([BI)C", sig := { parameters := [(.array .byte), .int], returnType := some .char }, accessFlags := 9, code := some k20c1 }
/-- java/lang/StringLatin1 -/
def k20 : Class := { plain "java/lang/StringLatin1" (some 0) with
  accessFlags := 48
  interfaces := #[]
  cf := some (fileOf pool20 14 #[.nestMembers #[390, 221]] #[{ accessFlags := 0, nameIndex := 7, descriptorIndex := 8, attributes := #[] }, { accessFlags := 9, nameIndex := 252, descriptorIndex := 53, attributes := #[] }] 48 4 #[] #[{ accessFlags := 4120, nameIndex := 121, descriptorIndex := 122, attributes := #[] }])
  fields := #[{ name := "$assertionsDisabled", type := .boolean, accessFlags := 4120, slot := 0, constantValue := 0 }]
  methods := #[k20m0, k20m1]
  instanceTypes := #[]
  staticTypes := #[.boolean]
  resolved := Array.replicate 395 none
  statics := none }

def pool21 : Array CpInfo := pool [(2, .class_ 4), (1, u "java/lang/Object"), (0, u "<init>"), (0, u "()V"), (17, .class_ 26), (1, u "jdk/internal/util/Preconditions"), (6, u "checkIndex"), (21, .class_ 56), (0, u "jdk/internal/util/Preconditions$4"), (57, .class_ 115), (0, u "jdk/internal/util/Preconditions$1"), (7, u "SIOOBE_FORMATTER"), (0, u "Ljava/util/function/BiFunction;"), (0, .class_ 126), (0, u "jdk/internal/util/Preconditions$2"), (3, u "AIOOBE_FORMATTER"), (0, .class_ 132), (0, u "jdk/internal/util/Preconditions$3"), (3, u "IOOBE_FORMATTER"), (41, u "(IILjava/util/function/BiFunction;)I")] 15

def k21m0 : Method := { name := "<init>", desc := "()V", sig := { parameters := [], returnType := none }, accessFlags := 1, code := none }
def k21c1 : Code := { maxStack := 3, maxLocals := 3, code := jdk_41_method_11_code, exceptionTable := #[], attributes := #[] }
def k21m1 : Method := { name := "checkIndex", desc := "(IILjava/util/function/BiFunction;)I", sig := { parameters := [.int, .int, (.object "java/util/function/BiFunction")], returnType := some .int }, accessFlags := 9, code := some k21c1 }
/-- jdk/internal/util/Preconditions -/
def k21 : Class := { plain "jdk/internal/util/Preconditions" (some 0) with
  accessFlags := 33
  interfaces := #[]
  cf := some (fileOf pool21 24 #[.nestMembers #[55, 131, 125, 114]] #[{ accessFlags := 1, nameIndex := 5, descriptorIndex := 6, attributes := #[] }, { accessFlags := 9, nameIndex := 33, descriptorIndex := 178, attributes := #[] }] 33 2 #[] #[{ accessFlags := 25, nameIndex := 123, descriptorIndex := 124, attributes := #[] }, { accessFlags := 25, nameIndex := 130, descriptorIndex := 124, attributes := #[] }, { accessFlags := 25, nameIndex := 136, descriptorIndex := 124, attributes := #[] }])
  fields := #[{ name := "SIOOBE_FORMATTER", type := (.object "java/util/function/BiFunction"), accessFlags := 25, slot := 0, constantValue := 0 }, { name := "AIOOBE_FORMATTER", type := (.object "java/util/function/BiFunction"), accessFlags := 25, slot := 1, constantValue := 0 }, { name := "IOOBE_FORMATTER", type := (.object "java/util/function/BiFunction"), accessFlags := 25, slot := 2, constantValue := 0 }]
  methods := #[k21m0, k21m1]
  instanceTypes := #[]
  staticTypes := #[(.object "java/util/function/BiFunction"), (.object "java/util/function/BiFunction"), (.object "java/util/function/BiFunction")]
  resolved := Array.replicate 194 none
  statics := some 2 }

def pool22 : Array CpInfo := pool [(1, .class_ 2), (0, u "java/lang/Cloneable"), (0, .class_ 4), (0, u "java/lang/Object")] 2

/-- java/lang/Cloneable -/
def k22 : Class := { plain "java/lang/Cloneable" (some 0) with
  accessFlags := 1537
  interfaces := #[]
  cf := some (fileOf pool22 1 #[] #[] 1537 3 #[] #[])
  fields := #[]
  methods := #[]
  instanceTypes := #[]
  staticTypes := #[]
  resolved := Array.replicate 7 none
  statics := none }

/-- the primitive byte -/
def k23 : Class := { plain "byte" none with kind := .primitive 'B', accessFlags := 0x411 }
/-- [B -/
def k24 : Class := { plain "[B" (some 0) with kind := .array 23 .byte, interfaces := #[22, 8], accessFlags := 1041 }

/-- the primitive int -/
def k25 : Class := { plain "int" none with kind := .primitive 'I', accessFlags := 0x411 }
/-- [I -/
def k26 : Class := { plain "[I" (some 0) with kind := .array 25 .int, interfaces := #[22, 8], accessFlags := 1041 }

/-- the primitive long -/
def k27 : Class := { plain "long" none with kind := .primitive 'J', accessFlags := 0x411 }
/-- [J -/
def k28 : Class := { plain "[J" (some 0) with kind := .array 27 .long, interfaces := #[22, 8], accessFlags := 1041 }

def heap : Heap := #[{ cls := 13, slots := #[.long 0, .int 1, .null, .int 0, .null, .int 0, .int 0], vm := .statics 13 },
  { cls := 19, slots := #[.int 0, .int 0, .null, .null, .ref 4, .ref 3, .int 0, .int 0, .long 0], vm := .statics 19 },
  { cls := 21, slots := #[.null, .null, .null], vm := .statics 21 },
  { cls := 24, slots := #[.int 48, .int 49, .int 50, .int 51, .int 52, .int 53, .int 54, .int 55, .int 56, .int 57, .int 48, .int 49, .int 50, .int 51, .int 52, .int 53, .int 54, .int 55, .int 56, .int 57, .int 48, .int 49, .int 50, .int 51, .int 52, .int 53, .int 54, .int 55, .int 56, .int 57, .int 48, .int 49, .int 50, .int 51, .int 52, .int 53, .int 54, .int 55, .int 56, .int 57, .int 48, .int 49, .int 50, .int 51, .int 52, .int 53, .int 54, .int 55, .int 56, .int 57, .int 48, .int 49, .int 50, .int 51, .int 52, .int 53, .int 54, .int 55, .int 56, .int 57, .int 48, .int 49, .int 50, .int 51, .int 52, .int 53, .int 54, .int 55, .int 56, .int 57, .int 48, .int 49, .int 50, .int 51, .int 52, .int 53, .int 54, .int 55, .int 56, .int 57, .int 48, .int 49, .int 50, .int 51, .int 52, .int 53, .int 54, .int 55, .int 56, .int 57, .int 48, .int 49, .int 50, .int 51, .int 52, .int 53, .int 54, .int 55, .int 56, .int 57], vm := .none },
  { cls := 24, slots := #[.int 48, .int 48, .int 48, .int 48, .int 48, .int 48, .int 48, .int 48, .int 48, .int 48, .int 49, .int 49, .int 49, .int 49, .int 49, .int 49, .int 49, .int 49, .int 49, .int 49, .int 50, .int 50, .int 50, .int 50, .int 50, .int 50, .int 50, .int 50, .int 50, .int 50, .int 51, .int 51, .int 51, .int 51, .int 51, .int 51, .int 51, .int 51, .int 51, .int 51, .int 52, .int 52, .int 52, .int 52, .int 52, .int 52, .int 52, .int 52, .int 52, .int 52, .int 53, .int 53, .int 53, .int 53, .int 53, .int 53, .int 53, .int 53, .int 53, .int 53, .int 54, .int 54, .int 54, .int 54, .int 54, .int 54, .int 54, .int 54, .int 54, .int 54, .int 55, .int 55, .int 55, .int 55, .int 55, .int 55, .int 55, .int 55, .int 55, .int 55, .int 56, .int 56, .int 56, .int 56, .int 56, .int 56, .int 56, .int 56, .int 56, .int 56, .int 57, .int 57, .int 57, .int 57, .int 57, .int 57, .int 57, .int 57, .int 57, .int 57], vm := .none }]
def classes : Array Class := #[k0, k1, k2, k3, k4, k5, k6, k7, k8, k9, k10, k11, k12, k13, k14, k15, k16, k17, k18, k19, k20, k21, k22, k23, k24, k25, k26, k27, k28]
def interned : List (Array UInt16 × Addr) := []
def slotsUsed : Nat := 219
def theMethod : MethodId := ⟨1, 1⟩
def args0 : Array Value := #[.int 1, .int 2, .int 1]
def aboutOver (below : List Frame) : State where
  vm := { classes := classes, interned := interned.toArray }
  heap := heap
  slotsUsed := slotsUsed
  threads := #[{ frames := .invoking theMethod args0 :: below }]
def below0 : List Frame := [.native { method := ⟨0, 0⟩, args := #[] }]
def about1 : State := aboutOver below0
def p0 : Program := .bare "" "" ""
def e0 : Env := launch0.env 0 0 0
theorem w_frames : about1.frames = Frame.invoking theMethod args0 :: below0 := rfl
set_option maxRecDepth 65536 in
theorem w_args : argsFit about1.vm theMethod args0 = true := by decide +kernel
set_option maxRecDepth 65536 in
theorem w_heap : heapFits about1 = true := by decide +kernel
set_option maxRecDepth 65536 in
theorem w_runnable : about1.curStatus? = some .runnable := by decide +kernel
set_option maxRecDepth 65536 in
theorem w_alone : about1.alone = true := by decide +kernel
set_option maxRecDepth 65536 in
theorem w_named : about1.methodNamed? x = some theMethod := by decide +kernel
set_option maxRecDepth 65536 in
theorem w_hears : about1.hears theMethod below0 = true := by decide +kernel
set_option maxRecDepth 65536 in
theorem w_ripe : about1.ripe theMethod args0 below0 = true := by decide +kernel
theorem w_running : about1.status = .running := rfl
set_option maxRecDepth 65536 in
theorem w_room : about1.hasRoom e0.platform room_1 = true :=
  launch0.hasRoom_least _ room_1 (by decide +kernel) (by decide +kernel) (by decide +kernel) (by decide +kernel) (by decide +kernel) (by decide +kernel)
theorem allAtoms_all (ts : List Jvm.Cond) (a : Array Jvm.Value) (st : Jvm.State) : (allAtoms ts).before a st = ts.all (fun c => c.before a st) := by
  induction ts with
  | nil => rfl
  | cons c t ih =>
    show (Jvm.Cond.and c (allAtoms t)).before a st = _
    rw [Jvm.Cond.before_and, ih, List.all_cons]
def words1 : List Jvm.Cond := Jvm.Cond.code x code maxLocals ret :: tables_1
/-- a 'code' word, met by the world's own term for the bytes: nothing is compared byte by byte -/
theorem code_word {y : MethodName} {bytes : ByteArray} {mx : Nat} {rt : Option FieldType} {a : Array Value} {s : State} {m : MethodId} {meth : Method} {c : Code} (h1 : s.methodNamed? y = some m) (h2 : s.vm.method? m = some meth) (h3 : meth.code = some c) (h4 : c.code = bytes)
    (h5 : (c.maxLocals == mx && c.exceptionTable.isEmpty && decide (c.maxStack ≤ mostOperands) && decide (meth.sig.returnType = rt) && !meth.locks && decide (parseMethodDescriptor y.desc = some meth.sig)) = true) : (Jvm.Cond.code y bytes mx rt).before a s = true := by
  simp only [Bool.and_eq_true, beq_iff_eq, Bool.not_eq_true', decide_eq_true_eq] at h5
  obtain ⟨⟨⟨⟨⟨g1, g2⟩, g3⟩, g4⟩, g5⟩, g6⟩ := h5
  simp [Cond.before, Cond.holds, Cond.value, h1, h2, h3, h4, g1, g2, g3, g4, g5, g6]
def isCode : Jvm.Cond → Bool
  | .code _ _ _ _ => true
  | _ => false
theorem all_split {L : List Jvm.Cond} {P : Jvm.Cond → Bool} (h1 : L.all (fun c => isCode c || P c) = true) (h2 : ∀ c ∈ L.filter isCode, P c = true) : L.all P = true := by
  refine List.all_eq_true.mpr fun c hc => ?_
  have h := List.all_eq_true.mp h1 c hc
  rcases Bool.eq_false_or_eq_true (isCode c) with hi | hi
  · exact h2 c (List.mem_filter.mpr ⟨hc, hi⟩)
  · simpa [hi] using h
set_option maxRecDepth 65536 in
theorem w_c0 : (Jvm.Cond.code x code maxLocals ret).before args0 about1 = true := code_word (m := ⟨1, 1⟩) (meth := k1m1) (c := k1c1) (by decide +kernel) rfl rfl rfl (by decide +kernel)
set_option maxRecDepth 65536 in
theorem w_c1 : (Jvm.Cond.code ({ cls := "com/example/visit_by_value/visitbyvalue/cli/OptionValue$WholeNumber", name := "<init>", desc := "(II)V" } : Jvm.MethodName) prog_7_method_1_code (3 : Nat) (Option.none : Option Jvm.ClassFile.FieldType)).before args0 about1 = true := code_word (m := ⟨4, 0⟩) (meth := k4m0) (c := k4c0) (by decide +kernel) rfl rfl rfl (by decide +kernel)
set_option maxRecDepth 65536 in
theorem w_c2 : (Jvm.Cond.code ({ cls := "java/lang/Record", name := "<init>", desc := "()V" } : Jvm.MethodName) jdk_30_method_1_code (1 : Nat) (Option.none : Option Jvm.ClassFile.FieldType)).before args0 about1 = true := code_word (m := ⟨2, 0⟩) (meth := k2m0) (c := k2c0) (by decide +kernel) rfl rfl rfl (by decide +kernel)
set_option maxRecDepth 65536 in
theorem w_c3 : (Jvm.Cond.code ({ cls := "java/lang/Object", name := "<init>", desc := "()V" } : Jvm.MethodName) object_method_1_code (1 : Nat) (Option.none : Option Jvm.ClassFile.FieldType)).before args0 about1 = true := code_word (m := ⟨0, 0⟩) (meth := k0m0) (c := k0c0) (by decide +kernel) rfl rfl rfl (by decide +kernel)
set_option maxRecDepth 65536 in
theorem w_c4 : (Jvm.Cond.code ({ cls := "com/example/visit_by_value/visitbyvalue/cli/OptionValue$WholeNumber", name := "range", desc := "()Ljava/lang/String;" } : Jvm.MethodName) prog_7_method_4_code (1 : Nat) (Option.some (Jvm.ClassFile.FieldType.object "java/lang/String"))).before args0 about1 = true := code_word (m := ⟨4, 1⟩) (meth := k4m1) (c := k4c1) (by decide +kernel) rfl rfl rfl (by decide +kernel)
set_option maxRecDepth 65536 in
theorem w_c5 : (Jvm.Cond.code ({ cls := "java/lang/StringBuilder", name := "<init>", desc := "()V" } : Jvm.MethodName) jdk_67_method_1_code (1 : Nat) (Option.none : Option Jvm.ClassFile.FieldType)).before args0 about1 = true := code_word (m := ⟨10, 0⟩) (meth := k10m0) (c := k10c0) (by decide +kernel) rfl rfl rfl (by decide +kernel)
set_option maxRecDepth 65536 in
theorem w_c6 : (Jvm.Cond.code ({ cls := "java/lang/AbstractStringBuilder", name := "<init>", desc := "(I)V" } : Jvm.MethodName) jdk_68_method_2_code (2 : Nat) (Option.none : Option Jvm.ClassFile.FieldType)).before args0 about1 = true := code_word (m := ⟨7, 1⟩) (meth := k7m1) (c := k7c1) (by decide +kernel) rfl rfl rfl (by decide +kernel)
set_option maxRecDepth 65536 in
theorem w_c7 : (Jvm.Cond.code ({ cls := "java/lang/StringBuilder", name := "append", desc := "(Ljava/lang/String;)Ljava/lang/StringBuilder;" } : Jvm.MethodName) jdk_67_method_7_code (2 : Nat) (Option.some (Jvm.ClassFile.FieldType.object "java/lang/StringBuilder"))).before args0 about1 = true := code_word (m := ⟨10, 1⟩) (meth := k10m1) (c := k10c1) (by decide +kernel) rfl rfl rfl (by decide +kernel)
set_option maxRecDepth 65536 in
theorem w_c8 : (Jvm.Cond.code ({ cls := "java/lang/AbstractStringBuilder", name := "append", desc := "(Ljava/lang/String;)Ljava/lang/AbstractStringBuilder;" } : Jvm.MethodName) jdk_68_method_22_code (3 : Nat) (Option.some (Jvm.ClassFile.FieldType.object "java/lang/AbstractStringBuilder"))).before args0 about1 = true := code_word (m := ⟨7, 5⟩) (meth := k7m5) (c := k7c5) (by decide +kernel) rfl rfl rfl (by decide +kernel)
set_option maxRecDepth 65536 in
theorem w_c9 : (Jvm.Cond.code ({ cls := "java/lang/String", name := "length", desc := "()I" } : Jvm.MethodName) jdk_42_method_54_code (1 : Nat) (Option.some Jvm.ClassFile.FieldType.int)).before args0 about1 = true := code_word (m := ⟨13, 2⟩) (meth := k13m2) (c := k13c2) (by decide +kernel) rfl rfl rfl (by decide +kernel)
set_option maxRecDepth 65536 in
theorem w_c10 : (Jvm.Cond.code ({ cls := "java/lang/String", name := "coder", desc := "()B" } : Jvm.MethodName) jdk_42_method_152_code (1 : Nat) (Option.some Jvm.ClassFile.FieldType.byte)).before args0 about1 = true := code_word (m := ⟨13, 6⟩) (meth := k13m6) (c := k13c6) (by decide +kernel) rfl rfl rfl (by decide +kernel)
set_option maxRecDepth 65536 in
theorem w_c11 : (Jvm.Cond.code ({ cls := "java/lang/AbstractStringBuilder", name := "ensureCapacityInternal", desc := "(I)V" } : Jvm.MethodName) jdk_68_method_9_code (3 : Nat) (Option.none : Option Jvm.ClassFile.FieldType)).before args0 about1 = true := code_word (m := ⟨7, 3⟩) (meth := k7m3) (c := k7c3) (by decide +kernel) rfl rfl rfl (by decide +kernel)
set_option maxRecDepth 65536 in
theorem w_c12 : (Jvm.Cond.code ({ cls := "java/lang/AbstractStringBuilder", name := "newCapacity", desc := "(I)I" } : Jvm.MethodName) jdk_68_method_10_code (6 : Nat) (Option.some Jvm.ClassFile.FieldType.int)).before args0 about1 = true := code_word (m := ⟨7, 4⟩) (meth := k7m4) (c := k7c4) (by decide +kernel) rfl rfl rfl (by decide +kernel)
set_option maxRecDepth 65536 in
theorem w_c13 : (Jvm.Cond.code ({ cls := "jdk/internal/util/ArraysSupport", name := "newLength", desc := "(III)I" } : Jvm.MethodName) jdk_48_method_27_code (4 : Nat) (Option.some Jvm.ClassFile.FieldType.int)).before args0 about1 = true := code_word (m := ⟨14, 1⟩) (meth := k14m1) (c := k14c1) (by decide +kernel) rfl rfl rfl (by decide +kernel)
set_option maxRecDepth 65536 in
theorem w_c14 : (Jvm.Cond.code ({ cls := "java/lang/Math", name := "max", desc := "(II)I" } : Jvm.MethodName) jdk_29_method_65_code (2 : Nat) (Option.some Jvm.ClassFile.FieldType.int)).before args0 about1 = true := code_word (m := ⟨15, 2⟩) (meth := k15m2) (c := k15c2) (by decide +kernel) rfl rfl rfl (by decide +kernel)
set_option maxRecDepth 65536 in
theorem w_c15 : (Jvm.Cond.code ({ cls := "java/util/Arrays", name := "copyOf", desc := "([BI)[B" } : Jvm.MethodName) jdk_65_method_121_code (3 : Nat) (Option.some (Jvm.ClassFile.FieldType.array Jvm.ClassFile.FieldType.byte))).before args0 about1 = true := code_word (m := ⟨16, 1⟩) (meth := k16m1) (c := k16c1) (by decide +kernel) rfl rfl rfl (by decide +kernel)
set_option maxRecDepth 65536 in
theorem w_c16 : (Jvm.Cond.code ({ cls := "java/lang/Math", name := "min", desc := "(II)I" } : Jvm.MethodName) jdk_29_method_69_code (2 : Nat) (Option.some Jvm.ClassFile.FieldType.int)).before args0 about1 = true := code_word (m := ⟨15, 3⟩) (meth := k15m3) (c := k15c3) (by decide +kernel) rfl rfl rfl (by decide +kernel)
set_option maxRecDepth 65536 in
theorem w_c17 : (Jvm.Cond.code ({ cls := "java/lang/AbstractStringBuilder", name := "putStringAt", desc := "(ILjava/lang/String;)V" } : Jvm.MethodName) jdk_68_method_73_code (3 : Nat) (Option.none : Option Jvm.ClassFile.FieldType)).before args0 about1 = true := code_word (m := ⟨7, 10⟩) (meth := k7m10) (c := k7c10) (by decide +kernel) rfl rfl rfl (by decide +kernel)
set_option maxRecDepth 65536 in
theorem w_c18 : (Jvm.Cond.code ({ cls := "java/lang/AbstractStringBuilder", name := "inflateIfNeededFor", desc := "(Ljava/lang/String;)V" } : Jvm.MethodName) jdk_68_method_71_code (2 : Nat) (Option.none : Option Jvm.ClassFile.FieldType)).before args0 about1 = true := code_word (m := ⟨7, 9⟩) (meth := k7m9) (c := k7c9) (by decide +kernel) rfl rfl rfl (by decide +kernel)
set_option maxRecDepth 65536 in
theorem w_c19 : (Jvm.Cond.code ({ cls := "java/lang/String", name := "getBytes", desc := "([BIB)V" } : Jvm.MethodName) jdk_42_method_147_code (4 : Nat) (Option.none : Option Jvm.ClassFile.FieldType)).before args0 about1 = true := code_word (m := ⟨13, 4⟩) (meth := k13m4) (c := k13c4) (by decide +kernel) rfl rfl rfl (by decide +kernel)
set_option maxRecDepth 65536 in
theorem w_c20 : (Jvm.Cond.code ({ cls := "java/lang/StringBuilder", name := "append", desc := "(I)Ljava/lang/StringBuilder;" } : Jvm.MethodName) jdk_67_method_15_code (2 : Nat) (Option.some (Jvm.ClassFile.FieldType.object "java/lang/StringBuilder"))).before args0 about1 = true := code_word (m := ⟨10, 2⟩) (meth := k10m2) (c := k10c2) (by decide +kernel) rfl rfl rfl (by decide +kernel)
set_option maxRecDepth 65536 in
theorem w_c21 : (Jvm.Cond.code ({ cls := "java/lang/AbstractStringBuilder", name := "append", desc := "(I)Ljava/lang/AbstractStringBuilder;" } : Jvm.MethodName) jdk_68_method_32_code (4 : Nat) (Option.some (Jvm.ClassFile.FieldType.object "java/lang/AbstractStringBuilder"))).before args0 about1 = true := code_word (m := ⟨7, 6⟩) (meth := k7m6) (c := k7c6) (by decide +kernel) rfl rfl rfl (by decide +kernel)
set_option maxRecDepth 65536 in
theorem w_c22 : (Jvm.Cond.code ({ cls := "java/lang/Integer", name := "stringSize", desc := "(I)I" } : Jvm.MethodName) jdk_33_method_13_code (4 : Nat) (Option.some Jvm.ClassFile.FieldType.int)).before args0 about1 = true := code_word (m := ⟨19, 1⟩) (meth := k19m1) (c := k19c1) (by decide +kernel) rfl rfl rfl (by decide +kernel)
set_option maxRecDepth 65536 in
theorem w_c23 : (Jvm.Cond.code ({ cls := "java/lang/AbstractStringBuilder", name := "isLatin1", desc := "()Z" } : Jvm.MethodName) jdk_68_method_68_code (1 : Nat) (Option.some Jvm.ClassFile.FieldType.boolean)).before args0 about1 = true := code_word (m := ⟨7, 8⟩) (meth := k7m8) (c := k7c8) (by decide +kernel) rfl rfl rfl (by decide +kernel)
set_option maxRecDepth 65536 in
theorem w_c24 : (Jvm.Cond.code ({ cls := "java/lang/Integer", name := "getChars", desc := "(II[B)I" } : Jvm.MethodName) jdk_33_method_12_code (7 : Nat) (Option.some Jvm.ClassFile.FieldType.int)).before args0 about1 = true := code_word (m := ⟨19, 0⟩) (meth := k19m0) (c := k19c0) (by decide +kernel) rfl rfl rfl (by decide +kernel)
set_option maxRecDepth 65536 in
theorem w_c25 : (Jvm.Cond.code ({ cls := "java/lang/StringBuilder", name := "toString", desc := "()Ljava/lang/String;" } : Jvm.MethodName) jdk_67_method_42_code (1 : Nat) (Option.some (Jvm.ClassFile.FieldType.object "java/lang/String"))).before args0 about1 = true := code_word (m := ⟨10, 3⟩) (meth := k10m3) (c := k10c3) (by decide +kernel) rfl rfl rfl (by decide +kernel)
set_option maxRecDepth 65536 in
theorem w_c26 : (Jvm.Cond.code ({ cls := "java/lang/String", name := "<init>", desc := "(Ljava/lang/StringBuilder;)V" } : Jvm.MethodName) jdk_42_method_53_code (2 : Nat) (Option.none : Option Jvm.ClassFile.FieldType)).before args0 about1 = true := code_word (m := ⟨13, 1⟩) (meth := k13m1) (c := k13c1) (by decide +kernel) rfl rfl rfl (by decide +kernel)
set_option maxRecDepth 65536 in
theorem w_c27 : (Jvm.Cond.code ({ cls := "java/lang/String", name := "<init>", desc := "(Ljava/lang/AbstractStringBuilder;Ljava/lang/Void;)V" } : Jvm.MethodName) jdk_42_method_150_code (5 : Nat) (Option.none : Option Jvm.ClassFile.FieldType)).before args0 about1 = true := code_word (m := ⟨13, 5⟩) (meth := k13m5) (c := k13c5) (by decide +kernel) rfl rfl rfl (by decide +kernel)
set_option maxRecDepth 65536 in
theorem w_c28 : (Jvm.Cond.code ({ cls := "java/lang/AbstractStringBuilder", name := "getValue", desc := "()[B" } : Jvm.MethodName) jdk_68_method_64_code (1 : Nat) (Option.some (Jvm.ClassFile.FieldType.array Jvm.ClassFile.FieldType.byte))).before args0 about1 = true := code_word (m := ⟨7, 7⟩) (meth := k7m7) (c := k7c7) (by decide +kernel) rfl rfl rfl (by decide +kernel)
set_option maxRecDepth 65536 in
theorem w_c29 : (Jvm.Cond.code ({ cls := "java/lang/StringBuilder", name := "length", desc := "()I" } : Jvm.MethodName) jdk_67_method_93_code (1 : Nat) (Option.some Jvm.ClassFile.FieldType.int)).before args0 about1 = true := code_word (m := ⟨10, 4⟩) (meth := k10m4) (c := k10c4) (by decide +kernel) rfl rfl rfl (by decide +kernel)
set_option maxRecDepth 65536 in
theorem w_c30 : (Jvm.Cond.code ({ cls := "java/lang/AbstractStringBuilder", name := "length", desc := "()I" } : Jvm.MethodName) jdk_68_method_6_code (1 : Nat) (Option.some Jvm.ClassFile.FieldType.int)).before args0 about1 = true := code_word (m := ⟨7, 2⟩) (meth := k7m2) (c := k7c2) (by decide +kernel) rfl rfl rfl (by decide +kernel)
set_option maxRecDepth 65536 in
theorem w_c31 : (Jvm.Cond.code ({ cls := "java/util/Arrays", name := "copyOfRange", desc := "([BII)[B" } : Jvm.MethodName) jdk_65_method_132_code (3 : Nat) (Option.some (Jvm.ClassFile.FieldType.array Jvm.ClassFile.FieldType.byte))).before args0 about1 = true := code_word (m := ⟨16, 3⟩) (meth := k16m3) (c := k16c3) (by decide +kernel) rfl rfl rfl (by decide +kernel)
set_option maxRecDepth 65536 in
theorem w_c32 : (Jvm.Cond.code ({ cls := "java/util/Arrays", name := "copyOfRangeByte", desc := "([BII)[B" } : Jvm.MethodName) jdk_65_method_133_code (5 : Nat) (Option.some (Jvm.ClassFile.FieldType.array Jvm.ClassFile.FieldType.byte))).before args0 about1 = true := code_word (m := ⟨16, 4⟩) (meth := k16m4) (c := k16c4) (by decide +kernel) rfl rfl rfl (by decide +kernel)
set_option maxRecDepth 65536 in
theorem w_c33 : (Jvm.Cond.code ({ cls := "java/util/Arrays", name := "checkLength", desc := "(II)V" } : Jvm.MethodName) jdk_65_method_131_code (2 : Nat) (Option.none : Option Jvm.ClassFile.FieldType)).before args0 about1 = true := code_word (m := ⟨16, 2⟩) (meth := k16m2) (c := k16c2) (by decide +kernel) rfl rfl rfl (by decide +kernel)
set_option maxRecDepth 65536 in
theorem w_c34 : (Jvm.Cond.code ({ cls := "com/example/visit_by_value/visitbyvalue/cli/WholeNumberRangePinLaw", name := "width", desc := "(I)I" } : Jvm.MethodName) method_4_code (3 : Nat) (Option.some Jvm.ClassFile.FieldType.int)).before args0 about1 = true := code_word (m := ⟨1, 3⟩) (meth := k1m3) (c := k1c3) (by decide +kernel) rfl rfl rfl (by decide +kernel)
set_option maxRecDepth 65536 in
theorem w_c35 : (Jvm.Cond.code ({ cls := "java/lang/Math", name := "abs", desc := "(J)J" } : Jvm.MethodName) jdk_29_method_61_code (2 : Nat) (Option.some Jvm.ClassFile.FieldType.long)).before args0 about1 = true := code_word (m := ⟨15, 1⟩) (meth := k15m1) (c := k15c1) (by decide +kernel) rfl rfl rfl (by decide +kernel)
set_option maxRecDepth 65536 in
theorem w_c36 : (Jvm.Cond.code ({ cls := "com/example/visit_by_value/visitbyvalue/cli/WholeNumberRangePinLaw", name := "ndig", desc := "(J)I" } : Jvm.MethodName) method_3_code (2 : Nat) (Option.some Jvm.ClassFile.FieldType.int)).before args0 about1 = true := code_word (m := ⟨1, 2⟩) (meth := k1m2) (c := k1c2) (by decide +kernel) rfl rfl rfl (by decide +kernel)
set_option maxRecDepth 65536 in
theorem w_c37 : (Jvm.Cond.code ({ cls := "com/example/visit_by_value/visitbyvalue/cli/WholeNumberRangePinLaw", name := "lit", desc := "(Ljava/lang/String;ILjava/lang/String;)Z" } : Jvm.MethodName) method_9_code (3 : Nat) (Option.some Jvm.ClassFile.FieldType.boolean)).before args0 about1 = true := code_word (m := ⟨1, 8⟩) (meth := k1m8) (c := k1c8) (by decide +kernel) rfl rfl rfl (by decide +kernel)
set_option maxRecDepth 65536 in
theorem w_c38 : (Jvm.Cond.code ({ cls := "com/example/visit_by_value/visitbyvalue/cli/WholeNumberRangePinLaw", name := "c", desc := "(Ljava/lang/String;ILjava/lang/String;I)Z" } : Jvm.MethodName) method_8_code (4 : Nat) (Option.some Jvm.ClassFile.FieldType.boolean)).before args0 about1 = true := code_word (m := ⟨1, 7⟩) (meth := k1m7) (c := k1c7) (by decide +kernel) rfl rfl rfl (by decide +kernel)
set_option maxRecDepth 65536 in
theorem w_c39 : (Jvm.Cond.code ({ cls := "java/lang/String", name := "charAt", desc := "(I)C" } : Jvm.MethodName) jdk_42_method_56_code (2 : Nat) (Option.some Jvm.ClassFile.FieldType.char)).before args0 about1 = true := code_word (m := ⟨13, 3⟩) (meth := k13m3) (c := k13c3) (by decide +kernel) rfl rfl rfl (by decide +kernel)
set_option maxRecDepth 65536 in
theorem w_c40 : (Jvm.Cond.code ({ cls := "java/lang/String", name := "isLatin1", desc := "()Z" } : Jvm.MethodName) jdk_42_method_154_code (1 : Nat) (Option.some Jvm.ClassFile.FieldType.boolean)).before args0 about1 = true := code_word (m := ⟨13, 7⟩) (meth := k13m7) (c := k13c7) (by decide +kernel) rfl rfl rfl (by decide +kernel)
set_option maxRecDepth 65536 in
theorem w_c41 : (Jvm.Cond.code ({ cls := "java/lang/StringLatin1", name := "charAt", desc := "([BI)C" } : Jvm.MethodName) jdk_43_method_2_code (2 : Nat) (Option.some Jvm.ClassFile.FieldType.char)).before args0 about1 = true := code_word (m := ⟨20, 1⟩) (meth := k20m1) (c := k20c1) (by decide +kernel) rfl rfl rfl (by decide +kernel)
set_option maxRecDepth 65536 in
theorem w_c42 : (Jvm.Cond.code ({ cls := "java/lang/String", name := "checkIndex", desc := "(II)V" } : Jvm.MethodName) jdk_42_method_155_code (2 : Nat) (Option.none : Option Jvm.ClassFile.FieldType)).before args0 about1 = true := code_word (m := ⟨13, 8⟩) (meth := k13m8) (c := k13c8) (by decide +kernel) rfl rfl rfl (by decide +kernel)
set_option maxRecDepth 65536 in
theorem w_c43 : (Jvm.Cond.code ({ cls := "jdk/internal/util/Preconditions", name := "checkIndex", desc := "(IILjava/util/function/BiFunction;)I" } : Jvm.MethodName) jdk_41_method_11_code (3 : Nat) (Option.some Jvm.ClassFile.FieldType.int)).before args0 about1 = true := code_word (m := ⟨21, 1⟩) (meth := k21m1) (c := k21c1) (by decide +kernel) rfl rfl rfl (by decide +kernel)
set_option maxRecDepth 65536 in
theorem w_c44 : (Jvm.Cond.code ({ cls := "com/example/visit_by_value/visitbyvalue/cli/WholeNumberRangePinLaw", name := "num", desc := "(Ljava/lang/String;II)Z" } : Jvm.MethodName) method_7_code (7 : Nat) (Option.some Jvm.ClassFile.FieldType.boolean)).before args0 about1 = true := code_word (m := ⟨1, 6⟩) (meth := k1m6) (c := k1c6) (by decide +kernel) rfl rfl rfl (by decide +kernel)
set_option maxRecDepth 65536 in
theorem w_c45 : (Jvm.Cond.code ({ cls := "com/example/visit_by_value/visitbyvalue/cli/WholeNumberRangePinLaw", name := "d", desc := "(Ljava/lang/String;IJII)Z" } : Jvm.MethodName) method_6_code (8 : Nat) (Option.some Jvm.ClassFile.FieldType.boolean)).before args0 about1 = true := code_word (m := ⟨1, 5⟩) (meth := k1m5) (c := k1c5) (by decide +kernel) rfl rfl rfl (by decide +kernel)
set_option maxRecDepth 65536 in
theorem w_c46 : (Jvm.Cond.code ({ cls := "com/example/visit_by_value/visitbyvalue/cli/WholeNumberRangePinLaw", name := "pow", desc := "(I)J" } : Jvm.MethodName) method_5_code (2 : Nat) (Option.some Jvm.ClassFile.FieldType.long)).before args0 about1 = true := code_word (m := ⟨1, 4⟩) (meth := k1m4) (c := k1c4) (by decide +kernel) rfl rfl rfl (by decide +kernel)
def codes1 : List Jvm.Cond := [Jvm.Cond.code x code maxLocals ret, Jvm.Cond.code ({ cls := "com/example/visit_by_value/visitbyvalue/cli/OptionValue$WholeNumber", name := "<init>", desc := "(II)V" } : Jvm.MethodName) prog_7_method_1_code (3 : Nat) (Option.none : Option Jvm.ClassFile.FieldType), Jvm.Cond.code ({ cls := "java/lang/Record", name := "<init>", desc := "()V" } : Jvm.MethodName) jdk_30_method_1_code (1 : Nat) (Option.none : Option Jvm.ClassFile.FieldType), Jvm.Cond.code ({ cls := "java/lang/Object", name := "<init>", desc := "()V" } : Jvm.MethodName) object_method_1_code (1 : Nat) (Option.none : Option Jvm.ClassFile.FieldType), Jvm.Cond.code ({ cls := "com/example/visit_by_value/visitbyvalue/cli/OptionValue$WholeNumber", name := "range", desc := "()Ljava/lang/String;" } : Jvm.MethodName) prog_7_method_4_code (1 : Nat) (Option.some (Jvm.ClassFile.FieldType.object "java/lang/String")), Jvm.Cond.code ({ cls := "java/lang/StringBuilder", name := "<init>", desc := "()V" } : Jvm.MethodName) jdk_67_method_1_code (1 : Nat) (Option.none : Option Jvm.ClassFile.FieldType), Jvm.Cond.code ({ cls := "java/lang/AbstractStringBuilder", name := "<init>", desc := "(I)V" } : Jvm.MethodName) jdk_68_method_2_code (2 : Nat) (Option.none : Option Jvm.ClassFile.FieldType), Jvm.Cond.code ({ cls := "java/lang/StringBuilder", name := "append", desc := "(Ljava/lang/String;)Ljava/lang/StringBuilder;" } : Jvm.MethodName) jdk_67_method_7_code (2 : Nat) (Option.some (Jvm.ClassFile.FieldType.object "java/lang/StringBuilder")), Jvm.Cond.code ({ cls := "java/lang/AbstractStringBuilder", name := "append", desc := "(Ljava/lang/String;)Ljava/lang/AbstractStringBuilder;" } : Jvm.MethodName) jdk_68_method_22_code (3 : Nat) (Option.some (Jvm.ClassFile.FieldType.object "java/lang/AbstractStringBuilder")), Jvm.Cond.code ({ cls := "java/lang/String", name := "length", desc := "()I" } : Jvm.MethodName) jdk_42_method_54_code (1 : Nat) (Option.some Jvm.ClassFile.FieldType.int), Jvm.Cond.code ({ cls := "java/lang/String", name := "coder", desc := "()B" } : Jvm.MethodName) jdk_42_method_152_code (1 : Nat) (Option.some Jvm.ClassFile.FieldType.byte), Jvm.Cond.code ({ cls := "java/lang/AbstractStringBuilder", name := "ensureCapacityInternal", desc := "(I)V" } : Jvm.MethodName) jdk_68_method_9_code (3 : Nat) (Option.none : Option Jvm.ClassFile.FieldType), Jvm.Cond.code ({ cls := "java/lang/AbstractStringBuilder", name := "newCapacity", desc := "(I)I" } : Jvm.MethodName) jdk_68_method_10_code (6 : Nat) (Option.some Jvm.ClassFile.FieldType.int), Jvm.Cond.code ({ cls := "jdk/internal/util/ArraysSupport", name := "newLength", desc := "(III)I" } : Jvm.MethodName) jdk_48_method_27_code (4 : Nat) (Option.some Jvm.ClassFile.FieldType.int), Jvm.Cond.code ({ cls := "java/lang/Math", name := "max", desc := "(II)I" } : Jvm.MethodName) jdk_29_method_65_code (2 : Nat) (Option.some Jvm.ClassFile.FieldType.int), Jvm.Cond.code ({ cls := "java/util/Arrays", name := "copyOf", desc := "([BI)[B" } : Jvm.MethodName) jdk_65_method_121_code (3 : Nat) (Option.some (Jvm.ClassFile.FieldType.array Jvm.ClassFile.FieldType.byte)), Jvm.Cond.code ({ cls := "java/lang/Math", name := "min", desc := "(II)I" } : Jvm.MethodName) jdk_29_method_69_code (2 : Nat) (Option.some Jvm.ClassFile.FieldType.int), Jvm.Cond.code ({ cls := "java/lang/AbstractStringBuilder", name := "putStringAt", desc := "(ILjava/lang/String;)V" } : Jvm.MethodName) jdk_68_method_73_code (3 : Nat) (Option.none : Option Jvm.ClassFile.FieldType), Jvm.Cond.code ({ cls := "java/lang/AbstractStringBuilder", name := "inflateIfNeededFor", desc := "(Ljava/lang/String;)V" } : Jvm.MethodName) jdk_68_method_71_code (2 : Nat) (Option.none : Option Jvm.ClassFile.FieldType), Jvm.Cond.code ({ cls := "java/lang/String", name := "getBytes", desc := "([BIB)V" } : Jvm.MethodName) jdk_42_method_147_code (4 : Nat) (Option.none : Option Jvm.ClassFile.FieldType), Jvm.Cond.code ({ cls := "java/lang/StringBuilder", name := "append", desc := "(I)Ljava/lang/StringBuilder;" } : Jvm.MethodName) jdk_67_method_15_code (2 : Nat) (Option.some (Jvm.ClassFile.FieldType.object "java/lang/StringBuilder")), Jvm.Cond.code ({ cls := "java/lang/AbstractStringBuilder", name := "append", desc := "(I)Ljava/lang/AbstractStringBuilder;" } : Jvm.MethodName) jdk_68_method_32_code (4 : Nat) (Option.some (Jvm.ClassFile.FieldType.object "java/lang/AbstractStringBuilder")), Jvm.Cond.code ({ cls := "java/lang/Integer", name := "stringSize", desc := "(I)I" } : Jvm.MethodName) jdk_33_method_13_code (4 : Nat) (Option.some Jvm.ClassFile.FieldType.int), Jvm.Cond.code ({ cls := "java/lang/AbstractStringBuilder", name := "isLatin1", desc := "()Z" } : Jvm.MethodName) jdk_68_method_68_code (1 : Nat) (Option.some Jvm.ClassFile.FieldType.boolean), Jvm.Cond.code ({ cls := "java/lang/Integer", name := "getChars", desc := "(II[B)I" } : Jvm.MethodName) jdk_33_method_12_code (7 : Nat) (Option.some Jvm.ClassFile.FieldType.int), Jvm.Cond.code ({ cls := "java/lang/StringBuilder", name := "toString", desc := "()Ljava/lang/String;" } : Jvm.MethodName) jdk_67_method_42_code (1 : Nat) (Option.some (Jvm.ClassFile.FieldType.object "java/lang/String")), Jvm.Cond.code ({ cls := "java/lang/String", name := "<init>", desc := "(Ljava/lang/StringBuilder;)V" } : Jvm.MethodName) jdk_42_method_53_code (2 : Nat) (Option.none : Option Jvm.ClassFile.FieldType), Jvm.Cond.code ({ cls := "java/lang/String", name := "<init>", desc := "(Ljava/lang/AbstractStringBuilder;Ljava/lang/Void;)V" } : Jvm.MethodName) jdk_42_method_150_code (5 : Nat) (Option.none : Option Jvm.ClassFile.FieldType), Jvm.Cond.code ({ cls := "java/lang/AbstractStringBuilder", name := "getValue", desc := "()[B" } : Jvm.MethodName) jdk_68_method_64_code (1 : Nat) (Option.some (Jvm.ClassFile.FieldType.array Jvm.ClassFile.FieldType.byte)), Jvm.Cond.code ({ cls := "java/lang/StringBuilder", name := "length", desc := "()I" } : Jvm.MethodName) jdk_67_method_93_code (1 : Nat) (Option.some Jvm.ClassFile.FieldType.int), Jvm.Cond.code ({ cls := "java/lang/AbstractStringBuilder", name := "length", desc := "()I" } : Jvm.MethodName) jdk_68_method_6_code (1 : Nat) (Option.some Jvm.ClassFile.FieldType.int), Jvm.Cond.code ({ cls := "java/util/Arrays", name := "copyOfRange", desc := "([BII)[B" } : Jvm.MethodName) jdk_65_method_132_code (3 : Nat) (Option.some (Jvm.ClassFile.FieldType.array Jvm.ClassFile.FieldType.byte)), Jvm.Cond.code ({ cls := "java/util/Arrays", name := "copyOfRangeByte", desc := "([BII)[B" } : Jvm.MethodName) jdk_65_method_133_code (5 : Nat) (Option.some (Jvm.ClassFile.FieldType.array Jvm.ClassFile.FieldType.byte)), Jvm.Cond.code ({ cls := "java/util/Arrays", name := "checkLength", desc := "(II)V" } : Jvm.MethodName) jdk_65_method_131_code (2 : Nat) (Option.none : Option Jvm.ClassFile.FieldType), Jvm.Cond.code ({ cls := "com/example/visit_by_value/visitbyvalue/cli/WholeNumberRangePinLaw", name := "width", desc := "(I)I" } : Jvm.MethodName) method_4_code (3 : Nat) (Option.some Jvm.ClassFile.FieldType.int), Jvm.Cond.code ({ cls := "java/lang/Math", name := "abs", desc := "(J)J" } : Jvm.MethodName) jdk_29_method_61_code (2 : Nat) (Option.some Jvm.ClassFile.FieldType.long), Jvm.Cond.code ({ cls := "com/example/visit_by_value/visitbyvalue/cli/WholeNumberRangePinLaw", name := "ndig", desc := "(J)I" } : Jvm.MethodName) method_3_code (2 : Nat) (Option.some Jvm.ClassFile.FieldType.int), Jvm.Cond.code ({ cls := "com/example/visit_by_value/visitbyvalue/cli/WholeNumberRangePinLaw", name := "lit", desc := "(Ljava/lang/String;ILjava/lang/String;)Z" } : Jvm.MethodName) method_9_code (3 : Nat) (Option.some Jvm.ClassFile.FieldType.boolean), Jvm.Cond.code ({ cls := "com/example/visit_by_value/visitbyvalue/cli/WholeNumberRangePinLaw", name := "c", desc := "(Ljava/lang/String;ILjava/lang/String;I)Z" } : Jvm.MethodName) method_8_code (4 : Nat) (Option.some Jvm.ClassFile.FieldType.boolean), Jvm.Cond.code ({ cls := "java/lang/String", name := "charAt", desc := "(I)C" } : Jvm.MethodName) jdk_42_method_56_code (2 : Nat) (Option.some Jvm.ClassFile.FieldType.char), Jvm.Cond.code ({ cls := "java/lang/String", name := "isLatin1", desc := "()Z" } : Jvm.MethodName) jdk_42_method_154_code (1 : Nat) (Option.some Jvm.ClassFile.FieldType.boolean), Jvm.Cond.code ({ cls := "java/lang/StringLatin1", name := "charAt", desc := "([BI)C" } : Jvm.MethodName) jdk_43_method_2_code (2 : Nat) (Option.some Jvm.ClassFile.FieldType.char), Jvm.Cond.code ({ cls := "java/lang/String", name := "checkIndex", desc := "(II)V" } : Jvm.MethodName) jdk_42_method_155_code (2 : Nat) (Option.none : Option Jvm.ClassFile.FieldType), Jvm.Cond.code ({ cls := "jdk/internal/util/Preconditions", name := "checkIndex", desc := "(IILjava/util/function/BiFunction;)I" } : Jvm.MethodName) jdk_41_method_11_code (3 : Nat) (Option.some Jvm.ClassFile.FieldType.int), Jvm.Cond.code ({ cls := "com/example/visit_by_value/visitbyvalue/cli/WholeNumberRangePinLaw", name := "num", desc := "(Ljava/lang/String;II)Z" } : Jvm.MethodName) method_7_code (7 : Nat) (Option.some Jvm.ClassFile.FieldType.boolean), Jvm.Cond.code ({ cls := "com/example/visit_by_value/visitbyvalue/cli/WholeNumberRangePinLaw", name := "d", desc := "(Ljava/lang/String;IJII)Z" } : Jvm.MethodName) method_6_code (8 : Nat) (Option.some Jvm.ClassFile.FieldType.boolean), Jvm.Cond.code ({ cls := "com/example/visit_by_value/visitbyvalue/cli/WholeNumberRangePinLaw", name := "pow", desc := "(I)J" } : Jvm.MethodName) method_5_code (2 : Nat) (Option.some Jvm.ClassFile.FieldType.long)]
set_option maxRecDepth 65536 in
theorem codes_eq : words1.filter isCode = codes1 := rfl
theorem w_codes : ∀ c ∈ words1.filter isCode, c.before args0 about1 = true := by
  rw [codes_eq]
  intro c hc
  simp only [codes1, List.mem_cons, List.not_mem_nil, or_false] at hc
  rcases hc with rfl | rfl | rfl | rfl | rfl | rfl | rfl | rfl | rfl | rfl | rfl | rfl | rfl | rfl | rfl | rfl | rfl | rfl | rfl | rfl | rfl | rfl | rfl | rfl | rfl | rfl | rfl | rfl | rfl | rfl | rfl | rfl | rfl | rfl | rfl | rfl | rfl | rfl | rfl | rfl | rfl | rfl | rfl | rfl | rfl | rfl | rfl
  · exact w_c0
  · exact w_c1
  · exact w_c2
  · exact w_c3
  · exact w_c4
  · exact w_c5
  · exact w_c6
  · exact w_c7
  · exact w_c8
  · exact w_c9
  · exact w_c10
  · exact w_c11
  · exact w_c12
  · exact w_c13
  · exact w_c14
  · exact w_c15
  · exact w_c16
  · exact w_c17
  · exact w_c18
  · exact w_c19
  · exact w_c20
  · exact w_c21
  · exact w_c22
  · exact w_c23
  · exact w_c24
  · exact w_c25
  · exact w_c26
  · exact w_c27
  · exact w_c28
  · exact w_c29
  · exact w_c30
  · exact w_c31
  · exact w_c32
  · exact w_c33
  · exact w_c34
  · exact w_c35
  · exact w_c36
  · exact w_c37
  · exact w_c38
  · exact w_c39
  · exact w_c40
  · exact w_c41
  · exact w_c42
  · exact w_c43
  · exact w_c44
  · exact w_c45
  · exact w_c46
set_option maxRecDepth 65536 in
theorem w_t1 : (words1.take 24).all (fun c => isCode c || c.before args0 about1) = true := by decide +kernel
set_option maxRecDepth 65536 in
theorem w_t2 : ((words1.drop 24).take 24).all (fun c => isCode c || c.before args0 about1) = true := by decide +kernel
set_option maxRecDepth 65536 in
theorem w_t3 : (((words1.drop 24).drop 24).take 24).all (fun c => isCode c || c.before args0 about1) = true := by decide +kernel
set_option maxRecDepth 65536 in
theorem w_t4 : ((((words1.drop 24).drop 24).drop 24).take 24).all (fun c => isCode c || c.before args0 about1) = true := by decide +kernel
set_option maxRecDepth 65536 in
theorem w_t5 : (((((words1.drop 24).drop 24).drop 24).drop 24).take 24).all (fun c => isCode c || c.before args0 about1) = true := by decide +kernel
set_option maxRecDepth 65536 in
theorem w_t6 : ((((((words1.drop 24).drop 24).drop 24).drop 24).drop 24).take 24).all (fun c => isCode c || c.before args0 about1) = true := by decide +kernel
set_option maxRecDepth 65536 in
theorem w_t7 : (((((((words1.drop 24).drop 24).drop 24).drop 24).drop 24).drop 24).take 24).all (fun c => isCode c || c.before args0 about1) = true := by decide +kernel
set_option maxRecDepth 65536 in
theorem w_t8 : ((((((((words1.drop 24).drop 24).drop 24).drop 24).drop 24).drop 24).drop 24).take 24).all (fun c => isCode c || c.before args0 about1) = true := by decide +kernel
set_option maxRecDepth 65536 in
theorem w_t9 : (((((((((words1.drop 24).drop 24).drop 24).drop 24).drop 24).drop 24).drop 24).drop 24).take 24).all (fun c => isCode c || c.before args0 about1) = true := by decide +kernel
set_option maxRecDepth 65536 in
theorem w_t10 : ((((((((((words1.drop 24).drop 24).drop 24).drop 24).drop 24).drop 24).drop 24).drop 24).drop 24).take 24).all (fun c => isCode c || c.before args0 about1) = true := by decide +kernel
set_option maxRecDepth 65536 in
theorem w_t11 : ((((((((((words1.drop 24).drop 24).drop 24).drop 24).drop 24).drop 24).drop 24).drop 24).drop 24).drop 24).all (fun c => isCode c || c.before args0 about1) = true := by decide +kernel
theorem w_tables : (allAtoms (Jvm.Cond.code x code maxLocals ret :: tables_1)).before args0 about1 = true := by
  rw [allAtoms_all]
  show words1.all (fun c => c.before args0 about1) = true
  refine all_split ?_ w_codes
  rw [← List.take_append_drop 24 words1, List.all_append, w_t1, ← List.take_append_drop 24 (words1.drop 24), List.all_append, w_t2, ← List.take_append_drop 24 ((words1.drop 24).drop 24), List.all_append, w_t3, ← List.take_append_drop 24 (((words1.drop 24).drop 24).drop 24), List.all_append, w_t4, ← List.take_append_drop 24 ((((words1.drop 24).drop 24).drop 24).drop 24), List.all_append, w_t5, ← List.take_append_drop 24 (((((words1.drop 24).drop 24).drop 24).drop 24).drop 24), List.all_append, w_t6, ← List.take_append_drop 24 ((((((words1.drop 24).drop 24).drop 24).drop 24).drop 24).drop 24), List.all_append, w_t7, ← List.take_append_drop 24 (((((((words1.drop 24).drop 24).drop 24).drop 24).drop 24).drop 24).drop 24), List.all_append, w_t8, ← List.take_append_drop 24 ((((((((words1.drop 24).drop 24).drop 24).drop 24).drop 24).drop 24).drop 24).drop 24), List.all_append, w_t9, ← List.take_append_drop 24 (((((((((words1.drop 24).drop 24).drop 24).drop 24).drop 24).drop 24).drop 24).drop 24).drop 24), List.all_append, w_t10, w_t11]
  rfl
set_option maxRecDepth 65536 in
theorem w_rest : rest_1_c.before args0 about1 = true := by decide +kernel
set_option maxRecDepth 65536 in
theorem w_case : (Jvm.Cond.and given_1 narrow_1).before args0 about1 = true := by decide +kernel
set_option maxRecDepth 65536 in
theorem w_consts : constsHeld consts_1 about1 := Jvm.Lit.constsHeldB_iff.mp (by decide +kernel)
theorem w_applies : (headSpec (Jvm.Cond.code x code maxLocals ret :: tables_1) room_1).applies x e0.platform about1 = true :=
  (Spec.applies_iff w_frames).mpr ⟨w_running, w_runnable, w_alone, w_named, w_hears, w_ripe, w_room, w_tables⟩
theorem atStart : AtStart classFile x code maxLocals ret World_1 tables_1 room_1 Calls_1 rest_1 Pre_1 launch0 p0 e0 about1 theMethod args0 below0 :=
  ⟨lists_1, trivial, launch0.admits_env _ _ _, launch0.least_env, fairChoices_fair.cas, fairChoices_fair.clock, w_frames, w_args, w_heap, w_applies, ⟨w_consts, trivial⟩, w_rest, w_case⟩
end start1
theorem witness_1 : WitnessClaimed_1 := ⟨start1.p0, start1.e0, start1.about1, start1.theMethod, start1.args0, start1.below0, start1.atStart⟩
end Jvm.Pilot.@@N@@
