import JvmDerived
import JvmDerived.Pilot.@@N@@Statement
import JvmDerived.Pilot.@@N@@Code
set_option linter.unusedVariables false
set_option linter.unusedSimpArgs false
namespace Jvm.Pilot.@@N@@
open Jvm Jvm.ClassFile Sem Op Lib Jvm.Free Jvm.Stand Jvm.LawKit Jvm.RoadKit Bundle Jvm.Pilot.@@N@@.Jvm.D
/-! own helpers: the goal of a walk as one predicate, its steps, its calls -/
section OwnKit
variable {p : Program} {l : Launch} {e : Env} {R : Room} {s : State} {m : MethodId} {args : Array Value} {below : List Frame} {meth : Method} {c : Code} {T : State} {locs : List Loc} {cells slots : Nat} {Z : State} {a0 : Array Value} {h : Heap} {Q : Option Value → Heap → List Loc → Prop} {kc ks : Nat}
/-- from S the run ends, returns, and Q holds of what it returns, of the heap and of the places written -/
def OGoal (p : Program) (e : Env) (below : List Frame) (s : State) (Q : Option Value → Heap → List Loc → Prop) (kc ks : Nat) (S : State) : Prop :=
  ∃ s₂ o, Steps p.tables e below S s₂ ∧ s₂.status = .running ∧ Ended s₂ below o ∧ ∃ v L, o = .returned v ∧ Q v s₂.heap L ∧ FrameEnd s o s₂ L kc ks
theorem OGoal.mp {S S' : State} (k : ∀ t, Steps p.tables e below S' t → Steps p.tables e below S t) (g : OGoal p e below s Q kc ks S') : OGoal p e below s Q kc ks S := by
  obtain ⟨s₂, o, h1, h2⟩ := g
  exact ⟨s₂, o, k _ h1, h2⟩
theorem oRet (X : Stand p l e R s m args below meth c T locs cells slots) (hx : p.tables.exec = Jvm.exec) (hlk : meth.locks = false) {pc : Nat} {Ls : Array Slot} {w : Value} {t : FieldType} {i : Instr} {rest : List Value} (hret : meth.sig.returnType = some t) (hn : narrow t w = w)
    (hi : (i = .ireturn ∧ (t = .int ∨ t = .boolean ∨ t = .byte ∨ t = .char ∨ t = .short) ∧ ∃ z, w = .int z) ∨ (i = .lreturn ∧ t = .long ∧ ∃ z, w = .long z) ∨ (i = .dreturn ∧ t = .double ∧ ∃ z, w = .double z) ∨ (i = .freturn ∧ t = .float ∧ ∃ z, w = .float z) ∨ (i = .areturn ∧ t.isReference = true ∧ w.isRef = true))
    (hd : decode c.code pc = .ok (i, 1)) (hQ : Q (some w) T.heap locs) (hc : cells ≤ kc) (hs : slots ≤ ks) : OGoal p e below s Q kc ks (T.setTop (mkF m pc Ls (w :: rest))) := by
  obtain ⟨fs, hr, hrun, hended, hW, hsame⟩ := X.leave (v := some w) (fun q => by rw [hret] at q; cases q) hlk
  exact ⟨_, _, retOut X hx hret hn hi hd hr, hrun, hended, _, _, rfl, hQ, ⟨_, rfl⟩, hW, hsame.mono hc hs⟩
theorem oRetI (X : Stand p l e R s m args below meth c T locs cells slots) (hx : p.tables.exec = Jvm.exec) (hlk : meth.locks = false) {pc : Nat} {Ls : Array Slot} {z : Int32} {rest : List Value} (hret : meth.sig.returnType = some .int)
    (hd : decode c.code pc = .ok (.ireturn, 1)) (hQ : Q (some (.int z)) T.heap locs) (hc : cells ≤ kc) (hs : slots ≤ ks) : OGoal p e below s Q kc ks (T.setTop (mkF m pc Ls (.int z :: rest))) :=
  oRet X hx hlk hret rfl (Or.inl ⟨rfl, Or.inl rfl, _, rfl⟩) hd hQ hc hs
theorem oRetZ (X : Stand p l e R s m args below meth c T locs cells slots) (hx : p.tables.exec = Jvm.exec) (hlk : meth.locks = false) {pc : Nat} {Ls : Array Slot} {z : Int32} {rest : List Value} (hret : meth.sig.returnType = some .boolean) (hz : z = 0 ∨ z = 1)
    (hd : decode c.code pc = .ok (.ireturn, 1)) (hQ : Q (some (.int z)) T.heap locs) (hc : cells ≤ kc) (hs : slots ≤ ks) : OGoal p e below s Q kc ks (T.setTop (mkF m pc Ls (.int z :: rest))) :=
  oRet X hx hlk hret (by rcases hz with rfl | rfl <;> rfl) (Or.inl ⟨rfl, Or.inr (Or.inl rfl), _, rfl⟩) hd hQ hc hs
theorem oRetJ (X : Stand p l e R s m args below meth c T locs cells slots) (hx : p.tables.exec = Jvm.exec) (hlk : meth.locks = false) {pc : Nat} {Ls : Array Slot} {z : Int64} {rest : List Value} (hret : meth.sig.returnType = some .long)
    (hd : decode c.code pc = .ok (.lreturn, 1)) (hQ : Q (some (.long z)) T.heap locs) (hc : cells ≤ kc) (hs : slots ≤ ks) : OGoal p e below s Q kc ks (T.setTop (mkF m pc Ls (.long z :: rest))) :=
  oRet X hx hlk hret rfl (Or.inr (Or.inl ⟨rfl, rfl, _, rfl⟩)) hd hQ hc hs
theorem oRetD (X : Stand p l e R s m args below meth c T locs cells slots) (hx : p.tables.exec = Jvm.exec) (hlk : meth.locks = false) {pc : Nat} {Ls : Array Slot} {z : UInt64} {rest : List Value} (hret : meth.sig.returnType = some .double)
    (hd : decode c.code pc = .ok (.dreturn, 1)) (hQ : Q (some (.double z)) T.heap locs) (hc : cells ≤ kc) (hs : slots ≤ ks) : OGoal p e below s Q kc ks (T.setTop (mkF m pc Ls (.double z :: rest))) :=
  oRet X hx hlk hret rfl (Or.inr (Or.inr (Or.inl ⟨rfl, rfl, _, rfl⟩))) hd hQ hc hs
theorem oNarC {x : Int32} (h : 0 ≤ x.toInt ∧ x.toInt < 65536) : x.toUInt32.toUInt16.toUInt32.toInt32 = x := Int32.toInt_inj.mp (by have q := c_i2c x; omega)
theorem oNarB {x : Int32} (h : -128 ≤ x.toInt ∧ x.toInt < 128) : x.toInt8.toInt32 = x := Int32.toInt_inj.mp (by have q := c_i2b x; omega)
theorem oNarBB (x : Int32) : nar .byte x.toInt8.toInt32 = x.toInt8.toInt32 := oNarB ⟨(c_i2b x).2.1, (c_i2b x).2.2⟩
theorem oRetC (X : Stand p l e R s m args below meth c T locs cells slots) (hx : p.tables.exec = Jvm.exec) (hlk : meth.locks = false) {pc : Nat} {Ls : Array Slot} {z : Int32} {rest : List Value} (hret : meth.sig.returnType = some .char) (hz : 0 ≤ z.toInt ∧ z.toInt < 65536)
    (hd : decode c.code pc = .ok (.ireturn, 1)) (hQ : Q (some (.int z)) T.heap locs) (hc : cells ≤ kc) (hs : slots ≤ ks) : OGoal p e below s Q kc ks (T.setTop (mkF m pc Ls (.int z :: rest))) :=
  oRet X hx hlk hret (congrArg Value.int (oNarC hz)) (Or.inl ⟨rfl, Or.inr (Or.inr (Or.inr (Or.inl rfl))), _, rfl⟩) hd hQ hc hs
theorem oRetB (X : Stand p l e R s m args below meth c T locs cells slots) (hx : p.tables.exec = Jvm.exec) (hlk : meth.locks = false) {pc : Nat} {Ls : Array Slot} {z : Int32} {rest : List Value} (hret : meth.sig.returnType = some .byte) (hz : -128 ≤ z.toInt ∧ z.toInt < 128)
    (hd : decode c.code pc = .ok (.ireturn, 1)) (hQ : Q (some (.int z)) T.heap locs) (hc : cells ≤ kc) (hs : slots ≤ ks) : OGoal p e below s Q kc ks (T.setTop (mkF m pc Ls (.int z :: rest))) :=
  oRet X hx hlk hret (congrArg Value.int (oNarB hz)) (Or.inl ⟨rfl, Or.inr (Or.inr (Or.inl rfl)), _, rfl⟩) hd hQ hc hs
theorem oRetA (X : Stand p l e R s m args below meth c T locs cells slots) (hx : p.tables.exec = Jvm.exec) (hlk : meth.locks = false) {pc : Nat} {Ls : Array Slot} {w : Value} {t : FieldType} {rest : List Value} (hret : meth.sig.returnType = some t) (ht : t.isReference = true) (hw : w.isRef = true)
    (hd : decode c.code pc = .ok (.areturn, 1)) (hQ : Q (some w) T.heap locs) (hc : cells ≤ kc) (hs : slots ≤ ks) : OGoal p e below s Q kc ks (T.setTop (mkF m pc Ls (w :: rest))) :=
  oRet X hx hlk hret (by cases t <;> cases w <;> first | rfl | (cases ht; done) | (cases hw; done)) (Or.inr (Or.inr (Or.inr (Or.inr ⟨rfl, ht, hw⟩)))) hd hQ hc hs
theorem oRetV (X : Stand p l e R s m args below meth c T locs cells slots) (hx : p.tables.exec = Jvm.exec) (hlk : meth.locks = false) {pc : Nat} {Ls : Array Slot} (hret : meth.sig.returnType = none)
    (hd : decode c.code pc = .ok (.return_, 1)) (hQ : Q none T.heap locs) (hc : cells ≤ kc) (hs : slots ≤ ks) : OGoal p e below s Q kc ks (T.setTop (mkF m pc Ls [])) := by
  obtain ⟨fs, hr, hrun, hended, hW, hsame⟩ := X.leave (v := none) (fun _ => rfl) hlk
  exact ⟨_, _, X.returnOut hx hret hd hr, hrun, hended, _, _, rfl, hQ, ⟨_, rfl⟩, hW, hsame.mono hc hs⟩
/-- the contract of a method: called with as' over the heap h it returns, and Q holds; kc cells and ks slots are made at the most -/
def OConK (l : Launch) (Z : State) (y : MethodName) (bytes : ByteArray) (maxL : Nat) (ret : Option FieldType) (rm : Room) (kc ks : Nat) (as' : Array Value) (h : Heap) (Q : Option Value → Heap → List Loc → Prop) : Prop :=
  ∀ ws : List Jvm.Cond, MetFree l y (head1 (Jvm.Cond.code y bytes maxL ret :: ws) rm) (fun a U => a = as' ∧ Z.Warmed39 U.vm ∧ U.heap = h) (fun _ _ _ _ _ => True) (fun _ U o U' => ∃ v L, o = .returned v ∧ Q v U'.heap L ∧ FrameEnd U o U' L kc ks)
abbrev OCon (l : Launch) (Z : State) (y : MethodName) (bytes : ByteArray) (maxL : Nat) (ret : Option FieldType) (rm : Room) (as' : Array Value) (h : Heap) (Q : Option Value → Heap → List Loc → Prop) : Prop := OConK l Z y bytes maxL ret rm rm.cells rm.slots as' h Q
theorem OConK.intro {y : MethodName} {bytes : ByteArray} {maxL : Nat} {ret : Option FieldType} {rm : Room} {as' : Array Value} {Ls : Array Slot} (hpf : plainFor y = true) (ef : ∀ m, entryFrame m as' maxL = mkF m 0 Ls [])
    (H : ∀ p e s m below meth c s₁, p.tables.exec = Jvm.exec → c.code = bytes → c.maxLocals = maxL → s.vm.findClass y.cls = some m.cls → meth.name = y.name → meth.sig.returnType = ret → meth.locks = false → Z.Warmed39 s.vm →
      Stand p l e rm s m as' below meth c s₁ [] 0 0 → s₁.heap = h → OGoal p e below s Q kc ks (s₁.setTop (mkF m 0 Ls []))) : OConK l Z y bytes maxL ret rm kc ks as' h Q := by
  intro ws
  refine MetFree.of_bodySF hpf hisR ?_
  intro p e s m args below meth c s₁ Bd hml hP hK
  obtain ⟨rfl, hZ, hh⟩ := hP
  obtain ⟨s₂, o, h1, h2, h3, h4⟩ := H p e s m below meth c s₁ Bd.exec Bd.bytes hml (findClass_of_methodNamed Bd.named) (name_of_methodNamed Bd.named Bd.method).1 Bd.returns (BodyLoose.notSynchronized Bd) hZ (Stand.of_body Bd) (by rw [← hh, Bd.state]; rfl)
  exact ⟨s₂, o, castTop (ef m) h1, h2, h3, h4⟩
/-- weaker promise -/
theorem OConK.imp {y : MethodName} {bytes : ByteArray} {maxL : Nat} {ret : Option FieldType} {rm : Room} {as' : Array Value} {Q' : Option Value → Heap → List Loc → Prop} (H : OConK l Z y bytes maxL ret rm kc ks as' h Q) (k : ∀ v h' L, Q v h' L → Q' v h' L) : OConK l Z y bytes maxL ret rm kc ks as' h Q' := by
  intro ws p e ha hc hk s m args below hf happ hP hK
  obtain ⟨n, o, h1, h2, h3, v, L, h4, h5, h6⟩ := H ws p e ha hc hk s m args below hf happ hP hK
  exact ⟨n, o, h1, h2, h3, v, L, h4, k _ _ _ h5, h6⟩
theorem oCallS (X : Stand p l e R s m args below meth c T locs cells slots) (hx : p.tables.exec = Jvm.exec) (hZ : Z.Warmed39 s.vm) {own : String} {index : Nat} {y : MethodName} {bytes : ByteArray} {maxL : Nat} {ret : Option FieldType} {rm : Room} {as' : Array Value} {Qc : Option Value → Heap → List Loc → Prop}
    (hown : s.vm.findClass own = some m.cls) (w1 : (Jvm.Cond.methodLink own index y).before a0 Z = true) (w2 : (Jvm.Cond.static y).before a0 Z = true) (w3 : (Jvm.Cond.initialized y.cls).before a0 Z = true) (w4 : (Jvm.Cond.code y bytes maxL ret).before a0 Z = true)
    (hy : y.cls ≠ "java/lang/invoke/MethodHandle" ∧ y.cls ≠ "java/lang/invoke/VarHandle") (hM : OCon l Z y bytes maxL ret rm as' h Qc) (eT : T.heap = h) {pc : Nat} {Ls : Array Slot} {st : List Value} (argsL rest : List Value) (hst : st = argsL.reverse ++ rest) (has : argsL.toArray = as') (hsize : Ls.size = c.maxLocals)
    (hlen : ∀ sig, parseMethodDescriptor y.desc = some sig → argsL.length = sig.parameters.length) (W : Nat) (hW : (rest.map fun v => v.category).sum ≤ W) (hfr : rm.frames + 1 ≤ R.frames) (hlo : W + (maxL + 11) + rm.locals ≤ R.locals) (hce : cells + rm.cells ≤ R.cells) (hsl : slots + rm.slots ≤ R.slots)
    (hd : decode c.code pc = .ok (.invokestatic index, 3))
    (k : ∀ v T' Lc, Stand p l e R s m args below meth c T' (locs ++ Lc) (cells + rm.cells) (slots + rm.slots) → Qc v T'.heap Lc → OGoal p e below s Q kc ks (T'.setTop (mkF m (pc + 3) Ls (v.toList ++ rest)))) :
    OGoal p e below s Q kc ks (T.setTop (mkF m pc Ls st)) := by
  subst hst has
  obtain ⟨v, _, ⟨T', L', k', n'⟩, -, X', ⟨Lc, hQ, l', y', z'⟩, st⟩ := Jvm.LawKit.callS X hx (y := y) hown (mvT hZ w1) (mvT hZ w2) (mvT hZ w3) (mvT hZ w4) hy (backOf (W := W) (hM []) hZ w4 w3 hfr hlo) (g := mkF m pc Ls (argsL.reverse ++ rest)) rfl hsize (argsL := argsL) (rest := rest) hlen rfl (by show 2 * 0 + _ ≤ _; omega) hd (fun _ _ => ⟨rfl, eT, hce, hsl⟩)
  dsimp only [Pt.U, Pt.locs, Pt.cells, Pt.slots] at X' l' y' z' st hQ
  subst l' y' z'
  exact OGoal.mp st (k v T' Lc X' hQ)
theorem oCallV (X : Stand p l e R s m args below meth c T locs cells slots) (hx : p.tables.exec = Jvm.exec) (hZ : Z.Warmed39 s.vm) {own C : String} {index : Nat} {y z : MethodName} {bytes : ByteArray} {maxL : Nat} {ret : Option FieldType} {rm : Room} {as' : Array Value} {Qc : Option Value → Heap → List Loc → Prop}
    (hown : s.vm.findClass own = some m.cls) (w1 : (Jvm.Cond.methodLink own index y).before a0 Z = true) (w2 : (Jvm.Cond.declares y).before a0 Z = true) (w5 : (Jvm.Cond.selects C y z).before a0 Z = true) (w6 : (Jvm.Cond.instanceMethod z).before a0 Z = true) (w3 : (Jvm.Cond.initialized z.cls).before a0 Z = true) (w4 : (Jvm.Cond.code z bytes maxL ret).before a0 Z = true)
    (hy : y.cls ≠ "java/lang/invoke/MethodHandle" ∧ y.cls ≠ "java/lang/invoke/VarHandle") (hM : OCon l Z z bytes maxL ret rm as' h Qc) (eT : T.heap = h) {a : Addr} (E : Exa Z h a C) {pc : Nat} {Ls : Array Slot} {st : List Value} (argsL rest : List Value) (hst : st = argsL.reverse ++ .ref a :: rest) (has : (.ref a :: argsL).toArray = as') (hsize : Ls.size = c.maxLocals)
    (hnf : NotFace s y) (hlen : ∀ sig, parseMethodDescriptor y.desc = some sig → argsL.length = sig.parameters.length) (W : Nat) (hW : (rest.map fun v => v.category).sum ≤ W) (hfr : rm.frames + 1 ≤ R.frames) (hlo : W + (maxL + 11) + rm.locals ≤ R.locals) (hce : cells + rm.cells ≤ R.cells) (hsl : slots + rm.slots ≤ R.slots)
    (hd : decode c.code pc = .ok (.invokevirtual index, 3))
    (k : ∀ v T' Lc, Stand p l e R s m args below meth c T' (locs ++ Lc) (cells + rm.cells) (slots + rm.slots) → Qc v T'.heap Lc → OGoal p e below s Q kc ks (T'.setTop (mkF m (pc + 3) Ls (v.toList ++ rest)))) :
    OGoal p e below s Q kc ks (T.setTop (mkF m pc Ls st)) := by
  subst hst has
  obtain ⟨cq, kq, qa, qb, qc⟩ := isOf hZ eT E
  obtain ⟨v, _, ⟨T', L', k', n'⟩, -, X', ⟨Lc, hQ, l', y', z'⟩, st⟩ := X.virtualBack hx (y := y) (z := z) hown (mvT hZ w1) (mvT hZ w2) hnf (mvT hZ w5) (mvT hZ w6) hy (backOf (W := W) (hM []) hZ w4 w3 hfr hlo) qa qc (g := mkF m pc Ls (argsL.reverse ++ .ref a :: rest)) rfl hsize (Steps.refl _) (argsL := argsL) (rest := rest) hlen rfl (by show 2 * 0 + _ ≤ _; omega) hd (fun _ _ => ⟨rfl, eT, hce, hsl⟩)
  dsimp only [Pt.U, Pt.locs, Pt.cells, Pt.slots] at X' l' y' z' st hQ
  subst l' y' z'
  exact OGoal.mp (fun t q => st.trans q) (k v T' Lc X' hQ)
theorem oCallN (X : Stand p l e R s m args below meth c T locs cells slots) (hx : p.tables.exec = Jvm.exec) (hZ : Z.Warmed39 s.vm) {own : String} {index : Nat} {y : MethodName} {bytes : ByteArray} {maxL : Nat} {rm : Room} {as' : Array Value} {Qc : Option Value → Heap → List Loc → Prop}
    (hy1 : y.name = "<init>") (hown : s.vm.findClass own = some m.cls) (w1 : (Jvm.Cond.methodLink own index y).before a0 Z = true) (w6 : (Jvm.Cond.instanceMethod y).before a0 Z = true) (w3 : (Jvm.Cond.initialized y.cls).before a0 Z = true) (w4 : (Jvm.Cond.code y bytes maxL none).before a0 Z = true)
    (hy : y.cls ≠ "java/lang/invoke/MethodHandle" ∧ y.cls ≠ "java/lang/invoke/VarHandle") (hM : OCon l Z y bytes maxL none rm as' h Qc) (eT : T.heap = h) {a : Addr} {pc : Nat} {Ls : Array Slot} {st : List Value} (argsL rest : List Value) (hst : st = argsL.reverse ++ .ref a :: rest) (has : (.ref a :: argsL).toArray = as') (hsize : Ls.size = c.maxLocals)
    (hlen : ∀ sig, parseMethodDescriptor y.desc = some sig → argsL.length = sig.parameters.length) (W : Nat) (hW : (rest.map fun v => v.category).sum ≤ W) (hfr : rm.frames + 1 ≤ R.frames) (hlo : W + (maxL + 11) + rm.locals ≤ R.locals) (hce : cells + rm.cells ≤ R.cells) (hsl : slots + rm.slots ≤ R.slots)
    (hd : decode c.code pc = .ok (.invokespecial index, 3))
    (k : ∀ v T' Lc, Stand p l e R s m args below meth c T' (locs ++ Lc) (cells + rm.cells) (slots + rm.slots) → Qc v T'.heap Lc → OGoal p e below s Q kc ks (T'.setTop (mkF m (pc + 3) Ls (v.toList ++ rest)))) :
    OGoal p e below s Q kc ks (T.setTop (mkF m pc Ls st)) := by
  subst hst has
  obtain ⟨v, _, ⟨T', L', k', n'⟩, -, X', ⟨Lc, hQ, l', y', z'⟩, st⟩ := X.specialBack hx (y := y) hy1 hown (mvT hZ w1) (mvT hZ w6) (mvT hZ w4) hy (backOf (W := W) (hM []) hZ w4 w3 hfr hlo) (g := mkF m pc Ls (argsL.reverse ++ .ref a :: rest)) rfl hsize (Steps.refl _) (a := a) (argsL := argsL) (rest := rest) hlen rfl (by show 2 * 0 + _ ≤ _; omega) hd (fun _ _ => ⟨rfl, eT, hce, hsl⟩)
  dsimp only [Pt.U, Pt.locs, Pt.cells, Pt.slots] at X' l' y' z' st hQ
  subst l' y' z'
  exact OGoal.mp (fun t q => st.trans q) (k v T' Lc X' hQ)
theorem oNotFace {s : State} {C : String} {k : Nat} (h : (Jvm.Cond.instantiable C k).before args s = true) : ∃ c kc, s.vm.findClass C = some c ∧ s.vm.classes[c]? = some kc ∧ kc.isInterface = false := by
  obtain ⟨c, kc, h1, h2, -, h3, -, -⟩ := Cond.instantiable_spec h
  exact ⟨c, kc, h1, h2, (Bool.or_eq_false_iff.mp h3).1⟩
theorem oCallP (X : Stand p l e R s m args below meth c T locs cells slots) (hx : p.tables.exec = Jvm.exec) (hZ : Z.Warmed39 s.vm) {own C : String} {index : Nat} {y : MethodName} {bytes : ByteArray} {maxL : Nat} {ret : Option FieldType} {rm : Room} {as' : Array Value} {Qc : Option Value → Heap → List Loc → Prop}
    (hown : s.vm.findClass own = some m.cls) (w1 : (Jvm.Cond.methodLink own index y).before a0 Z = true) {kk : Nat} (w5 : (Jvm.Cond.instantiable y.cls kk).before a0 Z = true) (w6 : (Jvm.Cond.instanceMethod y).before a0 Z = true) (w7 : (Jvm.Cond.privateMethod y).before a0 Z = true) (w3 : (Jvm.Cond.initialized y.cls).before a0 Z = true) (w4 : (Jvm.Cond.code y bytes maxL ret).before a0 Z = true)
    (hy : y.cls ≠ "java/lang/invoke/MethodHandle" ∧ y.cls ≠ "java/lang/invoke/VarHandle") (hM : OCon l Z y bytes maxL ret rm as' h Qc) (eT : T.heap = h) {a : Addr} (E : Exa Z h a C) {pc : Nat} {Ls : Array Slot} {st : List Value} (argsL rest : List Value) (hst : st = argsL.reverse ++ .ref a :: rest) (has : (.ref a :: argsL).toArray = as') (hsize : Ls.size = c.maxLocals)
    (hlen : ∀ sig, parseMethodDescriptor y.desc = some sig → argsL.length = sig.parameters.length) (W : Nat) (hW : (rest.map fun v => v.category).sum ≤ W) (hfr : rm.frames + 1 ≤ R.frames) (hlo : W + (maxL + 11) + rm.locals ≤ R.locals) (hce : cells + rm.cells ≤ R.cells) (hsl : slots + rm.slots ≤ R.slots)
    (hd : decode c.code pc = .ok (.invokevirtual index, 3))
    (k : ∀ v T' Lc, Stand p l e R s m args below meth c T' (locs ++ Lc) (cells + rm.cells) (slots + rm.slots) → Qc v T'.heap Lc → OGoal p e below s Q kc ks (T'.setTop (mkF m (pc + 3) Ls (v.toList ++ rest)))) :
    OGoal p e below s Q kc ks (T.setTop (mkF m pc Ls st)) := by
  subst hst has
  obtain ⟨cq, q1, q2⟩ := E.cell
  obtain ⟨c1, k1, hc1, hk1, hi1⟩ := oNotFace (args := #[]) (mvT hZ w5)
  have hpr : s.PrivateAt y := Cond.privateMethod_at (mvP hZ w7 (args := #[]))
  have hse := selects_self_of_private (args := args) hc1 hk1 hi1 hpr (mvT hZ w6) hy
  obtain ⟨v, _, ⟨T', L', k', n'⟩, -, X', ⟨Lc, hQ, l', y', z'⟩, st⟩ := X.privateBack hx (y := y) hown (mvT hZ w1) (mvT hZ w6) hse hpr (mvT hZ w4) hy (backOf (W := W) (hM []) hZ w4 w3 hfr hlo) (g := mkF m pc Ls (argsL.reverse ++ .ref a :: rest)) rfl hsize (Steps.refl _) (a := a) (by rw [eT]; exact q1) q2 (argsL := argsL) (rest := rest) hlen rfl (by show 2 * 0 + _ ≤ _; omega) hd (fun _ _ => ⟨rfl, eT, hce, hsl⟩)
  dsimp only [Pt.U, Pt.locs, Pt.cells, Pt.slots] at X' l' y' z' st hQ
  subst l' y' z'
  exact OGoal.mp (fun t q => st.trans q) (k v T' Lc X' hQ)
theorem oNoFace {s : State} {C : String} {y : MethodName} (w : (Jvm.Cond.selects C y y).before args s = true) : ∃ c k, s.vm.findClass y.cls = some c ∧ s.vm.classes[c]? = some k ∧ k.isInterface = false := by
  obtain ⟨c2, r2, m2, -, -, q3, -, kP, hkP, hkPi⟩ := Cond.selects_spec w
  exact ⟨m2.cls, kP, findClass_of_methodNamed q3, hkP, hkPi⟩
theorem oNF {s : State} {C : String} {y y0 : MethodName} (hyc : y0.cls = y.cls) (w : (Jvm.Cond.selects C y0 y0).before args s = true) : NotFace s y := fun r0 h0 => by
  obtain ⟨c, k, h1, h2, h3⟩ := oNoFace w
  rw [hyc] at h1
  cases h1.symm.trans (findClass_of_methodNamed h0)
  exact ⟨k, h2, h3⟩
theorem oSame {s : State} {y : MethodName} {c : ClassId} {k : Class} (hc : s.vm.findClass y.cls = some c) (hk : s.vm.classes[c]? = some k) (hni : k.isInterface = false) (hinst : (Jvm.Cond.instanceMethod y).before args s = true) (hy : y.cls ≠ "java/lang/invoke/MethodHandle" ∧ y.cls ≠ "java/lang/invoke/VarHandle") : (Jvm.Cond.sameMethod y.cls y.cls y.name y.desc).before args s = true := by
  obtain ⟨mk, methM, hnamed, -, -, -⟩ := Cond.instanceMethod_spec hinst
  have hfound : s.methodFound? y.cls y.name y.desc = some mk := State.methodFound?_of_named hnamed hy
  simp [Cond.before, Cond.holds, Cond.value, hc, hfound, hnamed, hk, hni]
/-- a private method of a class above the receiver's -/
theorem oCallQ (X : Stand p l e R s m args below meth c T locs cells slots) (hx : p.tables.exec = Jvm.exec) (hZ : Z.Warmed39 s.vm) {own C C' : String} {index : Nat} {y : MethodName} {bytes : ByteArray} {maxL : Nat} {ret : Option FieldType} {rm : Room} {as' : Array Value} {Qc : Option Value → Heap → List Loc → Prop}
    (hown : s.vm.findClass own = some m.cls) (w1 : (Jvm.Cond.methodLink own index y).before a0 Z = true) (w5 : (Jvm.Cond.selects C' y y).before a0 Z = true) (w6 : (Jvm.Cond.instanceMethod y).before a0 Z = true) (w7 : (Jvm.Cond.privateMethod y).before a0 Z = true) (w3 : (Jvm.Cond.initialized y.cls).before a0 Z = true) (w4 : (Jvm.Cond.code y bytes maxL ret).before a0 Z = true)
    (hy : y.cls ≠ "java/lang/invoke/MethodHandle" ∧ y.cls ≠ "java/lang/invoke/VarHandle") (hM : OCon l Z y bytes maxL ret rm as' h Qc) (eT : T.heap = h) {a : Addr} (E : Exa Z h a C) {pc : Nat} {Ls : Array Slot} {st : List Value} (argsL rest : List Value) (hst : st = argsL.reverse ++ .ref a :: rest) (has : (.ref a :: argsL).toArray = as') (hsize : Ls.size = c.maxLocals)
    (hlen : ∀ sig, parseMethodDescriptor y.desc = some sig → argsL.length = sig.parameters.length) (W : Nat) (hW : (rest.map fun v => v.category).sum ≤ W) (hfr : rm.frames + 1 ≤ R.frames) (hlo : W + (maxL + 11) + rm.locals ≤ R.locals) (hce : cells + rm.cells ≤ R.cells) (hsl : slots + rm.slots ≤ R.slots)
    (hd : decode c.code pc = .ok (.invokevirtual index, 3))
    (k : ∀ v T' Lc, Stand p l e R s m args below meth c T' (locs ++ Lc) (cells + rm.cells) (slots + rm.slots) → Qc v T'.heap Lc → OGoal p e below s Q kc ks (T'.setTop (mkF m (pc + 3) Ls (v.toList ++ rest)))) :
    OGoal p e below s Q kc ks (T.setTop (mkF m pc Ls st)) := by
  subst hst has
  obtain ⟨cq, q1, q2⟩ := E.cell
  obtain ⟨c1, k1, hc1, hk1, hi1⟩ := oNoFace (args := #[]) (mvT hZ w5)
  have hpr : s.PrivateAt y := Cond.privateMethod_at (mvP hZ w7 (args := #[]))
  have hse := selects_self_of_private (args := args) hc1 hk1 hi1 hpr (mvT hZ w6) hy
  obtain ⟨v, _, ⟨T', L', k', n'⟩, -, X', ⟨Lc, hQ, l', y', z'⟩, st⟩ := X.privateBack hx (y := y) hown (mvT hZ w1) (mvT hZ w6) hse hpr (mvT hZ w4) hy (backOf (W := W) (hM []) hZ w4 w3 hfr hlo) (g := mkF m pc Ls (argsL.reverse ++ .ref a :: rest)) rfl hsize (Steps.refl _) (a := a) (by rw [eT]; exact q1) q2 (argsL := argsL) (rest := rest) hlen rfl (by show 2 * 0 + _ ≤ _; omega) hd (fun _ _ => ⟨rfl, eT, hce, hsl⟩)
  dsimp only [Pt.U, Pt.locs, Pt.cells, Pt.slots] at X' l' y' z' st hQ
  subst l' y' z'
  exact OGoal.mp (fun t q => st.trans q) (k v T' Lc X' hQ)
/-- super.y(..) -/
theorem oCallU (X : Stand p l e R s m args below meth c T locs cells slots) (hx : p.tables.exec = Jvm.exec) (hZ : Z.Warmed39 s.vm) {own C C' : String} {index : Nat} {y y0 : MethodName} {bytes : ByteArray} {maxL : Nat} {ret : Option FieldType} {rm : Room} {as' : Array Value} {Qc : Option Value → Heap → List Loc → Prop} (hn : y.name ≠ "<init>") (hyc : y0.cls = y.cls)
    (hown : s.vm.findClass own = some m.cls) (w1 : (Jvm.Cond.methodLink own index y).before a0 Z = true) (w5 : (Jvm.Cond.selects C' y0 y0).before a0 Z = true) (w6 : (Jvm.Cond.instanceMethod y).before a0 Z = true) (w7 : (Jvm.Cond.superclass own y.cls).before a0 Z = true) (w3 : (Jvm.Cond.initialized y.cls).before a0 Z = true) (w4 : (Jvm.Cond.code y bytes maxL ret).before a0 Z = true)
    (hy : y.cls ≠ "java/lang/invoke/MethodHandle" ∧ y.cls ≠ "java/lang/invoke/VarHandle") (hM : OCon l Z y bytes maxL ret rm as' h Qc) (eT : T.heap = h) {a : Addr} (E : Exa Z h a C) {pc : Nat} {Ls : Array Slot} {st : List Value} (argsL rest : List Value) (hst : st = argsL.reverse ++ .ref a :: rest) (has : (.ref a :: argsL).toArray = as') (hsize : Ls.size = c.maxLocals)
    (hlen : ∀ sig, parseMethodDescriptor y.desc = some sig → argsL.length = sig.parameters.length) (W : Nat) (hW : (rest.map fun v => v.category).sum ≤ W) (hfr : rm.frames + 1 ≤ R.frames) (hlo : W + (maxL + 11) + rm.locals ≤ R.locals) (hce : cells + rm.cells ≤ R.cells) (hsl : slots + rm.slots ≤ R.slots)
    (hd : decode c.code pc = .ok (.invokespecial index, 3))
    (k : ∀ v T' Lc, Stand p l e R s m args below meth c T' (locs ++ Lc) (cells + rm.cells) (slots + rm.slots) → Qc v T'.heap Lc → OGoal p e below s Q kc ks (T'.setTop (mkF m (pc + 3) Ls (v.toList ++ rest)))) :
    OGoal p e below s Q kc ks (T.setTop (mkF m pc Ls st)) := by
  subst hst has
  obtain ⟨c1, k1, hc1, hk1, hi1⟩ := oNoFace w5
  rw [hyc] at hc1
  have w2 := oSame hc1 hk1 hi1 w6 hy
  obtain ⟨v, _, ⟨T', L', k', n'⟩, -, X', ⟨Lc, hQ, l', y', z'⟩, st⟩ := superBack X hx hZ hown w1 w2 w6 w7 hn (backOf (W := W) (hM []) hZ w4 w3 hfr hlo) eT (Ins.self E) (g := mkF m pc Ls (argsL.reverse ++ .ref a :: rest)) rfl hsize w4 (argsL := argsL) (rest := rest) hlen rfl (by show 2 * 0 + _ ≤ _; omega) hd (fun _ _ => ⟨rfl, eT, hce, hsl⟩)
  dsimp only [Pt.U, Pt.locs, Pt.cells, Pt.slots] at X' l' y' z' st hQ
  subst l' y' z'
  exact OGoal.mp (fun t q => st.trans q) (k v T' Lc X' hQ)
theorem oLrem {g : JFrame} {target : State} (X : Stand p l e R s m args below meth c T locs cells slots) (hx : p.tables.exec = Jvm.exec) (hg : g.method = m) {x y : Int64} {rest : List Value} (hd : decode c.code g.pc = .ok (.lrem, 1)) (hs : g.stack = .long y :: .long x :: rest) (hy : y ≠ 0)
    (hr : Steps p.tables e below (T.setTop { g with pc := g.pc + 1, stack := .long (x % y) :: rest }) target) : Steps p.tables e below (T.setTop g) target := XT.lrem X.here hx hg hd hs hy (by rw [lrem_mod]; exact hr)
theorem oLt {x y : Int32} (h : x < y) : x.toInt < y.toInt := Int32.lt_iff_toInt_lt.mp h
theorem oNlt {x y : Int32} (h : ¬ x < y) : y.toInt ≤ x.toInt := Int.not_lt.mp fun q => h (Int32.lt_iff_toInt_lt.mpr q)
theorem oEq {x y : Int32} (h : x = y) : x.toInt = y.toInt := congrArg _ h
theorem oNe {x y : Int32} (h : ¬ x = y) : x.toInt ≠ y.toInt := fun q => h (Int32.toInt_inj.mp q)
theorem oLtL {x y : Int64} (h : x < y) : x.toInt < y.toInt := Int64.lt_iff_toInt_lt.mp h
theorem oNltL {x y : Int64} (h : ¬ x < y) : y.toInt ≤ x.toInt := Int.not_lt.mp fun q => h (Int64.lt_iff_toInt_lt.mpr q)
theorem oEqL {x y : Int64} (h : x = y) : x.toInt = y.toInt := congrArg _ h
theorem oNeL {x y : Int64} (h : ¬ x = y) : x.toInt ≠ y.toInt := fun q => h (Int64.toInt_inj.mp q)
theorem mLt {x y : Int32} (h : x.toInt < y.toInt) : x < y := Int32.lt_iff_toInt_lt.mpr h
theorem mNlt {x y : Int32} (h : y.toInt ≤ x.toInt) : ¬ x < y := fun q => absurd (oLt q) (Int.not_lt.mpr h)
theorem mEq {x y : Int32} (h : x.toInt = y.toInt) : x = y := Int32.toInt_inj.mp h
theorem mNe {x y : Int32} (h : x.toInt ≠ y.toInt) : ¬ x = y := fun q => h (congrArg _ q)
theorem mLtL {x y : Int64} (h : x.toInt < y.toInt) : x < y := Int64.lt_iff_toInt_lt.mpr h
theorem mNltL {x y : Int64} (h : y.toInt ≤ x.toInt) : ¬ x < y := fun q => absurd (oLtL q) (Int.not_lt.mpr h)
theorem mEqL {x y : Int64} (h : x.toInt = y.toInt) : x = y := Int64.toInt_inj.mp h
theorem mNeL {x y : Int64} (h : x.toInt ≠ y.toInt) : ¬ x = y := fun q => h (congrArg _ q)
theorem oRemL (x y : Int64) : 0 ≤ x.toInt → 0 < y.toInt → 0 ≤ (x % y).toInt ∧ (x % y).toInt < y.toInt := by
  intro h1 h2
  rw [Int64.toInt_mod, Int.tmod_eq_emod_of_nonneg h1]
  exact ⟨Int.emod_nonneg _ (by omega), Int.emod_lt_of_pos _ h2⟩
theorem oRemI (x y : Int32) : 0 ≤ x.toInt → 0 < y.toInt → 0 ≤ (x % y).toInt ∧ (x % y).toInt < y.toInt := by
  intro h1 h2
  rw [Int32.toInt_mod, Int.tmod_eq_emod_of_nonneg h1]
  exact ⟨Int.emod_nonneg _ (by omega), Int.emod_lt_of_pos _ h2⟩
/-- an array of kind ty, of length z, whose i-th component is f i -/
def OArr (Z : State) (h : Heap) (a : Addr) (ty : FieldType) (z : Int32) (f : Nat → Value) : Prop := ∃ c : Cell, Arr Z h a c ty ∧ c.slots.size = z.toNatClampNeg ∧ ¬ z < 0 ∧ ∀ i, i < c.slots.size → c.slots[i]? = some (f i)
section OArrs
variable {h' : Heap} {a b : Addr} {ty : FieldType} {z : Int32} {f : Nat → Value} {sl : Nat} {v : Value}
theorem OArr.lt (F : OArr Z h a ty z f) : a < h.size := by obtain ⟨c, A, -⟩ := F; exact A.lt
theorem OArr.ext (F : OArr Z h a ty z f) (E : Ext h h') : OArr Z h' a ty z f := by obtain ⟨c, A, r⟩ := F; exact ⟨c, A.ext E, r⟩
theorem OArr.other (F : OArr Z h b ty z f) (W : Wr h h' a sl v) (q : b ≠ a) : OArr Z h' b ty z f := by obtain ⟨c, A, r⟩ := F; exact ⟨c, A.other W q, r⟩
theorem OArr.keep {ws : List Addr} (F : OArr Z h a ty z f) (K : Keep h h' ws) (q : a ∉ ws) : OArr Z h' a ty z f := by obtain ⟨c, A, r⟩ := F; exact ⟨c, ⟨K.2.1 a c A.1 q, A.2⟩, r⟩
theorem OArr.imp {g : Nat → Value} (F : OArr Z h a ty z f) (k : ∀ i, i < z.toNatClampNeg → f i = g i) : OArr Z h a ty z g := by
  obtain ⟨c, A, S, r, G⟩ := F
  exact ⟨c, A, S, r, fun i hi => by rw [G i hi, k i (by rw [← S]; exact hi)]⟩
theorem OArr.new {k : ClassId} (A : Arr Z h a (newA k ty z) ty) (q : ¬ z < 0) : OArr Z h a ty z (fun _ => defaultValue ty) :=
  ⟨_, A, sz_new _ _ _, q, fun i hi => by simp only [newA, Array.size_replicate] at hi; simp [newA, hi]⟩
theorem OArr.set (F : OArr Z h a ty z f) (W : Wr h h' a sl v) : OArr Z h' a ty z (fun i => if i = sl then v else f i) := by
  obtain ⟨c, A, S, r, G⟩ := F
  refine ⟨_, A.same W, by rw [sz_set]; exact S, r, fun i hi => ?_⟩
  rw [sz_set] at hi
  show (c.setSlot sl v).slots[i]? = some (if i = sl then v else f i)
  by_cases q : i = sl
  · subst q; simp [Cell.setSlot, hi]
  · rw [if_neg q, ← G i hi]
    simp [Cell.setSlot, Array.getElem?_setIfInBounds, Ne.symm q]
theorem oNeA {C : String} {k : Nat} (E : Exa Z h a C) (wi : (Jvm.Cond.instantiable C k).before a0 Z = true) (F : OArr Z h b ty z f) : a ≠ b := by
  obtain ⟨c, A, -⟩ := F; exact ne_arr E wi A
theorem oIn {j : Int32} {n : Nat} (S : n = z.toNatClampNeg) (h1 : 0 ≤ j.toInt) (h2 : j.toInt < z.toInt) : ¬ (j < 0 ∨ n ≤ j.toNatClampNeg) := by
  intro q
  have e0 : (0 : Int32).toInt = 0 := by decide
  have e1 : j.toNatClampNeg = j.toInt.toNat := rfl
  have e2 : z.toNatClampNeg = z.toInt.toNat := rfl
  rcases q with q | q
  · have := oLt q; omega
  · rw [S, e1, e2] at q; omega
theorem oLen (X : Stand p l e R s m args below meth c T locs cells slots) (hx : p.tables.exec = Jvm.exec) (hZ : Z.Warmed39 s.vm) (eT : T.heap = h) (F : OArr Z h a ty z f) {g : JFrame} (hg : g.method = m) {rest : List Value} (hs : g.stack = .ref a :: rest) (hd : decode c.code g.pc = .ok (.arraylength, 1)) {target : State}
    (k : Steps p.tables e below (T.setTop { g with pc := g.pc + 1, stack := .int z :: rest }) target) : Steps p.tables e below (T.setTop g) target := by
  obtain ⟨cl, A, S, r, -⟩ := F
  refine X.arraylength hx (by rw [eT]; exact A.1) (State.isArrayOf_alike hZ.alike A.2.1) (g := g) hg hs hd _ ?_
  rw [len_of S r]; exact k
theorem oInd (F : OArr Z h a ty z f) {j : Int32} (h1 : 0 ≤ j.toInt) (h2 : j.toInt < z.toInt) : ∃ cl, Arr Z h a cl ty ∧ ¬ (j < 0 ∨ cl.slots.size ≤ j.toNatClampNeg) ∧ cl.slots[j.toNatClampNeg]? = some (f j.toNatClampNeg) := by
  obtain ⟨cl, A, S, r, G⟩ := F
  have q := oIn S h1 h2
  exact ⟨cl, A, q, G _ (Nat.lt_of_not_le fun w => q (Or.inr w))⟩
theorem oLdI (X : Stand p l e R s m args below meth c T locs cells slots) (hx : p.tables.exec = Jvm.exec) (hZ : Z.Warmed39 s.vm) (eT : T.heap = h) (F : OArr Z h a .int z f) {j x : Int32} (h1 : 0 ≤ j.toInt) (h2 : j.toInt < z.toInt) (hv : f j.toNatClampNeg = .int x) {g : JFrame} (hg : g.method = m) {rest : List Value} (hs : g.stack = .int j :: .ref a :: rest) (hd : decode c.code g.pc = .ok (.iaload, 1)) {target : State}
    (k : Steps p.tables e below (T.setTop { g with pc := g.pc + 1, stack := .int x :: rest }) target) : Steps p.tables e below (T.setTop g) target := by
  obtain ⟨cl, A, q, G⟩ := oInd F h1 h2
  rw [hv] at G
  exact X.iaload hx (j := j) (v := .int x) (by rw [eT]; exact A.1) (State.isArrayOf_alike hZ.alike A.2.1) A.2.2 q G (g := g) hg hs hd _ k
theorem oLdD (X : Stand p l e R s m args below meth c T locs cells slots) (hx : p.tables.exec = Jvm.exec) (hZ : Z.Warmed39 s.vm) (eT : T.heap = h) (F : OArr Z h a .double z f) {j : Int32} {x : UInt64} (h1 : 0 ≤ j.toInt) (h2 : j.toInt < z.toInt) (hv : f j.toNatClampNeg = .double x) {g : JFrame} (hg : g.method = m) {rest : List Value} (hs : g.stack = .int j :: .ref a :: rest) (hd : decode c.code g.pc = .ok (.daload, 1)) {target : State}
    (k : Steps p.tables e below (T.setTop { g with pc := g.pc + 1, stack := .double x :: rest }) target) : Steps p.tables e below (T.setTop g) target := by
  obtain ⟨cl, A, q, G⟩ := oInd F h1 h2
  rw [hv] at G
  exact X.daload hx (j := j) (v := .double x) (by rw [eT]; exact A.1) (State.isArrayOf_alike hZ.alike A.2.1) A.2.2 q G (g := g) hg hs hd _ k
theorem oLdR (X : Stand p l e R s m args below meth c T locs cells slots) (hx : p.tables.exec = Jvm.exec) (hZ : Z.Warmed39 s.vm) (eT : T.heap = h) (F : OArr Z h a ty z f) (hty : ty.isReference = true) {j : Int32} {x : Value} (h1 : 0 ≤ j.toInt) (h2 : j.toInt < z.toInt) (hv : f j.toNatClampNeg = x) {g : JFrame} (hg : g.method = m) {rest : List Value} (hs : g.stack = .int j :: .ref a :: rest) (hd : decode c.code g.pc = .ok (.aaload, 1)) {target : State}
    (k : Steps p.tables e below (T.setTop { g with pc := g.pc + 1, stack := x :: rest }) target) : Steps p.tables e below (T.setTop g) target := by
  obtain ⟨cl, A, q, G⟩ := oInd F h1 h2
  rw [hv] at G
  exact X.aaload hx (j := j) (v := x) (by rw [eT]; exact A.1) (State.isArrayOf_alike hZ.alike A.2.1) hty A.2.2 q G (g := g) hg hs hd _ k
theorem OArr.of_arv {kc : ClassId} {vs : List Value} {d : Value} (F : Arv Z h a kc ty z vs d) : OArr Z h a ty z (fun i => vs.getD i d) := by
  obtain ⟨c, A, -, S, r, H, -⟩ := F
  exact ⟨c, A, S, r, H⟩
theorem oKext (K : Keep h h' []) : Ext h h' := ⟨K.1, fun a c q => K.2.1 a c q (fun z => nomatch z)⟩
theorem oLdC (X : Stand p l e R s m args below meth c T locs cells slots) (hx : p.tables.exec = Jvm.exec) (hZ : Z.Warmed39 s.vm) (eT : T.heap = h) (F : OArr Z h a .char z f) {j x : Int32} (h1 : 0 ≤ j.toInt) (h2 : j.toInt < z.toInt) (hv : f j.toNatClampNeg = .int x) {g : JFrame} (hg : g.method = m) {rest : List Value} (hs : g.stack = .int j :: .ref a :: rest) (hd : decode c.code g.pc = .ok (.caload, 1)) {target : State}
    (k : Steps p.tables e below (T.setTop { g with pc := g.pc + 1, stack := .int x :: rest }) target) : Steps p.tables e below (T.setTop g) target := by
  obtain ⟨cl, A, q, G⟩ := oInd F h1 h2
  rw [hv] at G
  exact X.caload hx (j := j) (v := .int x) (by rw [eT]; exact A.1) (State.isArrayOf_alike hZ.alike A.2.1) A.2.2 q G (g := g) hg hs hd _ k
theorem oLdB (X : Stand p l e R s m args below meth c T locs cells slots) (hx : p.tables.exec = Jvm.exec) (hZ : Z.Warmed39 s.vm) (eT : T.heap = h) (F : OArr Z h a .byte z f) {j x : Int32} (h1 : 0 ≤ j.toInt) (h2 : j.toInt < z.toInt) (hv : f j.toNatClampNeg = .int x) {g : JFrame} (hg : g.method = m) {rest : List Value} (hs : g.stack = .int j :: .ref a :: rest) (hd : decode c.code g.pc = .ok (.baload, 1)) {target : State}
    (k : Steps p.tables e below (T.setTop { g with pc := g.pc + 1, stack := .int x :: rest }) target) : Steps p.tables e below (T.setTop g) target := by
  obtain ⟨cl, A, q, G⟩ := oInd F h1 h2
  rw [hv] at G
  exact X.baloadBytes hx (j := j) (v := .int x) (by rw [eT]; exact A.1) (State.isArrayOf_alike hZ.alike A.2.1) A.2.2 q G (g := g) hg hs hd _ k
theorem oLdZ (X : Stand p l e R s m args below meth c T locs cells slots) (hx : p.tables.exec = Jvm.exec) (hZ : Z.Warmed39 s.vm) (eT : T.heap = h) (F : OArr Z h a .boolean z f) {j x : Int32} (h1 : 0 ≤ j.toInt) (h2 : j.toInt < z.toInt) (hv : f j.toNatClampNeg = .int x) {g : JFrame} (hg : g.method = m) {rest : List Value} (hs : g.stack = .int j :: .ref a :: rest) (hd : decode c.code g.pc = .ok (.baload, 1)) {target : State}
    (k : Steps p.tables e below (T.setTop { g with pc := g.pc + 1, stack := .int x :: rest }) target) : Steps p.tables e below (T.setTop g) target := by
  obtain ⟨cl, A, q, G⟩ := oInd F h1 h2
  rw [hv] at G
  exact X.baloadBooleans hx (j := j) (v := .int x) (by rw [eT]; exact A.1) (State.isArrayOf_alike hZ.alike A.2.1) A.2.2 q G (g := g) hg hs hd _ k
theorem oStC (X : Stand p l e R s m args below meth c T locs cells slots) (hx : p.tables.exec = Jvm.exec) (hZ : Z.Warmed39 s.vm) (eT : T.heap = h) (F : OArr Z h a .char z f) {j x : Int32} (h1 : 0 ≤ j.toInt) (h2 : j.toInt < z.toInt) (hn : nar .char x = x) {g : JFrame} (hg : g.method = m) {rest : List Value} (hs : g.stack = .int x :: .int j :: .ref a :: rest) (hd : decode c.code g.pc = .ok (.castore, 1)) :
    ∃ T' h', Stand p l e R s m args below meth c T' (locs ++ [⟨a, j.toNatClampNeg⟩]) cells slots ∧ T'.heap = h' ∧ Wr h h' a j.toNatClampNeg (.int x) ∧ ∀ target, Steps p.tables e below (T'.setTop { g with pc := g.pc + 1, stack := rest }) target → Steps p.tables e below (T.setTop g) target := by
  obtain ⟨cl, A, q, G⟩ := oInd F h1 h2
  have r := stC X hx hZ eT A q hg hs hd
  rw [hn] at r; exact r
theorem oStB (X : Stand p l e R s m args below meth c T locs cells slots) (hx : p.tables.exec = Jvm.exec) (hZ : Z.Warmed39 s.vm) (eT : T.heap = h) (F : OArr Z h a .byte z f) {j x : Int32} (h1 : 0 ≤ j.toInt) (h2 : j.toInt < z.toInt) (hn : nar .byte x = x) {g : JFrame} (hg : g.method = m) {rest : List Value} (hs : g.stack = .int x :: .int j :: .ref a :: rest) (hd : decode c.code g.pc = .ok (.bastore, 1)) :
    ∃ T' h', Stand p l e R s m args below meth c T' (locs ++ [⟨a, j.toNatClampNeg⟩]) cells slots ∧ T'.heap = h' ∧ Wr h h' a j.toNatClampNeg (.int x) ∧ ∀ target, Steps p.tables e below (T'.setTop { g with pc := g.pc + 1, stack := rest }) target → Steps p.tables e below (T.setTop g) target := by
  obtain ⟨cl, A, q, G⟩ := oInd F h1 h2
  have r := stB X hx hZ eT A q hg hs hd
  rw [hn] at r; exact r
theorem oStZ (X : Stand p l e R s m args below meth c T locs cells slots) (hx : p.tables.exec = Jvm.exec) (hZ : Z.Warmed39 s.vm) (eT : T.heap = h) (F : OArr Z h a .boolean z f) {j x : Int32} (h1 : 0 ≤ j.toInt) (h2 : j.toInt < z.toInt) (hn : nar .boolean x = x) {g : JFrame} (hg : g.method = m) {rest : List Value} (hs : g.stack = .int x :: .int j :: .ref a :: rest) (hd : decode c.code g.pc = .ok (.bastore, 1)) :
    ∃ T' h', Stand p l e R s m args below meth c T' (locs ++ [⟨a, j.toNatClampNeg⟩]) cells slots ∧ T'.heap = h' ∧ Wr h h' a j.toNatClampNeg (.int x) ∧ ∀ target, Steps p.tables e below (T'.setTop { g with pc := g.pc + 1, stack := rest }) target → Steps p.tables e below (T.setTop g) target := by
  obtain ⟨cl, A, q, G⟩ := oInd F h1 h2
  have r := stZ X hx hZ eT A q hg hs hd
  rw [hn] at r; exact r
theorem oStI (X : Stand p l e R s m args below meth c T locs cells slots) (hx : p.tables.exec = Jvm.exec) (hZ : Z.Warmed39 s.vm) (eT : T.heap = h) (F : OArr Z h a .int z f) {j x : Int32} (h1 : 0 ≤ j.toInt) (h2 : j.toInt < z.toInt) {g : JFrame} (hg : g.method = m) {rest : List Value} (hs : g.stack = .int x :: .int j :: .ref a :: rest) (hd : decode c.code g.pc = .ok (.iastore, 1)) :
    ∃ T' h', Stand p l e R s m args below meth c T' (locs ++ [⟨a, j.toNatClampNeg⟩]) cells slots ∧ T'.heap = h' ∧ Wr h h' a j.toNatClampNeg (.int x) ∧ ∀ target, Steps p.tables e below (T'.setTop { g with pc := g.pc + 1, stack := rest }) target → Steps p.tables e below (T.setTop g) target := by
  obtain ⟨cl, A, q, G⟩ := oInd F h1 h2
  exact stI X hx hZ eT A q hg hs hd
theorem oStD (X : Stand p l e R s m args below meth c T locs cells slots) (hx : p.tables.exec = Jvm.exec) (hZ : Z.Warmed39 s.vm) (eT : T.heap = h) (F : OArr Z h a .double z f) {j : Int32} {x : UInt64} (h1 : 0 ≤ j.toInt) (h2 : j.toInt < z.toInt) {g : JFrame} (hg : g.method = m) {rest : List Value} (hs : g.stack = .double x :: .int j :: .ref a :: rest) (hd : decode c.code g.pc = .ok (.dastore, 1)) :
    ∃ T' h', Stand p l e R s m args below meth c T' (locs ++ [⟨a, j.toNatClampNeg⟩]) cells slots ∧ T'.heap = h' ∧ Wr h h' a j.toNatClampNeg (.double x) ∧ ∀ target, Steps p.tables e below (T'.setTop { g with pc := g.pc + 1, stack := rest }) target → Steps p.tables e below (T.setTop g) target := by
  obtain ⟨cl, A, q, G⟩ := oInd F h1 h2
  exact stD X hx hZ eT A q hg hs hd
theorem oClone (X : Stand p l e R s m args below meth c T locs cells slots) (hx : p.tables.exec = Jvm.exec) (hZ : Z.Warmed39 s.vm) {own ad : String} {index : Nat} (hown : s.vm.findClass own = some m.cls)
    (w1 : (Jvm.Cond.methodLink own index ⟨ad, "clone", "()Ljava/lang/Object;"⟩).before a0 Z = true) (w2 : (Jvm.Cond.sameMethod ad "java/lang/Object" "clone" "()Ljava/lang/Object;").before a0 Z = true) (w3 : (Jvm.Cond.native ⟨"java/lang/Object", "clone", "()Ljava/lang/Object;"⟩).before a0 Z = true)
    (w4 : (Jvm.Cond.instanceMethod ⟨"java/lang/Object", "clone", "()Ljava/lang/Object;"⟩).before a0 Z = true) (w5 : (Jvm.Cond.selects ad ⟨ad, "clone", "()Ljava/lang/Object;"⟩ ⟨"java/lang/Object", "clone", "()Ljava/lang/Object;"⟩).before a0 Z = true) (w6 : (Jvm.Cond.castable ad "java/lang/Cloneable").before a0 Z = true)
    (eT : T.heap = h) (F : OArr Z h a ty z f) (E : Exa Z h a ad) (hfit : ∀ i, i < z.toNatClampNeg → fits ty (f i) = true) {g : JFrame} (hg : g.method = m) (hsize : g.locals.size = c.maxLocals) {rest : List Value} (hst : g.stack = .ref a :: rest) (hd : decode c.code g.pc = .ok (.invokevirtual index, 3))
    (hf : 1 ≤ R.frames) {W cap : Nat} (hW : 2 * g.monitorRoom + (rest.map fun v => v.category).sum ≤ W) (hl : W + 14 ≤ R.locals) (hcap : z.toNatClampNeg ≤ cap) (hc : cells + 1 ≤ R.cells) (hsl : slots + cap ≤ R.slots) :
    ∃ T' h', Stand p l e R s m args below meth c T' locs (cells + 1) (slots + cap) ∧ T'.heap = h' ∧ Ext h h' ∧ OArr Z h' h.size ty z f ∧ Exa Z h' h.size ad ∧
      ∀ target, Steps p.tables e below (T'.setTop { g with pc := g.pc + 3, stack := .ref h.size :: rest }) target → Steps p.tables e below (T.setTop g) target := by
  obtain ⟨cl, A, S, r, G⟩ := F
  have FC : FitC Z cl := fitC_of A fun i hi v hv => by
    rw [G i hi] at hv; cases hv; exact hfit i (by rw [← S]; exact hi)
  obtain ⟨T', h', X', e', ex, A', E', st⟩ := cloneA X hx hZ hown w1 w2 w3 w4 w5 w6 eT A E FC hg hsize hst hd hf hW hl (by rw [S]; exact hcap) hc hsl
  exact ⟨T', h', X', e', ex, ⟨cloneOf cl, A', S, r, G⟩, E', st⟩
theorem oCopy (X : Stand p l e R s m args below meth c T locs cells slots) (hx : p.tables.exec = Jvm.exec) (hZ : Z.Warmed39 s.vm) {own : String} {index : Nat} (hown : s.vm.findClass own = some m.cls)
    (w1 : (Jvm.Cond.methodLink own index arraycopyName).before a0 Z = true) (w2 : (Jvm.Cond.native arraycopyName).before a0 Z = true) (w3 : (Jvm.Cond.static arraycopyName).before a0 Z = true) (w4 : (Jvm.Cond.initialized "java/lang/System").before a0 Z = true)
    (eT : T.heap = h) {za zb : Int32} {fb : Nat → Value} (Fa : OArr Z h a ty za f) (Fb : OArr Z h b ty zb fb) (hty : refKind ty = false) (hfit : ∀ i, i < za.toNatClampNeg → fits ty (f i) = true)
    {sp dp n : Int32} (h1 : 0 ≤ sp.toInt) (h2 : 0 ≤ dp.toInt) (h3 : 0 ≤ n.toInt) (h4 : sp.toInt + n.toInt ≤ za.toInt) (h5 : dp.toInt + n.toInt ≤ zb.toInt)
    {g : JFrame} (hg : g.method = m) (hsize : g.locals.size = c.maxLocals) {rest : List Value} (hst : g.stack = .int n :: .int dp :: .ref b :: .int sp :: .ref a :: rest) (hd : decode c.code g.pc = .ok (.invokestatic index, 3))
    (hf : 1 ≤ R.frames) (hl : 2 * g.monitorRoom + (rest.map fun v => v.category).sum + (nativeFrameWords "java/lang/System" "arraycopy" 5 + 11) ≤ R.locals) :
    ∃ T' h' L, Stand p l e R s m args below meth c T' (locs ++ L) cells slots ∧ T'.heap = h' ∧ Keep h h' [b] ∧ OArr Z h' b ty zb (fun i => if dp.toNatClampNeg ≤ i ∧ i < dp.toNatClampNeg + n.toNatClampNeg then f (sp.toNatClampNeg + (i - dp.toNatClampNeg)) else fb i) ∧ (∀ y ∈ L, y.base = b) ∧
      ∀ target, Steps p.tables e below (T'.setTop { g with pc := g.pc + 3, stack := rest }) target → Steps p.tables e below (T.setTop g) target := by
  obtain ⟨ca, Aa, Sa, ra, Ga⟩ := Fa
  obtain ⟨cb, Ab, Sb, rb, Gb⟩ := Fb
  subst eT
  obtain ⟨hsa, ka, hka, compa, hkinda⟩ := State.isArrayOf_alike hZ.alike Aa.2.1
  obtain ⟨hsb, kb, hkb, compb, hkindb⟩ := State.isArrayOf_alike hZ.alike Ab.2.1
  have e0 : (0 : Int32).toInt = 0 := by decide
  have ea : (ca.slots.size : Int) = za.toInt := by
    have := oNlt ra
    rw [Sa]; show (za.toInt.toNat : Int) = _; omega
  have eb : (cb.slots.size : Int) = zb.toInt := by
    have := oNlt rb
    rw [Sb]; show (zb.toInt.toNat : Int) = _; omega
  have es : (sp.toNatClampNeg : Int) = sp.toInt := by show (sp.toInt.toNat : Int) = _; omega
  have ed : (dp.toNatClampNeg : Int) = dp.toInt := by show (dp.toInt.toNat : Int) = _; omega
  have en : (n.toNatClampNeg : Int) = n.toInt := by show (n.toInt.toNat : Int) = _; omega
  have hv : ∀ i, i < n.toNatClampNeg → ca.slots.getD (sp.toNatClampNeg + i) .null = f (sp.toNatClampNeg + i) := fun i hi => by
    rw [Array.getD_eq_getD_getElem?, Ga _ (by omega)]; rfl
  obtain ⟨vm', X', st⟩ := X.arraycopy hx hown (mvT hZ w1) (mvT hZ w2) (mvT hZ w3) (mvT hZ w4) (src := a) (dst := b) (srcPos := sp) (destPos := dp) (n := n) Aa.1 Ab.1 hsa hsb Aa.2.2 Ab.2.2 hka hkb hkinda hkindb (by simp [hty]) (mNlt (by omega)) (mNlt (by omega)) (mNlt (by omega)) (by omega) (by omega)
    (fun vm₁ _ i hi => by
      have q := hfit (sp.toNatClampNeg + i) (by rw [← Sa]; omega)
      rw [hv i hi]
      refine ⟨q, ?_⟩
      cases hq : f (sp.toNatClampNeg + i) with
      | ref y => rw [hq] at q; cases ty <;> first | (cases hty; done) | (cases q; done)
      | _ => trivial) hg hsize hst hd hf hl
  obtain ⟨f1, f2, f3, -, -⟩ := Cell.storeRun_facts cb dp.toNatClampNeg (ca.stretch sp.toNatClampNeg n.toNatClampNeg)
  have hlen : (ca.stretch sp.toNatClampNeg n.toNatClampNeg).length = n.toNatClampNeg := Cell.stretch_length ..
  have hself : ((T.setVm vm').setCell b (copied ca cb sp dp n)).heap[b]? = some (copied ca cb sp dp n) := State.heap_setCell_self (show (T.setVm vm').heap[b]? = some cb from Ab.1)
  refine ⟨_, _, _, X', rfl, ⟨?_, ?_, ?_⟩, ⟨copied ca cb sp dp n, ⟨hself, ?_, ?_⟩, ?_, rb, ?_⟩, ?_, st⟩
  · exact Nat.le_of_eq (by simp [State.setCell, State.setVm])
  · intro x cx hx' hn
    rw [State.heap_setCell_other (fun q => hn (by rw [q]; exact List.mem_singleton.mpr rfl))]; exact hx'
  · intro x cx hx'
    by_cases q : b = x
    · subst q; rw [Ab.1] at hx'; cases hx'; exact ⟨_, hself, f1, f2, f3⟩
    · exact ⟨cx, by rw [State.heap_setCell_other q]; exact hx', rfl, rfl, rfl⟩
  · obtain ⟨u1, k1, u2, comp, u3⟩ := Ab.2.1
    exact ⟨fun k => by show (cb.storeRun _ _).vm ≠ _; rw [f2]; exact u1 k, k1, by show Z.vm.classes[(cb.storeRun _ _).cls]? = _; rw [f1]; exact u2, comp, u3⟩
  · show (cb.storeRun _ _).vm ≠ _
    rw [f2]; exact Ab.2.2
  · show (cb.storeRun _ _).slots.size = _
    rw [f3]; exact Sb
  · intro i hi
    have hi' : i < cb.slots.size := by
      have hi : i < (cb.storeRun dp.toNatClampNeg (ca.stretch sp.toNatClampNeg n.toNatClampNeg)).slots.size := hi
      rw [f3] at hi; exact hi
    show (cb.storeRun dp.toNatClampNeg (ca.stretch sp.toNatClampNeg n.toNatClampNeg)).slots[i]? = _
    rw [Cell.storeRun_get _ _ _ _ (by rw [hlen]; omega), hlen]
    dsimp only
    by_cases q : dp.toNatClampNeg ≤ i ∧ i < dp.toNatClampNeg + n.toNatClampNeg
    · rw [if_pos q, if_pos q, ← hv _ (by omega)]
      simp [Cell.stretch, show i - dp.toNatClampNeg < n.toNatClampNeg by omega]
    · rw [if_neg q, if_neg q]; exact Gb i hi'
  · intro y hy
    obtain ⟨q, _, rfl⟩ := List.mem_map.mp hy; rfl
end OArrs
/-- from a case's equation to the value -/
theorem oEqv {f s : State} {o : Option Outcome} {idx : List Nat} {a b : Term} (h : (Jvm.Cond.eq a b).value args f o s idx = some true) : ∃ x, a.eval args f o idx s = some x ∧ b.eval args f o idx s = some x := by
  obtain ⟨x, y, h1, h2, -, -⟩ := cmp_v (Or.inl h)
  cases x <;> cases y <;> simp [Cond.value, h1, h2] at h <;> first | (subst h; exact ⟨_, h1, h2⟩) | exact ⟨_, h1, h2⟩
theorem oFeq {s : State} {t u : Term} {x : Addr} {C n d : String} {w : Value} (ht : t.eval args s none [] s = some (.ref x)) (h : (Jvm.Cond.eq (.field t C n d) u).value args s none s [] = some true) (hu : u.eval args s none [] s = some w) : s.fieldOf? x C n d = some w := by
  obtain ⟨v, h1, h2⟩ := oEqv h
  rw [fld_at ht] at h1
  rw [h1, ← h2, hu]
theorem oNot {d : Jvm.Cond} {f s : State} {o : Option Outcome} {idx : List Nat} (h : (Jvm.Cond.not d).value args f o s idx = some true) (h2 : d.value args f o s idx = some true) : False := by
  rw [Cond.value, h2] at h
  cases h
end OwnKit
section OwnKitW
variable {p : Program} {l : Launch} {e : Env} {R : Room} {s : State} {m : MethodId} {args : Array Value} {below : List Frame} {meth : Method} {c : Code} {T : State} {locs : List Loc} {cells slots : Nat} {Z : State} {a0 : Array Value} {h : Heap} {Q : Option Value → Heap → List Loc → Prop} {kc ks : Nat} {vm0 : Vm} {k0 : Nat}
/-- as OGoal, but the tables may have gained interned strings -/
def OGoalW (p : Program) (e : Env) (below : List Frame) (s : State) (Q : Option Value → Heap → List Loc → Prop) (kc ks : Nat) (S : State) : Prop :=
  ∃ s₂ o, Steps p.tables e below S s₂ ∧ s₂.status = .running ∧ Ended s₂ below o ∧ ∃ v L, o = .returned v ∧ Q v s₂.heap L ∧ ReturnedEndW s o s₂ L kc ks
theorem OGoalW.mp {S S' : State} (k : ∀ t, Steps p.tables e below S' t → Steps p.tables e below S t) (g : OGoalW p e below s Q kc ks S') : OGoalW p e below s Q kc ks S := by
  obtain ⟨s₂, o, h1, h2⟩ := g
  exact ⟨s₂, o, k _ h1, h2⟩
theorem OGoal.wide {S : State} (g : OGoal p e below s Q kc ks S) : OGoalW p e below s Q kc ks S := by
  obtain ⟨s₂, o, h1, h2, h3, v, L, h4, h5, h6⟩ := g
  exact ⟨s₂, o, h1, h2, h3, v, L, h4, h5, ReturnedEndW.of_narrow h6.1 h6.2.1 h6.2.2⟩
theorem oRetW (X : Stand p l e R (s.setVm vm0) m args below meth c T locs cells slots) (hS : s.Since vm0 k0) (hk : k0 ≤ T.heap.size) (hx : p.tables.exec = Jvm.exec) (hlk : meth.locks = false) {pc : Nat} {Ls : Array Slot} {w : Value} {t : FieldType} {i : Instr} {rest : List Value} (hret : meth.sig.returnType = some t) (hn : narrow t w = w)
    (hi : (i = .ireturn ∧ (t = .int ∨ t = .boolean ∨ t = .byte ∨ t = .char ∨ t = .short) ∧ ∃ z, w = .int z) ∨ (i = .lreturn ∧ t = .long ∧ ∃ z, w = .long z) ∨ (i = .dreturn ∧ t = .double ∧ ∃ z, w = .double z) ∨ (i = .freturn ∧ t = .float ∧ ∃ z, w = .float z) ∨ (i = .areturn ∧ t.isReference = true ∧ w.isRef = true))
    (hd : decode c.code pc = .ok (i, 1)) (hQ : Q (some w) T.heap locs) (hc : cells ≤ kc) (hs : slots ≤ ks) : OGoalW p e below s Q kc ks (T.setTop (mkF m pc Ls (w :: rest))) := by
  obtain ⟨fs, hr, hrun, hended, h1, h2, h3, h4⟩ := X.leaveW hS hk (v := some w) (fun q => by rw [hret] at q; cases q) hlk
  exact ⟨_, _, retOut X hx hret hn hi hd hr, hrun, hended, _, _, rfl, hQ, h1, h2, h3, h4.mono hc hs⟩
theorem oRetZW (X : Stand p l e R (s.setVm vm0) m args below meth c T locs cells slots) (hS : s.Since vm0 k0) (hk : k0 ≤ T.heap.size) (hx : p.tables.exec = Jvm.exec) (hlk : meth.locks = false) {pc : Nat} {Ls : Array Slot} {z : Int32} {rest : List Value} (hret : meth.sig.returnType = some .boolean) (hz : z = 0 ∨ z = 1)
    (hd : decode c.code pc = .ok (.ireturn, 1)) (hQ : Q (some (.int z)) T.heap locs) (hc : cells ≤ kc) (hs : slots ≤ ks) : OGoalW p e below s Q kc ks (T.setTop (mkF m pc Ls (.int z :: rest))) :=
  oRetW X hS hk hx hlk hret (by rcases hz with rfl | rfl <;> rfl) (Or.inl ⟨rfl, Or.inr (Or.inl rfl), _, rfl⟩) hd hQ hc hs
theorem oRetAW (X : Stand p l e R (s.setVm vm0) m args below meth c T locs cells slots) (hS : s.Since vm0 k0) (hk : k0 ≤ T.heap.size) (hx : p.tables.exec = Jvm.exec) (hlk : meth.locks = false) {pc : Nat} {Ls : Array Slot} {w : Value} {t : FieldType} {rest : List Value} (hret : meth.sig.returnType = some t) (ht : t.isReference = true) (hw : w.isRef = true)
    (hd : decode c.code pc = .ok (.areturn, 1)) (hQ : Q (some w) T.heap locs) (hc : cells ≤ kc) (hs : slots ≤ ks) : OGoalW p e below s Q kc ks (T.setTop (mkF m pc Ls (w :: rest))) :=
  oRetW X hS hk hx hlk hret (by cases t <;> cases w <;> first | rfl | (cases ht; done) | (cases hw; done)) (Or.inr (Or.inr (Or.inr (Or.inr ⟨rfl, ht, hw⟩)))) hd hQ hc hs
theorem oRetVW (X : Stand p l e R (s.setVm vm0) m args below meth c T locs cells slots) (hS : s.Since vm0 k0) (hk : k0 ≤ T.heap.size) (hx : p.tables.exec = Jvm.exec) (hlk : meth.locks = false) {pc : Nat} {Ls : Array Slot} (hret : meth.sig.returnType = none)
    (hd : decode c.code pc = .ok (.return_, 1)) (hQ : Q none T.heap locs) (hc : cells ≤ kc) (hs : slots ≤ ks) : OGoalW p e below s Q kc ks (T.setTop (mkF m pc Ls [])) := by
  obtain ⟨fs, hr, hrun, hended, h1, h2, h3, h4⟩ := X.leaveW hS hk (v := none) (fun _ => rfl) hlk
  exact ⟨_, _, X.returnOut hx hret hd hr, hrun, hended, _, _, rfl, hQ, h1, h2, h3, h4.mono hc hs⟩
/-- the contract of a method that may intern; its start's intern table is Z's -/
def OConKW (l : Launch) (Z : State) (y : MethodName) (bytes : ByteArray) (maxL : Nat) (ret : Option FieldType) (rm : Room) (kc ks : Nat) (as' : Array Value) (h : Heap) (Q : Option Value → Heap → List Loc → Prop) : Prop :=
  ∀ ws : List Jvm.Cond, MetFree l y (head1 (Jvm.Cond.code y bytes maxL ret :: ws) rm) (fun a U => a = as' ∧ Z.Warmed39 U.vm ∧ U.vm.interned = Z.vm.interned ∧ U.heap = h) (fun _ _ _ _ _ => True) (fun _ U o U' => ∃ v L, o = .returned v ∧ Q v U'.heap L ∧ ReturnedEndW U o U' L kc ks)
abbrev OConW (l : Launch) (Z : State) (y : MethodName) (bytes : ByteArray) (maxL : Nat) (ret : Option FieldType) (rm : Room) (as' : Array Value) (h : Heap) (Q : Option Value → Heap → List Loc → Prop) : Prop := OConKW l Z y bytes maxL ret rm rm.cells rm.slots as' h Q
theorem OConKW.intro {y : MethodName} {bytes : ByteArray} {maxL : Nat} {ret : Option FieldType} {rm : Room} {as' : Array Value} {Ls : Array Slot} (hpf : plainFor y = true) (ef : ∀ m, entryFrame m as' maxL = mkF m 0 Ls [])
    (H : ∀ p e s m below meth c s₁, p.tables.exec = Jvm.exec → c.code = bytes → c.maxLocals = maxL → (s.setVm s.vm).vm.findClass y.cls = some m.cls → meth.name = y.name → meth.sig.returnType = ret → meth.locks = false → Z.Warmed39 (s.setVm s.vm).vm → s.vm.interned = Z.vm.interned → s.heap = h → s.Since s.vm s.heap.size →
      Stand p l e rm (s.setVm s.vm) m as' below meth c s₁ [] 0 0 → s₁.heap = h → OGoalW p e below s Q kc ks (s₁.setTop (mkF m 0 Ls []))) : OConKW l Z y bytes maxL ret rm kc ks as' h Q := by
  intro ws
  refine MetFree.of_bodySF hpf hisR ?_
  intro p e s m args below meth c s₁ Bd hml hP hK
  obtain ⟨rfl, hZ, hI, hh⟩ := hP
  obtain ⟨s₂, o, h1, h2, h3, h4⟩ := H p e s m below meth c s₁ Bd.exec Bd.bytes hml (findClass_of_methodNamed Bd.named) (name_of_methodNamed Bd.named Bd.method).1 Bd.returns (BodyLoose.notSynchronized Bd) hZ hI hh ((State.WarmedH.refl s).since _) (Stand.of_body Bd) (by rw [← hh, Bd.state]; rfl)
  exact ⟨s₂, o, castTop (ef m) h1, h2, h3, h4⟩
theorem oCallSW (X : Stand p l e R (s.setVm vm0) m args below meth c T locs cells slots) (hx : p.tables.exec = Jvm.exec) (hZ : Z.Warmed39 (s.setVm vm0).vm) {own : String} {index : Nat} {y : MethodName} {bytes : ByteArray} {maxL : Nat} {ret : Option FieldType} {rm : Room} {as' : Array Value} {Qc : Option Value → Heap → List Loc → Prop}
    (hown : (s.setVm vm0).vm.findClass own = some m.cls) (w1 : (Jvm.Cond.methodLink own index y).before a0 Z = true) (w2 : (Jvm.Cond.static y).before a0 Z = true) (w3 : (Jvm.Cond.initialized y.cls).before a0 Z = true) (w4 : (Jvm.Cond.code y bytes maxL ret).before a0 Z = true)
    (hy : y.cls ≠ "java/lang/invoke/MethodHandle" ∧ y.cls ≠ "java/lang/invoke/VarHandle") (hM : OCon l Z y bytes maxL ret rm as' h Qc) (eT : T.heap = h) {pc : Nat} {Ls : Array Slot} {st : List Value} (argsL rest : List Value) (hst : st = argsL.reverse ++ rest) (has : argsL.toArray = as') (hsize : Ls.size = c.maxLocals)
    (hlen : ∀ sig, parseMethodDescriptor y.desc = some sig → argsL.length = sig.parameters.length) (W : Nat) (hW : (rest.map fun v => v.category).sum ≤ W) (hfr : rm.frames + 1 ≤ R.frames) (hlo : W + (maxL + 11) + rm.locals ≤ R.locals) (hce : cells + rm.cells ≤ R.cells) (hsl : slots + rm.slots ≤ R.slots)
    (hd : decode c.code pc = .ok (.invokestatic index, 3))
    (k : ∀ v T' Lc, Stand p l e R (s.setVm vm0) m args below meth c T' (locs ++ Lc) (cells + rm.cells) (slots + rm.slots) → Qc v T'.heap Lc → OGoalW p e below s Q kc ks (T'.setTop (mkF m (pc + 3) Ls (v.toList ++ rest)))) :
    OGoalW p e below s Q kc ks (T.setTop (mkF m pc Ls st)) := by
  subst hst has
  obtain ⟨v, _, ⟨T', L', k', n'⟩, -, X', ⟨Lc, hQ, l', y', z'⟩, st⟩ := Jvm.LawKit.callS X hx (y := y) hown (mvT hZ w1) (mvT hZ w2) (mvT hZ w3) (mvT hZ w4) hy (backOf (W := W) (hM []) hZ w4 w3 hfr hlo) (g := mkF m pc Ls (argsL.reverse ++ rest)) rfl hsize (argsL := argsL) (rest := rest) hlen rfl (by show 2 * 0 + _ ≤ _; omega) hd (fun _ _ => ⟨rfl, eT, hce, hsl⟩)
  dsimp only [Pt.U, Pt.locs, Pt.cells, Pt.slots] at X' l' y' z' st hQ
  subst l' y' z'
  exact OGoalW.mp st (k v T' Lc X' hQ)
theorem oCallVW (X : Stand p l e R (s.setVm vm0) m args below meth c T locs cells slots) (hx : p.tables.exec = Jvm.exec) (hZ : Z.Warmed39 (s.setVm vm0).vm) {own C : String} {index : Nat} {y z : MethodName} {bytes : ByteArray} {maxL : Nat} {ret : Option FieldType} {rm : Room} {as' : Array Value} {Qc : Option Value → Heap → List Loc → Prop}
    (hown : (s.setVm vm0).vm.findClass own = some m.cls) (w1 : (Jvm.Cond.methodLink own index y).before a0 Z = true) (w2 : (Jvm.Cond.declares y).before a0 Z = true) (w5 : (Jvm.Cond.selects C y z).before a0 Z = true) (w6 : (Jvm.Cond.instanceMethod z).before a0 Z = true) (w3 : (Jvm.Cond.initialized z.cls).before a0 Z = true) (w4 : (Jvm.Cond.code z bytes maxL ret).before a0 Z = true)
    (hy : y.cls ≠ "java/lang/invoke/MethodHandle" ∧ y.cls ≠ "java/lang/invoke/VarHandle") (hM : OCon l Z z bytes maxL ret rm as' h Qc) (eT : T.heap = h) {a : Addr} (E : Exa Z h a C) {pc : Nat} {Ls : Array Slot} {st : List Value} (argsL rest : List Value) (hst : st = argsL.reverse ++ .ref a :: rest) (has : (.ref a :: argsL).toArray = as') (hsize : Ls.size = c.maxLocals)
    (hnf : NotFace (s.setVm vm0) y) (hlen : ∀ sig, parseMethodDescriptor y.desc = some sig → argsL.length = sig.parameters.length) (W : Nat) (hW : (rest.map fun v => v.category).sum ≤ W) (hfr : rm.frames + 1 ≤ R.frames) (hlo : W + (maxL + 11) + rm.locals ≤ R.locals) (hce : cells + rm.cells ≤ R.cells) (hsl : slots + rm.slots ≤ R.slots)
    (hd : decode c.code pc = .ok (.invokevirtual index, 3))
    (k : ∀ v T' Lc, Stand p l e R (s.setVm vm0) m args below meth c T' (locs ++ Lc) (cells + rm.cells) (slots + rm.slots) → Qc v T'.heap Lc → OGoalW p e below s Q kc ks (T'.setTop (mkF m (pc + 3) Ls (v.toList ++ rest)))) :
    OGoalW p e below s Q kc ks (T.setTop (mkF m pc Ls st)) := by
  subst hst has
  obtain ⟨cq, kq, qa, qb, qc⟩ := isOf hZ eT E
  obtain ⟨v, _, ⟨T', L', k', n'⟩, -, X', ⟨Lc, hQ, l', y', z'⟩, st⟩ := X.virtualBack hx (y := y) (z := z) hown (mvT hZ w1) (mvT hZ w2) hnf (mvT hZ w5) (mvT hZ w6) hy (backOf (W := W) (hM []) hZ w4 w3 hfr hlo) qa qc (g := mkF m pc Ls (argsL.reverse ++ .ref a :: rest)) rfl hsize (Steps.refl _) (argsL := argsL) (rest := rest) hlen rfl (by show 2 * 0 + _ ≤ _; omega) hd (fun _ _ => ⟨rfl, eT, hce, hsl⟩)
  dsimp only [Pt.U, Pt.locs, Pt.cells, Pt.slots] at X' l' y' z' st hQ
  subst l' y' z'
  exact OGoalW.mp (fun t q => st.trans q) (k v T' Lc X' hQ)
theorem oCallNW (X : Stand p l e R (s.setVm vm0) m args below meth c T locs cells slots) (hx : p.tables.exec = Jvm.exec) (hZ : Z.Warmed39 (s.setVm vm0).vm) {own : String} {index : Nat} {y : MethodName} {bytes : ByteArray} {maxL : Nat} {rm : Room} {as' : Array Value} {Qc : Option Value → Heap → List Loc → Prop}
    (hy1 : y.name = "<init>") (hown : (s.setVm vm0).vm.findClass own = some m.cls) (w1 : (Jvm.Cond.methodLink own index y).before a0 Z = true) (w6 : (Jvm.Cond.instanceMethod y).before a0 Z = true) (w3 : (Jvm.Cond.initialized y.cls).before a0 Z = true) (w4 : (Jvm.Cond.code y bytes maxL none).before a0 Z = true)
    (hy : y.cls ≠ "java/lang/invoke/MethodHandle" ∧ y.cls ≠ "java/lang/invoke/VarHandle") (hM : OCon l Z y bytes maxL none rm as' h Qc) (eT : T.heap = h) {a : Addr} {pc : Nat} {Ls : Array Slot} {st : List Value} (argsL rest : List Value) (hst : st = argsL.reverse ++ .ref a :: rest) (has : (.ref a :: argsL).toArray = as') (hsize : Ls.size = c.maxLocals)
    (hlen : ∀ sig, parseMethodDescriptor y.desc = some sig → argsL.length = sig.parameters.length) (W : Nat) (hW : (rest.map fun v => v.category).sum ≤ W) (hfr : rm.frames + 1 ≤ R.frames) (hlo : W + (maxL + 11) + rm.locals ≤ R.locals) (hce : cells + rm.cells ≤ R.cells) (hsl : slots + rm.slots ≤ R.slots)
    (hd : decode c.code pc = .ok (.invokespecial index, 3))
    (k : ∀ v T' Lc, Stand p l e R (s.setVm vm0) m args below meth c T' (locs ++ Lc) (cells + rm.cells) (slots + rm.slots) → Qc v T'.heap Lc → OGoalW p e below s Q kc ks (T'.setTop (mkF m (pc + 3) Ls (v.toList ++ rest)))) :
    OGoalW p e below s Q kc ks (T.setTop (mkF m pc Ls st)) := by
  subst hst has
  obtain ⟨v, _, ⟨T', L', k', n'⟩, -, X', ⟨Lc, hQ, l', y', z'⟩, st⟩ := X.specialBack hx (y := y) hy1 hown (mvT hZ w1) (mvT hZ w6) (mvT hZ w4) hy (backOf (W := W) (hM []) hZ w4 w3 hfr hlo) (g := mkF m pc Ls (argsL.reverse ++ .ref a :: rest)) rfl hsize (Steps.refl _) (a := a) (argsL := argsL) (rest := rest) hlen rfl (by show 2 * 0 + _ ≤ _; omega) hd (fun _ _ => ⟨rfl, eT, hce, hsl⟩)
  dsimp only [Pt.U, Pt.locs, Pt.cells, Pt.slots] at X' l' y' z' st hQ
  subst l' y' z'
  exact OGoalW.mp (fun t q => st.trans q) (k v T' Lc X' hQ)
theorem oCallPW (X : Stand p l e R (s.setVm vm0) m args below meth c T locs cells slots) (hx : p.tables.exec = Jvm.exec) (hZ : Z.Warmed39 (s.setVm vm0).vm) {own C : String} {index : Nat} {y : MethodName} {bytes : ByteArray} {maxL : Nat} {ret : Option FieldType} {rm : Room} {as' : Array Value} {Qc : Option Value → Heap → List Loc → Prop}
    (hown : (s.setVm vm0).vm.findClass own = some m.cls) (w1 : (Jvm.Cond.methodLink own index y).before a0 Z = true) {kk : Nat} (w5 : (Jvm.Cond.instantiable y.cls kk).before a0 Z = true) (w6 : (Jvm.Cond.instanceMethod y).before a0 Z = true) (w7 : (Jvm.Cond.privateMethod y).before a0 Z = true) (w3 : (Jvm.Cond.initialized y.cls).before a0 Z = true) (w4 : (Jvm.Cond.code y bytes maxL ret).before a0 Z = true)
    (hy : y.cls ≠ "java/lang/invoke/MethodHandle" ∧ y.cls ≠ "java/lang/invoke/VarHandle") (hM : OCon l Z y bytes maxL ret rm as' h Qc) (eT : T.heap = h) {a : Addr} (E : Exa Z h a C) {pc : Nat} {Ls : Array Slot} {st : List Value} (argsL rest : List Value) (hst : st = argsL.reverse ++ .ref a :: rest) (has : (.ref a :: argsL).toArray = as') (hsize : Ls.size = c.maxLocals)
    (hlen : ∀ sig, parseMethodDescriptor y.desc = some sig → argsL.length = sig.parameters.length) (W : Nat) (hW : (rest.map fun v => v.category).sum ≤ W) (hfr : rm.frames + 1 ≤ R.frames) (hlo : W + (maxL + 11) + rm.locals ≤ R.locals) (hce : cells + rm.cells ≤ R.cells) (hsl : slots + rm.slots ≤ R.slots)
    (hd : decode c.code pc = .ok (.invokevirtual index, 3))
    (k : ∀ v T' Lc, Stand p l e R (s.setVm vm0) m args below meth c T' (locs ++ Lc) (cells + rm.cells) (slots + rm.slots) → Qc v T'.heap Lc → OGoalW p e below s Q kc ks (T'.setTop (mkF m (pc + 3) Ls (v.toList ++ rest)))) :
    OGoalW p e below s Q kc ks (T.setTop (mkF m pc Ls st)) := by
  subst hst has
  obtain ⟨cq, q1, q2⟩ := E.cell
  obtain ⟨c1, k1, hc1, hk1, hi1⟩ := oNotFace (args := #[]) (mvT hZ w5)
  have hpr : (s.setVm vm0).PrivateAt y := Cond.privateMethod_at (mvP hZ w7 (args := #[]))
  have hse := selects_self_of_private (args := args) hc1 hk1 hi1 hpr (mvT hZ w6) hy
  obtain ⟨v, _, ⟨T', L', k', n'⟩, -, X', ⟨Lc, hQ, l', y', z'⟩, st⟩ := X.privateBack hx (y := y) hown (mvT hZ w1) (mvT hZ w6) hse hpr (mvT hZ w4) hy (backOf (W := W) (hM []) hZ w4 w3 hfr hlo) (g := mkF m pc Ls (argsL.reverse ++ .ref a :: rest)) rfl hsize (Steps.refl _) (a := a) (by rw [eT]; exact q1) q2 (argsL := argsL) (rest := rest) hlen rfl (by show 2 * 0 + _ ≤ _; omega) hd (fun _ _ => ⟨rfl, eT, hce, hsl⟩)
  dsimp only [Pt.U, Pt.locs, Pt.cells, Pt.slots] at X' l' y' z' st hQ
  subst l' y' z'
  exact OGoalW.mp (fun t q => st.trans q) (k v T' Lc X' hQ)
theorem oBackSW {y : MethodName} {bytes : ByteArray} {maxL : Nat} {ret : Option FieldType} {rm : Room} {len W : Nat} {as' : Array Value} {Qc : Option Value → Heap → List Loc → Prop} (hM : OConW l Z y bytes maxL ret rm as' h Qc)
    (hZ : Z.Warmed39 s.vm) (hI : s.vm.interned = Z.vm.interned) (wc : (Jvm.Cond.code y bytes maxL ret).before a0 Z = true) (wz : (Jvm.Cond.initialized y.cls).before a0 Z = true) (hf : rm.frames + 1 ≤ R.frames) (hl : W + (maxL + 11) + rm.locals ≤ R.locals) :
    BackS l R p e below s args y len W (fun A a => a = as' ∧ A.U.heap = h ∧ A.cells + rm.cells ≤ R.cells ∧ A.slots + rm.slots ≤ R.slots)
      (fun A _ v B => ∃ L, Qc v B.U.heap L ∧ B.locs = A.locs ++ L ∧ B.cells = A.cells + rm.cells ∧ B.slots = A.slots + rm.slots) :=
  BackS.of_freeW (bytes := bytes) (maxL := maxL) (ret := ret) (E := fun _ _ o t L k n => k = rm.cells ∧ n = rm.slots ∧ ∃ v, o = .returned v ∧ Qc v t.heap L) (hM []) hf hl
    (fun m meth c A a Y hp => have hU : Z.Warmed39 A.U.vm := wtrans hZ Y.warmed
      ⟨by show (Cond.and _ .tt).before a A.U = true; rw [Cond.before_and, mv hU wc]; rfl, mv hU wc, mv hU wz, hp.2.2.1, hp.2.2.2⟩)
    (fun m meth c A a g mk Y hp => ⟨hp.1, wtrans hZ Y.warmed, (Y.warmed.interned_eq).trans hI, hp.2.1⟩) (fun _ _ _ _ _ _ _ _ _ => trivial)
    (fun _ _ _ _ ⟨v, L, h1, h2, h3⟩ => ⟨L, _, _, h3, rfl, rfl, v, h1, h2⟩)
    (fun m meth c A a g mk v t L k n Y hp _ _ ⟨e1, e2, v', e3, e4⟩ => by cases e3; subst e1 e2; exact ⟨L, e4, rfl, rfl, rfl⟩)
theorem oCallSS (X : Stand p l e R (s.setVm vm0) m args below meth c T locs cells slots) (hx : p.tables.exec = Jvm.exec) (hS : s.Since vm0 k0) (hk : k0 ≤ T.heap.size) (hI : vm0.interned = Z.vm.interned) (hZ : Z.Warmed39 (s.setVm vm0).vm) {own : String} {index : Nat} {y : MethodName} {bytes : ByteArray} {maxL : Nat} {ret : Option FieldType} {rm : Room} {as' : Array Value} {Qc : Option Value → Heap → List Loc → Prop}
    (hown : (s.setVm vm0).vm.findClass own = some m.cls) (w1 : (Jvm.Cond.methodLink own index y).before a0 Z = true) (w2 : (Jvm.Cond.static y).before a0 Z = true) (w3 : (Jvm.Cond.initialized y.cls).before a0 Z = true) (w4 : (Jvm.Cond.code y bytes maxL ret).before a0 Z = true)
    (hy : y.cls ≠ "java/lang/invoke/MethodHandle" ∧ y.cls ≠ "java/lang/invoke/VarHandle") (hM : OConW l Z y bytes maxL ret rm as' h Qc) (eT : T.heap = h) {pc : Nat} {Ls : Array Slot} {st : List Value} (argsL rest : List Value) (hst : st = argsL.reverse ++ rest) (has : argsL.toArray = as') (hsize : Ls.size = c.maxLocals)
    (hlen : ∀ sig, parseMethodDescriptor y.desc = some sig → argsL.length = sig.parameters.length) (W : Nat) (hW : (rest.map fun v => v.category).sum ≤ W) (hfr : rm.frames + 1 ≤ R.frames) (hlo : W + (maxL + 11) + rm.locals ≤ R.locals) (hce : cells + rm.cells ≤ R.cells) (hsl : slots + rm.slots ≤ R.slots)
    (hd : decode c.code pc = .ok (.invokestatic index, 3))
    (k : ∀ v T' Lc, Stand p l e R (s.setVm T'.vm) m args below meth c T' (locs ++ Lc) (cells + rm.cells) (slots + rm.slots) → s.Since T'.vm T'.heap.size → T.heap.size ≤ T'.heap.size → Z.Warmed39 (s.setVm T'.vm).vm → (s.setVm T'.vm).vm.findClass own = some m.cls → Qc v T'.heap Lc → OGoalW p e below s Q kc ks (T'.setTop (mkF m (pc + 3) Ls (v.toList ++ rest)))) :
    OGoalW p e below s Q kc ks (T.setTop (mkF m pc Ls st)) := by
  subst hst has
  obtain ⟨v, _, ⟨T', L', k', n'⟩, -, X', hS2, hg2, ⟨Lc, hQ, l', y', z'⟩, st⟩ := callSS X hx (y := y) hown (mvT hZ w1) (mvT hZ w2) (mvT hZ w3) (mvT hZ w4) hy (oBackSW (W := W) hM hZ hI w4 w3 hfr hlo) (g := mkF m pc Ls (argsL.reverse ++ rest)) rfl hsize (argsL := argsL) (rest := rest) hlen rfl (by show 2 * 0 + _ ≤ _; omega) hd (fun _ _ => ⟨rfl, eT, hce, hsl⟩)
  dsimp only [Pt.U, Pt.locs, Pt.cells, Pt.slots] at X' l' y' z' st hQ hS2 hg2
  subst l' y' z'
  obtain ⟨X3, hS3, hZ3, ho3⟩ := rebS hS hk X' hS2 hg2 hZ hown
  exact OGoalW.mp (fun t q => st.trans q) (k v T' Lc X3 hS3 hg2 hZ3 ho3 hQ)
theorem oCallNS (X : Stand p l e R (s.setVm vm0) m args below meth c T locs cells slots) (hx : p.tables.exec = Jvm.exec) (hS : s.Since vm0 k0) (hk : k0 ≤ T.heap.size) (hI : vm0.interned = Z.vm.interned) (hZ : Z.Warmed39 (s.setVm vm0).vm) {own : String} {index : Nat} {y : MethodName} {bytes : ByteArray} {maxL : Nat} {rm : Room} {as' : Array Value} {Qc : Option Value → Heap → List Loc → Prop}
    (hy1 : y.name = "<init>") (hown : (s.setVm vm0).vm.findClass own = some m.cls) (w1 : (Jvm.Cond.methodLink own index y).before a0 Z = true) (w6 : (Jvm.Cond.instanceMethod y).before a0 Z = true) (w3 : (Jvm.Cond.initialized y.cls).before a0 Z = true) (w4 : (Jvm.Cond.code y bytes maxL none).before a0 Z = true)
    (hy : y.cls ≠ "java/lang/invoke/MethodHandle" ∧ y.cls ≠ "java/lang/invoke/VarHandle") (hM : OConW l Z y bytes maxL none rm as' h Qc) (eT : T.heap = h) {a : Addr} {pc : Nat} {Ls : Array Slot} {st : List Value} (argsL rest : List Value) (hst : st = argsL.reverse ++ .ref a :: rest) (has : (.ref a :: argsL).toArray = as') (hsize : Ls.size = c.maxLocals)
    (hlen : ∀ sig, parseMethodDescriptor y.desc = some sig → argsL.length = sig.parameters.length) (W : Nat) (hW : (rest.map fun v => v.category).sum ≤ W) (hfr : rm.frames + 1 ≤ R.frames) (hlo : W + (maxL + 11) + rm.locals ≤ R.locals) (hce : cells + rm.cells ≤ R.cells) (hsl : slots + rm.slots ≤ R.slots)
    (hd : decode c.code pc = .ok (.invokespecial index, 3))
    (k : ∀ v T' Lc, Stand p l e R (s.setVm T'.vm) m args below meth c T' (locs ++ Lc) (cells + rm.cells) (slots + rm.slots) → s.Since T'.vm T'.heap.size → T.heap.size ≤ T'.heap.size → Z.Warmed39 (s.setVm T'.vm).vm → (s.setVm T'.vm).vm.findClass own = some m.cls → Qc v T'.heap Lc → OGoalW p e below s Q kc ks (T'.setTop (mkF m (pc + 3) Ls (v.toList ++ rest)))) :
    OGoalW p e below s Q kc ks (T.setTop (mkF m pc Ls st)) := by
  subst hst has
  obtain ⟨v, _, ⟨T', L', k', n'⟩, -, X', hS2, hg2, ⟨Lc, hQ, l', y', z'⟩, st⟩ := X.specialBackS hx (y := y) hy1 hown (mvT hZ w1) (mvT hZ w6) (mvT hZ w4) hy (oBackSW (W := W) hM hZ hI w4 w3 hfr hlo) (g := mkF m pc Ls (argsL.reverse ++ .ref a :: rest)) rfl hsize (Steps.refl _) (a := a) (argsL := argsL) (rest := rest) hlen rfl (by show 2 * 0 + _ ≤ _; omega) hd (fun _ _ => ⟨rfl, eT, hce, hsl⟩)
  dsimp only [Pt.U, Pt.locs, Pt.cells, Pt.slots] at X' l' y' z' st hQ hS2 hg2
  subst l' y' z'
  obtain ⟨X3, hS3, hZ3, ho3⟩ := rebS hS hk X' hS2 hg2 hZ hown
  exact OGoalW.mp (fun t q => st.trans q) (k v T' Lc X3 hS3 hg2 hZ3 ho3 hQ)
theorem oCallVS (X : Stand p l e R (s.setVm vm0) m args below meth c T locs cells slots) (hx : p.tables.exec = Jvm.exec) (hS : s.Since vm0 k0) (hk : k0 ≤ T.heap.size) (hI : vm0.interned = Z.vm.interned) (hZ : Z.Warmed39 (s.setVm vm0).vm) {own C : String} {index : Nat} {y z : MethodName} {bytes : ByteArray} {maxL : Nat} {ret : Option FieldType} {rm : Room} {as' : Array Value} {Qc : Option Value → Heap → List Loc → Prop}
    (hown : (s.setVm vm0).vm.findClass own = some m.cls) (w1 : (Jvm.Cond.methodLink own index y).before a0 Z = true) (w2 : (Jvm.Cond.declares y).before a0 Z = true) (w5 : (Jvm.Cond.selects C y z).before a0 Z = true) (w6 : (Jvm.Cond.instanceMethod z).before a0 Z = true) (w3 : (Jvm.Cond.initialized z.cls).before a0 Z = true) (w4 : (Jvm.Cond.code z bytes maxL ret).before a0 Z = true)
    (hy : y.cls ≠ "java/lang/invoke/MethodHandle" ∧ y.cls ≠ "java/lang/invoke/VarHandle") (hM : OConW l Z z bytes maxL ret rm as' h Qc) (eT : T.heap = h) {a : Addr} (E : Exa Z h a C) {pc : Nat} {Ls : Array Slot} {st : List Value} (argsL rest : List Value) (hst : st = argsL.reverse ++ .ref a :: rest) (has : (.ref a :: argsL).toArray = as') (hsize : Ls.size = c.maxLocals)
    (hnf : NotFace (s.setVm vm0) y) (hlen : ∀ sig, parseMethodDescriptor y.desc = some sig → argsL.length = sig.parameters.length) (W : Nat) (hW : (rest.map fun v => v.category).sum ≤ W) (hfr : rm.frames + 1 ≤ R.frames) (hlo : W + (maxL + 11) + rm.locals ≤ R.locals) (hce : cells + rm.cells ≤ R.cells) (hsl : slots + rm.slots ≤ R.slots)
    (hd : decode c.code pc = .ok (.invokevirtual index, 3))
    (k : ∀ v T' Lc, Stand p l e R (s.setVm T'.vm) m args below meth c T' (locs ++ Lc) (cells + rm.cells) (slots + rm.slots) → s.Since T'.vm T'.heap.size → T.heap.size ≤ T'.heap.size → Z.Warmed39 (s.setVm T'.vm).vm → (s.setVm T'.vm).vm.findClass own = some m.cls → Qc v T'.heap Lc → OGoalW p e below s Q kc ks (T'.setTop (mkF m (pc + 3) Ls (v.toList ++ rest)))) :
    OGoalW p e below s Q kc ks (T.setTop (mkF m pc Ls st)) := by
  subst hst has
  obtain ⟨cq, kq, qa, qb, qc⟩ := isOf hZ eT E
  obtain ⟨v, _, ⟨T', L', k', n'⟩, -, X', hS2, hg2, ⟨Lc, hQ, l', y', z'⟩, st⟩ := X.virtualBackS hx (y := y) (z := z) hown (mvT hZ w1) (mvT hZ w2) hnf (mvT hZ w5) (mvT hZ w6) hy (oBackSW (W := W) hM hZ hI w4 w3 hfr hlo) qa qc (g := mkF m pc Ls (argsL.reverse ++ .ref a :: rest)) rfl hsize (Steps.refl _) (argsL := argsL) (rest := rest) hlen rfl (by show 2 * 0 + _ ≤ _; omega) hd (fun _ _ => ⟨rfl, eT, hce, hsl⟩)
  dsimp only [Pt.U, Pt.locs, Pt.cells, Pt.slots] at X' l' y' z' st hQ hS2 hg2
  subst l' y' z'
  obtain ⟨X3, hS3, hZ3, ho3⟩ := rebS hS hk X' hS2 hg2 hZ hown
  exact OGoalW.mp (fun t q => st.trans q) (k v T' Lc X3 hS3 hg2 hZ3 ho3 hQ)
end OwnKitW
theorem oStaK {Z : State} {H h : Heap} {C n d : String} {v : Value} {a : Addr} {C2 : String} (F : Sta Z H C n d v) (K : Keep H h [a]) (E : Exa Z H a C2) : Sta Z h C n d v := by
  obtain ⟨cf, i, k, f, st, cell, h1, h2, h3, h4, h5, h6, h7⟩ := F
  obtain ⟨c2, k2, g1, -, -, g4, -⟩ := E
  refine ⟨cf, i, k, f, st, cell, h1, h2, h3, h4, K.2.1 st cell h5 (ninS (fun q => ?_) nin0), h6, h7⟩
  subst q; rw [g1] at h5; cases h5; rw [g4] at h6; cases h6
def Bd (Z : State) (h : Heap) (sb : Addr) (k : Int32) (n0 : Nat) : Prop := ∃ (v : Addr) (gf : Nat → Value), Exa Z h sb "java/lang/StringBuilder" ∧ Fld Z h sb "java/lang/AbstractStringBuilder" "value" "[B" (.ref v) ∧ Fld Z h sb "java/lang/AbstractStringBuilder" "coder" "B" (.int 0) ∧ Fld Z h sb "java/lang/AbstractStringBuilder" "count" "I" (.int k) ∧ OArr Z h v .byte 16 gf ∧ (∀ i, fits .byte (gf i) = true) ∧ n0 ≤ sb ∧ n0 ≤ v
theorem Bd.exa {Z : State} {h : Heap} {sb : Addr} {k : Int32} {n0 : Nat} (B : Bd Z h sb k n0) : Exa Z h sb "java/lang/StringBuilder" := by obtain ⟨v, gf, E, -⟩ := B; exact E
theorem Bd.sz {Z : State} {h : Heap} {sb : Addr} {k : Int32} {n0 : Nat} (B : Bd Z h sb k n0) : n0 ≤ h.size := by obtain ⟨v, gf, E, -, -, -, -, -, b, -⟩ := B; exact Nat.le_trans b (Nat.le_of_lt E.lt)
theorem Bd.ext {Z : State} {h h' : Heap} {sb : Addr} {k : Int32} {n0 : Nat} (B : Bd Z h sb k n0) (X : Ext h h') : Bd Z h' sb k n0 := by
  obtain ⟨v, gf, E, F1, F2, F3, A, hg, b1, b2⟩ := B
  exact ⟨v, gf, E.ext X, F1.ext X, F2.ext X, F3.ext X, A.ext X, hg, b1, b2⟩
theorem Bd.keep {Z : State} {h h' : Heap} {sb b : Addr} {k : Int32} {n0 : Nat} {C : String} {j : Nat} {a0 : Array Value} (B : Bd Z h sb k n0) (K : Keep h h' [b]) (E' : Exa Z h b C) (w : (Jvm.Cond.instantiable C j).before a0 Z = true) (q : sb ≠ b) : Bd Z h' sb k n0 := by
  obtain ⟨v, gf, E, F1, F2, F3, A, hg, b1, b2⟩ := B
  exact ⟨v, gf, E.keep K, F1.keep K (ninS q nin0), F2.keep K (ninS q nin0), F3.keep K (ninS q nin0), A.keep K (ninS (oNeA E' w A).symm nin0), hg, b1, b2⟩
def Vb (Z : State) (h : Heap) (v : Addr) : Prop := ∃ gf : Nat → Value, OArr Z h v .byte 16 gf ∧ ∀ i, fits .byte (gf i) = true
def Low (n0 : Nat) (h h' : Heap) : Prop := h.size ≤ h'.size ∧ ∀ (b : Addr) (cl : Cell), b < n0 → h[b]? = some cl → h'[b]? = some cl
theorem Low.refl (n0 : Nat) (h : Heap) : Low n0 h h := ⟨Nat.le_refl _, fun _ _ _ q => q⟩
theorem Low.trans {n0 : Nat} {h h1 h2 : Heap} (L : Low n0 h h1) (M : Low n0 h1 h2) : Low n0 h h2 := ⟨Nat.le_trans L.1 M.1, fun b cl q r => M.2 b cl q (L.2 b cl q r)⟩
theorem Low.ext {n0 : Nat} {h h1 h2 : Heap} (L : Low n0 h h1) (E : Ext h1 h2) : Low n0 h h2 := ⟨Nat.le_trans L.1 E.1, fun b cl q r => E.2 b cl (L.2 b cl q r)⟩
theorem Low.keep {n0 : Nat} {h h1 h2 : Heap} {a : Addr} (L : Low n0 h h1) (K : Keep h1 h2 [a]) (p : n0 ≤ a) : Low n0 h h2 := ⟨Nat.le_trans L.1 K.1, fun b cl q r => K.2.1 b cl (L.2 b cl q r) (ninS (Nat.ne_of_lt (Nat.lt_of_lt_of_le q p)) nin0)⟩
theorem Low.fld {Z : State} {n0 : Nat} {h h1 : Heap} {a : Addr} {C n d : String} {v : Value} (L : Low n0 h h1) (q : a < n0) (F : Fld Z h a C n d v) : Fld Z h1 a C n d v := by obtain ⟨cell, cf, k, i, f, g1, r⟩ := F; exact ⟨cell, cf, k, i, f, L.2 _ _ q g1, r⟩
theorem Low.exa {Z : State} {n0 : Nat} {h h1 : Heap} {a : Addr} {C : String} (L : Low n0 h h1) (q : a < n0) (F : Exa Z h a C) : Exa Z h1 a C := by obtain ⟨cell, k, g1, r⟩ := F; exact ⟨cell, k, L.2 _ _ q g1, r⟩
theorem Fr.weak {a b : Nat} {L : List Loc} (h : a ≤ b) (N : Fr b L) : Fr a L := fun y hy => Nat.le_trans h (N y hy)
theorem own_d_jdk_68_method_2_code_0 : decode jdk_68_method_2_code 0 = .ok (.aload_n 0, 1) := by decide +kernel
theorem own_d_jdk_68_method_2_code_1 : decode jdk_68_method_2_code 1 = .ok (.invokespecial 3, 3) := by decide +kernel
theorem own_d_jdk_68_method_2_code_4 : decode jdk_68_method_2_code 4 = .ok (.getstatic 18, 3) := by decide +kernel
theorem own_d_jdk_68_method_2_code_7 : decode jdk_68_method_2_code 7 = .ok (.ifCond .eq 18, 3) := by decide +kernel
theorem own_d_jdk_68_method_2_code_10 : decode jdk_68_method_2_code 10 = .ok (.aload_n 0, 1) := by decide +kernel
theorem own_d_jdk_68_method_2_code_11 : decode jdk_68_method_2_code 11 = .ok (.iload_n 1, 1) := by decide +kernel
theorem own_d_jdk_68_method_2_code_12 : decode jdk_68_method_2_code 12 = .ok (.newarray .byte, 2) := by decide +kernel
theorem own_d_jdk_68_method_2_code_14 : decode jdk_68_method_2_code 14 = .ok (.putfield 15, 3) := by decide +kernel
theorem own_d_jdk_68_method_2_code_17 : decode jdk_68_method_2_code 17 = .ok (.aload_n 0, 1) := by decide +kernel
theorem own_d_jdk_68_method_2_code_18 : decode jdk_68_method_2_code 18 = .ok (.iconst 0, 1) := by decide +kernel
theorem own_d_jdk_68_method_2_code_19 : decode jdk_68_method_2_code 19 = .ok (.putfield 22, 3) := by decide +kernel
theorem own_d_jdk_68_method_2_code_22 : decode jdk_68_method_2_code 22 = .ok (.goto 16, 3) := by decide +kernel
theorem own_d_jdk_68_method_2_code_38 : decode jdk_68_method_2_code 38 = .ok (.return_, 1) := by decide +kernel
theorem own_pn_java_lang_AbstractStringBuilder : plainName "java/lang/AbstractStringBuilder" = true := by first | (simp [plainName, overriddenIn]; done) | decide +kernel
theorem own_ef_rmASI (x0 : Addr) (x1 : Int32) (m : MethodId) : entryFrame m #[(.ref x0), (.int x1)] 2 = mkF m 0 #[.val (.ref x0), .val (.int x1)] [] := by first | (simp [entryFrame, mkF, argsToLocals, Value.category]; done) | rfl
set_option maxRecDepth 65536 in
set_option maxHeartbeats 40000000 in
theorem rmASI (l : Launch) (Z : State) (a0 : Array Value) (hw : ∀ d ∈ tables_1, d.before a0 Z = true) (sb : Addr) (h0 : Heap) (n0 : Nat) (Z0 : n0 ≤ h0.size) (H : Heap) (fx : Addr) (hn0 : H.size ≤ n0) (cs : Int32) (hcs : ¬ cs = 0) (Scs : Sta Z H "java/lang/String" "COMPACT_STRINGS" "Z" (.int cs)) (dg : Addr) (Sdg : Sta Z H "java/lang/Integer" "DigitOnes" "[B" (.ref dg)) (df : Nat → Value) (Adg : OArr Z H dg .byte 100 df) (xd : Int32) (hdf : df (1 : Int32).toNatClampNeg = .int xd) (hxd : -128 ≤ xd.toInt ∧ xd.toInt < 128) (EF : Exa Z H fx "com/example/wildsolve/wildsolve/infer/Fresh") (nfd : dg ≠ fx) (KZ : Keep H h0 [fx]) (E : Exa Z h0 sb "java/lang/StringBuilder") (F_value : Fld Z h0 sb "java/lang/AbstractStringBuilder" "value" "[B" .null) (F_coder : Fld Z h0 sb "java/lang/AbstractStringBuilder" "coder" "B" (.int (0 : Int32))) (F_count : Fld Z h0 sb "java/lang/AbstractStringBuilder" "count" "I" (.int (0 : Int32))) (ab : n0 ≤ sb) :
    OCon l Z (⟨"java/lang/AbstractStringBuilder", "<init>", "(I)V"⟩ : MethodName) jdk_68_method_2_code 2 none ({ frames := 1, cells := 1, slots := 16, locals := 12 } : Room) #[(.ref sb), (.int (16 : Int32))] h0 (fun v h L => v = none ∧ Fr n0 L ∧ Keep H h [fx] ∧ Low n0 h0 h ∧ Bd Z h sb (0 : Int32) n0) := by
  refine OConK.intro (y := (⟨"java/lang/AbstractStringBuilder", "<init>", "(I)V"⟩ : MethodName)) (plainFor_of_name own_pn_java_lang_AbstractStringBuilder) (own_ef_rmASI sb (16 : Int32)) ?_
  intro p e s m below meth c s₁ hx hby hml hown hnm hret hlk hZ X0 e0
  show OGoal p e below s _ _ _ (s₁.setTop (mkF m 0 #[.val (.ref sb), .val (.int (16 : Int32))] []))
  refine OGoal.mp (S' := (s₁.setTop (mkF m 1 #[.val (.ref sb), .val (.int (16 : Int32))] [(.ref sb)]))) (fun _ k => XS.aloadN X0.here hx rfl (hb hby own_d_jdk_68_method_2_code_0) rfl rfl k) ?_
  obtain ⟨T1, X2, e3, st4⟩ := initO X0 hx hZ hown (hw _ (List.mem_of_getElem? (i := 71) rfl)) (hw _ (List.mem_of_getElem? (i := 7) rfl)) (hw _ (List.mem_of_getElem? (i := 8) rfl)) e0 (g := mkF m 1 #[.val (.ref sb), .val (.int (16 : Int32))] [(.ref sb)]) rfl (by rw [hml]; rfl) rfl (hb hby own_d_jdk_68_method_2_code_1) (by decide) (W := 0) (by show 2 * 0 + _ ≤ _; exact Nat.le_of_eq rfl) (by decide)
  refine OGoal.mp (S' := (T1.setTop (mkF m 4 #[.val (.ref sb), .val (.int (16 : Int32))] []))) (fun _ k => st4 _ k) ?_
  obtain ⟨T5, X6, e7, st8⟩ := getS X2 hx hZ hown (host := "") (hw _ (List.mem_of_getElem? (i := 72) rfl)) Via.refl e3 (oStaK Scs KZ EF) (g := mkF m 4 #[.val (.ref sb), .val (.int (16 : Int32))] []) rfl (hb hby own_d_jdk_68_method_2_code_4)
  refine OGoal.mp (S' := (T5.setTop (mkF m 7 #[.val (.ref sb), .val (.int (16 : Int32))] [(.int cs)]))) (fun _ k => st8 _ k) ?_
  refine OGoal.mp (S' := (T5.setTop (mkF m 10 #[.val (.ref sb), .val (.int (16 : Int32))] []))) (fun _ k => XS.ifNo X6.here hx rfl (hb hby own_d_jdk_68_method_2_code_7) rfl (XT.i0_eq_f hcs) k) ?_
  refine OGoal.mp (S' := (T5.setTop (mkF m 11 #[.val (.ref sb), .val (.int (16 : Int32))] [(.ref sb)]))) (fun _ k => XS.aloadN X6.here hx rfl (hb hby own_d_jdk_68_method_2_code_10) rfl rfl k) ?_
  refine OGoal.mp (S' := (T5.setTop (mkF m 12 #[.val (.ref sb), .val (.int (16 : Int32))] [(.int (16 : Int32)), (.ref sb)]))) (fun _ k => XS.iloadN X6.here hx rfl (hb hby own_d_jdk_68_method_2_code_11) rfl k) ?_
  obtain ⟨T9, h13, c16, X10, e11, E14, A15, XA19, st12⟩ := newPE X6 hx hZ (hw _ (List.mem_of_getElem? (i := 74) rfl)) e7 (g := mkF m 12 #[.val (.ref sb), .val (.int (16 : Int32))] [(.int (16 : Int32)), (.ref sb)]) rfl (hb hby own_d_jdk_68_method_2_code_12) rfl (by decide) (cap := 16) (by decide) (by decide) (by decide) (by decide) (ad := "[B") (by rfl)
  obtain ⟨a17, g18⟩ : ∃ z, z = h0.size := ⟨_, rfl⟩
  rw [← g18] at A15 XA19 st12
  have lt20 : sb < a17 := by rw [g18]; exact E.lt
  have F21 := KZ.ext E14
  have F22 := (Low.refl n0 h0).ext E14
  have F23 := E.ext E14
  have F24 := F_value.ext E14
  have F25 := F_coder.ext E14
  have F26 := F_count.ext E14
  have F27 : OArr Z h13 a17 .byte (16 : Int32) (fun _ => .int 0 : Nat → Value) := OArr.new A15 (by decide)
  have Z28 : n0 ≤ h13.size := Nat.le_trans Z0 E14.1
  have ab29 : n0 ≤ a17 := Nat.le_trans Z0 (Nat.le_of_eq g18.symm)
  refine OGoal.mp (S' := (T9.setTop (mkF m 14 #[.val (.ref sb), .val (.int (16 : Int32))] [(.ref a17), (.ref sb)]))) (fun _ k => st12 _ k) ?_
  obtain ⟨T30, h34, X31, e32, W35, st33⟩ := putF X10 hx hZ hown (host := "") (Or.inl (hw _ (List.mem_of_getElem? (i := 75) rfl))) Via.refl e11 F24 F23 (Or.inl (hw _ (List.mem_of_getElem? (i := 76) rfl))) (hw _ (List.mem_of_getElem? (i := 60) rfl)) (ty := (.array .byte)) (by decide) rfl rfl (g := mkF m 14 #[.val (.ref sb), .val (.int (16 : Int32))] [(.ref a17), (.ref sb)]) rfl rfl (hb hby own_d_jdk_68_method_2_code_14)
  have N36 := Fr.snoc X31 (Fr.nil n0) ab
  have Z37 : n0 ≤ h34.size := Nat.le_trans Z28 (Keep.of_wr W35).1
  have F38 := F21.wr W35 (Or.inr (Nat.le_trans hn0 ab))
  have F39 := F22.keep (Keep.of_wr W35) ab
  have F40 := F23.wr W35
  have F41 := F24.same W35
  have F42 := F25.other W35 (Or.inr (slot_ne (a0 := a0) (C := "java/lang/StringBuilder") (t := .byte) (t' := (.array .byte)) (Or.inl (hw _ (List.mem_of_getElem? (i := 78) rfl))) (Or.inl (hw _ (List.mem_of_getElem? (i := 76) rfl))) (by decide) (by decide) (by decide)))
  have F43 := F26.other W35 (Or.inr (slot_ne (a0 := a0) (C := "java/lang/StringBuilder") (t := .int) (t' := (.array .byte)) (Or.inl (hw _ (List.mem_of_getElem? (i := 109) rfl))) (Or.inl (hw _ (List.mem_of_getElem? (i := 76) rfl))) (by decide) (by decide) (by decide)))
  have F44 := F27.other W35 (Nat.ne_of_gt lt20)
  have F45 := XA19.wr W35
  refine OGoal.mp (S' := (T30.setTop (mkF m 17 #[.val (.ref sb), .val (.int (16 : Int32))] []))) (fun _ k => st33 _ k) ?_
  refine OGoal.mp (S' := (T30.setTop (mkF m 18 #[.val (.ref sb), .val (.int (16 : Int32))] [(.ref sb)]))) (fun _ k => XS.aloadN X31.here hx rfl (hb hby own_d_jdk_68_method_2_code_17) rfl rfl k) ?_
  refine OGoal.mp (S' := (T30.setTop (mkF m 19 #[.val (.ref sb), .val (.int (16 : Int32))] [(.int (0 : Int32)), (.ref sb)]))) (fun _ k => XS.iconst X31.here hx rfl (hb hby own_d_jdk_68_method_2_code_18) k) ?_
  obtain ⟨T46, h50, X47, e48, W51, st49⟩ := putF X31 hx hZ hown (host := "") (Or.inl (hw _ (List.mem_of_getElem? (i := 77) rfl))) Via.refl e32 F42 F40 (Or.inl (hw _ (List.mem_of_getElem? (i := 78) rfl))) (hw _ (List.mem_of_getElem? (i := 60) rfl)) (ty := .byte) (by decide) rfl rfl (g := mkF m 19 #[.val (.ref sb), .val (.int (16 : Int32))] [(.int (0 : Int32)), (.ref sb)]) rfl rfl (hb hby own_d_jdk_68_method_2_code_19)
  have N52 := Fr.snoc X47 N36 ab
  have Z53 : n0 ≤ h50.size := Nat.le_trans Z37 (Keep.of_wr W51).1
  have F54 := F38.wr W51 (Or.inr (Nat.le_trans hn0 ab))
  have F55 := F39.keep (Keep.of_wr W51) ab
  have F56 := F40.wr W51
  have F57 := F41.other W51 (Or.inr (slot_ne (a0 := a0) (C := "java/lang/StringBuilder") (t := (.array .byte)) (t' := .byte) (Or.inl (hw _ (List.mem_of_getElem? (i := 76) rfl))) (Or.inl (hw _ (List.mem_of_getElem? (i := 78) rfl))) (by decide) (by decide) (by decide)))
  have F58 := F42.same W51
  have F59 := F43.other W51 (Or.inr (slot_ne (a0 := a0) (C := "java/lang/StringBuilder") (t := .int) (t' := .byte) (Or.inl (hw _ (List.mem_of_getElem? (i := 109) rfl))) (Or.inl (hw _ (List.mem_of_getElem? (i := 78) rfl))) (by decide) (by decide) (by decide)))
  have F60 := F44.other W51 (Nat.ne_of_gt lt20)
  have F61 := F45.wr W51
  refine OGoal.mp (S' := (T46.setTop (mkF m 22 #[.val (.ref sb), .val (.int (16 : Int32))] []))) (fun _ k => st49 _ k) ?_
  refine OGoal.mp (S' := (T46.setTop (mkF m 38 #[.val (.ref sb), .val (.int (16 : Int32))] []))) (fun _ k => XS.goto X47.here hx rfl (pc0 := 22) (pc' := 38) rfl (hb hby own_d_jdk_68_method_2_code_22) (by decide) (by decide) k) ?_
  refine oRetV X47 hx hlk hret (hb hby own_d_jdk_68_method_2_code_38) ?_ (by decide) (by decide)
  rw [e48]; exact ⟨rfl, N52, F54, F55, ⟨a17, _, F56, F57, F58, F59, F60, (fun _ => rfl), ab, ab29⟩⟩
theorem own_d_jdk_67_method_1_code_0 : decode jdk_67_method_1_code 0 = .ok (.aload_n 0, 1) := by decide +kernel
theorem own_d_jdk_67_method_1_code_1 : decode jdk_67_method_1_code 1 = .ok (.bipush 16, 2) := by decide +kernel
theorem own_d_jdk_67_method_1_code_3 : decode jdk_67_method_1_code 3 = .ok (.invokespecial 1, 3) := by decide +kernel
theorem own_pd__I_V : parseMethodDescriptor "(I)V" = some ⟨[.int], none⟩ := by decide +kernel
theorem own_d_jdk_67_method_1_code_6 : decode jdk_67_method_1_code 6 = .ok (.return_, 1) := by decide +kernel
theorem own_pn_java_lang_StringBuilder : plainName "java/lang/StringBuilder" = true := by first | (simp [plainName, overriddenIn]; done) | decide +kernel
theorem own_ef_rmSBI (x0 : Addr) (m : MethodId) : entryFrame m #[(.ref x0)] 1 = mkF m 0 #[.val (.ref x0)] [] := by first | (simp [entryFrame, mkF, argsToLocals, Value.category]; done) | rfl
set_option maxRecDepth 65536 in
set_option maxHeartbeats 40000000 in
theorem rmSBI (l : Launch) (Z : State) (a0 : Array Value) (hw : ∀ d ∈ tables_1, d.before a0 Z = true) (sb : Addr) (h0 : Heap) (n0 : Nat) (Z0 : n0 ≤ h0.size) (H : Heap) (fx : Addr) (hn0 : H.size ≤ n0) (cs : Int32) (hcs : ¬ cs = 0) (Scs : Sta Z H "java/lang/String" "COMPACT_STRINGS" "Z" (.int cs)) (dg : Addr) (Sdg : Sta Z H "java/lang/Integer" "DigitOnes" "[B" (.ref dg)) (df : Nat → Value) (Adg : OArr Z H dg .byte 100 df) (xd : Int32) (hdf : df (1 : Int32).toNatClampNeg = .int xd) (hxd : -128 ≤ xd.toInt ∧ xd.toInt < 128) (EF : Exa Z H fx "com/example/wildsolve/wildsolve/infer/Fresh") (nfd : dg ≠ fx) (KZ : Keep H h0 [fx]) (E : Exa Z h0 sb "java/lang/StringBuilder") (F_value : Fld Z h0 sb "java/lang/AbstractStringBuilder" "value" "[B" .null) (F_coder : Fld Z h0 sb "java/lang/AbstractStringBuilder" "coder" "B" (.int (0 : Int32))) (F_count : Fld Z h0 sb "java/lang/AbstractStringBuilder" "count" "I" (.int (0 : Int32))) (ab : n0 ≤ sb) :
    OCon l Z (⟨"java/lang/StringBuilder", "<init>", "()V"⟩ : MethodName) jdk_67_method_1_code 1 none ({ frames := 2, cells := 1, slots := 16, locals := 25 } : Room) #[(.ref sb)] h0 (fun v h L => v = none ∧ Fr n0 L ∧ Keep H h [fx] ∧ Low n0 h0 h ∧ Bd Z h sb (0 : Int32) n0) := by
  refine OConK.intro (y := (⟨"java/lang/StringBuilder", "<init>", "()V"⟩ : MethodName)) (plainFor_of_name own_pn_java_lang_StringBuilder) (own_ef_rmSBI sb) ?_
  intro p e s m below meth c s₁ hx hby hml hown hnm hret hlk hZ X0 e0
  show OGoal p e below s _ _ _ (s₁.setTop (mkF m 0 #[.val (.ref sb)] []))
  refine OGoal.mp (S' := (s₁.setTop (mkF m 1 #[.val (.ref sb)] [(.ref sb)]))) (fun _ k => XS.aloadN X0.here hx rfl (hb hby own_d_jdk_67_method_1_code_0) rfl rfl k) ?_
  refine OGoal.mp (S' := (s₁.setTop (mkF m 3 #[.val (.ref sb)] [(.int (16 : Int32)), (.ref sb)]))) (fun _ k => XS.bipush X0.here hx rfl (hb hby own_d_jdk_67_method_1_code_1) k) ?_
  refine oCallN (y := (⟨"java/lang/AbstractStringBuilder", "<init>", "(I)V"⟩ : MethodName)) X0 hx hZ rfl hown (hw _ (List.mem_of_getElem? (i := 65) rfl)) (hw _ (List.mem_of_getElem? (i := 66) rfl)) (hw _ (List.mem_of_getElem? (i := 69) rfl)) (hw _ (List.mem_of_getElem? (i := 70) rfl)) (by decide) (rmASI l Z a0 hw sb h0 n0 Z0 H fx hn0 cs hcs Scs dg Sdg df Adg xd hdf hxd EF nfd KZ E F_value F_coder F_count ab) e0 [(.int (16 : Int32))] [] rfl rfl (by rw [hml]; rfl) (lenOf own_pd__I_V rfl) 0 (Nat.le_of_eq rfl) (by decide) (by decide) (by decide) (by decide) (hb hby own_d_jdk_67_method_1_code_3) ?_
  intro v1 T2 L3 X4 q5
  obtain ⟨rfl, N6, K7, Lw8, B9⟩ := q5
  have N10 := Fr.app (Fr.nil n0) N6
  have Lw12 := (Low.refl n0 h0).trans Lw8
  have Z11 := B9.sz
  show OGoal p e below s _ _ _ (T2.setTop (mkF m 6 #[.val (.ref sb)] []))
  refine oRetV X4 hx hlk hret (hb hby own_d_jdk_67_method_1_code_6) ?_ (by decide) (by decide)
  exact ⟨rfl, N10, K7, Lw12, B9⟩
theorem own_d_jdk_42_method_152_code_0 : decode jdk_42_method_152_code 0 = .ok (.getstatic 38, 3) := by decide +kernel
theorem own_d_jdk_42_method_152_code_3 : decode jdk_42_method_152_code 3 = .ok (.ifCond .eq 10, 3) := by decide +kernel
theorem own_d_jdk_42_method_152_code_6 : decode jdk_42_method_152_code 6 = .ok (.aload_n 0, 1) := by decide +kernel
theorem own_d_jdk_42_method_152_code_7 : decode jdk_42_method_152_code 7 = .ok (.getfield 15, 3) := by decide +kernel
theorem own_d_jdk_42_method_152_code_10 : decode jdk_42_method_152_code 10 = .ok (.goto 4, 3) := by decide +kernel
theorem own_d_jdk_42_method_152_code_14 : decode jdk_42_method_152_code 14 = .ok (.ireturn, 1) := by decide +kernel
theorem own_pn_java_lang_String : plainName "java/lang/String" = true := by first | (simp [plainName, overriddenIn]; done) | decide +kernel
theorem own_ef_rmCo (x0 : Addr) (m : MethodId) : entryFrame m #[(.ref x0)] 1 = mkF m 0 #[.val (.ref x0)] [] := by first | (simp [entryFrame, mkF, argsToLocals, Value.category]; done) | rfl
set_option maxRecDepth 65536 in
set_option maxHeartbeats 40000000 in
theorem rmCo (l : Launch) (Z : State) (a0 : Array Value) (hw : ∀ d ∈ tables_1, d.before a0 Z = true) (a : Addr) (h0 : Heap) (n0 : Nat) (Z0 : n0 ≤ h0.size) (H : Heap) (fx : Addr) (hn0 : H.size ≤ n0) (cs : Int32) (hcs : ¬ cs = 0) (Scs : Sta Z H "java/lang/String" "COMPACT_STRINGS" "Z" (.int cs)) (dg : Addr) (Sdg : Sta Z H "java/lang/Integer" "DigitOnes" "[B" (.ref dg)) (df : Nat → Value) (Adg : OArr Z H dg .byte 100 df) (xd : Int32) (hdf : df (1 : Int32).toNatClampNeg = .int xd) (hxd : -128 ≤ xd.toInt ∧ xd.toInt < 128) (EF : Exa Z H fx "com/example/wildsolve/wildsolve/infer/Fresh") (nfd : dg ≠ fx) (KZ : Keep H h0 [fx]) (sv : Addr) (sf : Nat → Value) (ES : Exa Z h0 a "java/lang/String") (FSv : Fld Z h0 a "java/lang/String" "value" "[B" (.ref sv)) (FSc : Fld Z h0 a "java/lang/String" "coder" "B" (.int (0 : Int32))) (ASv : OArr Z h0 sv .byte 1 sf) (hsf : ∀ i, fits .byte (sf i) = true)  :
    OCon l Z (⟨"java/lang/String", "coder", "()B"⟩ : MethodName) jdk_42_method_152_code 1 (some .byte) ({ frames := 0, cells := 0, slots := 0, locals := 0 } : Room) #[(.ref a)] h0 (fun v h L => v = some (.int (0 : Int32)) ∧ Fr n0 L ∧ h = h0) := by
  refine OConK.intro (y := (⟨"java/lang/String", "coder", "()B"⟩ : MethodName)) (plainFor_of_name own_pn_java_lang_String) (own_ef_rmCo a) ?_
  intro p e s m below meth c s₁ hx hby hml hown hnm hret hlk hZ X0 e0
  show OGoal p e below s _ _ _ (s₁.setTop (mkF m 0 #[.val (.ref a)] []))
  obtain ⟨T1, X2, e3, st4⟩ := getS X0 hx hZ hown (host := "") (hw _ (List.mem_of_getElem? (i := 106) rfl)) Via.refl e0 (oStaK Scs KZ EF) (g := mkF m 0 #[.val (.ref a)] []) rfl (hb hby own_d_jdk_42_method_152_code_0)
  refine OGoal.mp (S' := (T1.setTop (mkF m 3 #[.val (.ref a)] [(.int cs)]))) (fun _ k => st4 _ k) ?_
  refine OGoal.mp (S' := (T1.setTop (mkF m 6 #[.val (.ref a)] []))) (fun _ k => XS.ifNo X2.here hx rfl (hb hby own_d_jdk_42_method_152_code_3) rfl (XT.i0_eq_f hcs) k) ?_
  refine OGoal.mp (S' := (T1.setTop (mkF m 7 #[.val (.ref a)] [(.ref a)]))) (fun _ k => XS.aloadN X2.here hx rfl (hb hby own_d_jdk_42_method_152_code_6) rfl rfl k) ?_
  obtain ⟨T5, X6, e7, st8⟩ := getF X2 hx hZ hown (host := "") (Or.inl (hw _ (List.mem_of_getElem? (i := 107) rfl))) Via.refl e3 FSc (g := mkF m 7 #[.val (.ref a)] [(.ref a)]) rfl rfl (hb hby own_d_jdk_42_method_152_code_7)
  refine OGoal.mp (S' := (T5.setTop (mkF m 10 #[.val (.ref a)] [(.int (0 : Int32))]))) (fun _ k => st8 _ k) ?_
  refine OGoal.mp (S' := (T5.setTop (mkF m 14 #[.val (.ref a)] [(.int (0 : Int32))]))) (fun _ k => XS.goto X6.here hx rfl (pc0 := 10) (pc' := 14) rfl (hb hby own_d_jdk_42_method_152_code_10) (by decide) (by decide) k) ?_
  refine oRetB X6 hx hlk hret (by decide) (hb hby own_d_jdk_42_method_152_code_14) ?_ (by decide) (by decide)
  exact ⟨rfl, (Fr.nil n0), e7⟩
theorem own_d_jdk_42_method_54_code_0 : decode jdk_42_method_54_code 0 = .ok (.aload_n 0, 1) := by decide +kernel
theorem own_d_jdk_42_method_54_code_1 : decode jdk_42_method_54_code 1 = .ok (.getfield 9, 3) := by decide +kernel
theorem own_d_jdk_42_method_54_code_4 : decode jdk_42_method_54_code 4 = .ok (.arraylength, 1) := by decide +kernel
theorem own_d_jdk_42_method_54_code_5 : decode jdk_42_method_54_code 5 = .ok (.aload_n 0, 1) := by decide +kernel
theorem own_d_jdk_42_method_54_code_6 : decode jdk_42_method_54_code 6 = .ok (.invokevirtual 335, 3) := by decide +kernel
theorem own_pd___B : parseMethodDescriptor "()B" = some ⟨[], some .byte⟩ := by decide +kernel
theorem own_d_jdk_42_method_54_code_9 : decode jdk_42_method_54_code 9 = .ok (.ishr, 1) := by decide +kernel
theorem own_d_jdk_42_method_54_code_10 : decode jdk_42_method_54_code 10 = .ok (.ireturn, 1) := by decide +kernel
theorem own_ef_rmLn (x0 : Addr) (m : MethodId) : entryFrame m #[(.ref x0)] 1 = mkF m 0 #[.val (.ref x0)] [] := by first | (simp [entryFrame, mkF, argsToLocals, Value.category]; done) | rfl
set_option maxRecDepth 65536 in
set_option maxHeartbeats 40000000 in
theorem rmLn (l : Launch) (Z : State) (a0 : Array Value) (hw : ∀ d ∈ tables_1, d.before a0 Z = true) (a : Addr) (h0 : Heap) (n0 : Nat) (Z0 : n0 ≤ h0.size) (H : Heap) (fx : Addr) (hn0 : H.size ≤ n0) (cs : Int32) (hcs : ¬ cs = 0) (Scs : Sta Z H "java/lang/String" "COMPACT_STRINGS" "Z" (.int cs)) (dg : Addr) (Sdg : Sta Z H "java/lang/Integer" "DigitOnes" "[B" (.ref dg)) (df : Nat → Value) (Adg : OArr Z H dg .byte 100 df) (xd : Int32) (hdf : df (1 : Int32).toNatClampNeg = .int xd) (hxd : -128 ≤ xd.toInt ∧ xd.toInt < 128) (EF : Exa Z H fx "com/example/wildsolve/wildsolve/infer/Fresh") (nfd : dg ≠ fx) (KZ : Keep H h0 [fx]) (sv : Addr) (sf : Nat → Value) (ES : Exa Z h0 a "java/lang/String") (FSv : Fld Z h0 a "java/lang/String" "value" "[B" (.ref sv)) (FSc : Fld Z h0 a "java/lang/String" "coder" "B" (.int (0 : Int32))) (ASv : OArr Z h0 sv .byte 1 sf) (hsf : ∀ i, fits .byte (sf i) = true)  :
    OCon l Z (⟨"java/lang/String", "length", "()I"⟩ : MethodName) jdk_42_method_54_code 1 (some .int) ({ frames := 1, cells := 0, slots := 0, locals := 13 } : Room) #[(.ref a)] h0 (fun v h L => v = some (.int (1 : Int32)) ∧ Fr n0 L ∧ h = h0) := by
  refine OConK.intro (y := (⟨"java/lang/String", "length", "()I"⟩ : MethodName)) (plainFor_of_name own_pn_java_lang_String) (own_ef_rmLn a) ?_
  intro p e s m below meth c s₁ hx hby hml hown hnm hret hlk hZ X0 e0
  show OGoal p e below s _ _ _ (s₁.setTop (mkF m 0 #[.val (.ref a)] []))
  refine OGoal.mp (S' := (s₁.setTop (mkF m 1 #[.val (.ref a)] [(.ref a)]))) (fun _ k => XS.aloadN X0.here hx rfl (hb hby own_d_jdk_42_method_54_code_0) rfl rfl k) ?_
  obtain ⟨T1, X2, e3, st4⟩ := getF X0 hx hZ hown (host := "") (Or.inl (hw _ (List.mem_of_getElem? (i := 100) rfl))) Via.refl e0 FSv (g := mkF m 1 #[.val (.ref a)] [(.ref a)]) rfl rfl (hb hby own_d_jdk_42_method_54_code_1)
  refine OGoal.mp (S' := (T1.setTop (mkF m 4 #[.val (.ref a)] [(.ref sv)]))) (fun _ k => st4 _ k) ?_
  refine OGoal.mp (S' := (T1.setTop (mkF m 5 #[.val (.ref a)] [(.int (1 : Int32))]))) (fun _ k => oLen X2 hx hZ e3 ASv (g := mkF m 4 #[.val (.ref a)] [(.ref sv)]) rfl rfl (hb hby own_d_jdk_42_method_54_code_4) k) ?_
  refine OGoal.mp (S' := (T1.setTop (mkF m 6 #[.val (.ref a)] [(.ref a), (.int (1 : Int32))]))) (fun _ k => XS.aloadN X2.here hx rfl (hb hby own_d_jdk_42_method_54_code_5) rfl rfl k) ?_
  refine oCallV (y := (⟨"java/lang/String", "coder", "()B"⟩ : MethodName)) (z := (⟨"java/lang/String", "coder", "()B"⟩ : MethodName)) X2 hx hZ hown (hw _ (List.mem_of_getElem? (i := 101) rfl)) (hw _ (List.mem_of_getElem? (i := 102) rfl)) (hw _ (List.mem_of_getElem? (i := 104) rfl)) (hw _ (List.mem_of_getElem? (i := 103) rfl)) (hw _ (List.mem_of_getElem? (i := 73) rfl)) (hw _ (List.mem_of_getElem? (i := 105) rfl)) (by decide) (rmCo l Z a0 hw a h0 n0 Z0 H fx hn0 cs hcs Scs dg Sdg df Adg xd hdf hxd EF nfd KZ sv sf ES FSv FSc ASv hsf) e3 ES [] [(.int (1 : Int32))] rfl rfl (by rw [hml]; rfl) (notFace_of_selects (args := #[]) (mvT hZ (hw _ (List.mem_of_getElem? (i := 104) rfl)))) (lenOf own_pd___B rfl) 1 (Nat.le_of_eq rfl) (by decide) (by decide) (by decide) (by decide) (hb hby own_d_jdk_42_method_54_code_6) ?_
  intro v5 T6 L7 X8 q9
  obtain ⟨rfl, N10, e11⟩ := q9
  have N12 := Fr.app (Fr.nil n0) N10
  show OGoal p e below s _ _ _ (T6.setTop (mkF m 9 #[.val (.ref a)] [(.int (0 : Int32)), (.int (1 : Int32))]))
  refine OGoal.mp (S' := (T6.setTop (mkF m 10 #[.val (.ref a)] [(.int ((1 : Int32) >>> ((0 : Int32) &&& 31)))]))) (fun _ k => XT.ishr X8.here hx rfl (hb hby own_d_jdk_42_method_54_code_9) rfl k) ?_
  rw [show ((1 : Int32) >>> ((0 : Int32) &&& 31)) = (1 : Int32) by decide]
  show OGoal p e below s _ _ _ (T6.setTop (mkF m 10 #[.val (.ref a)] [(.int (1 : Int32))]))
  refine oRetI X8 hx hlk hret (hb hby own_d_jdk_42_method_54_code_10) ?_ (by decide) (by decide)
  exact ⟨rfl, N12, e11⟩
theorem own_d_jdk_68_method_9_code_0 : decode jdk_68_method_9_code 0 = .ok (.aload_n 0, 1) := by decide +kernel
theorem own_d_jdk_68_method_9_code_1 : decode jdk_68_method_9_code 1 = .ok (.getfield 15, 3) := by decide +kernel
theorem own_d_jdk_68_method_9_code_4 : decode jdk_68_method_9_code 4 = .ok (.arraylength, 1) := by decide +kernel
theorem own_d_jdk_68_method_9_code_5 : decode jdk_68_method_9_code 5 = .ok (.aload_n 0, 1) := by decide +kernel
theorem own_d_jdk_68_method_9_code_6 : decode jdk_68_method_9_code 6 = .ok (.getfield 22, 3) := by decide +kernel
theorem own_d_jdk_68_method_9_code_9 : decode jdk_68_method_9_code 9 = .ok (.ishr, 1) := by decide +kernel
theorem own_d_jdk_68_method_9_code_10 : decode jdk_68_method_9_code 10 = .ok (.istore_n 2, 1) := by decide +kernel
theorem own_d_jdk_68_method_9_code_11 : decode jdk_68_method_9_code 11 = .ok (.iload_n 1, 1) := by decide +kernel
theorem own_d_jdk_68_method_9_code_12 : decode jdk_68_method_9_code 12 = .ok (.iload_n 2, 1) := by decide +kernel
theorem own_d_jdk_68_method_9_code_13 : decode jdk_68_method_9_code 13 = .ok (.isub, 1) := by decide +kernel
theorem own_d_jdk_68_method_9_code_14 : decode jdk_68_method_9_code 14 = .ok (.ifCond .le 24, 3) := by decide +kernel
theorem own_d_jdk_68_method_9_code_38 : decode jdk_68_method_9_code 38 = .ok (.return_, 1) := by decide +kernel
theorem own_ef_rmEC1 (x0 : Addr) (x1 : Int32) (m : MethodId) : entryFrame m #[(.ref x0), (.int x1)] 3 = mkF m 0 #[.val (.ref x0), .val (.int x1), .unset] [] := by first | (simp [entryFrame, mkF, argsToLocals, Value.category]; done) | rfl
set_option maxRecDepth 65536 in
set_option maxHeartbeats 40000000 in
theorem rmEC1 (l : Launch) (Z : State) (a0 : Array Value) (hw : ∀ d ∈ tables_1, d.before a0 Z = true) (sb : Addr) (h0 : Heap) (n0 : Nat) (Z0 : n0 ≤ h0.size) (v' : Addr) (gf : Nat → Value) (E : Exa Z h0 sb "java/lang/StringBuilder") (Fv : Fld Z h0 sb "java/lang/AbstractStringBuilder" "value" "[B" (.ref v')) (Fc : Fld Z h0 sb "java/lang/AbstractStringBuilder" "coder" "B" (.int (0 : Int32))) (A : OArr Z h0 v' .byte 16 gf)  :
    OCon l Z (⟨"java/lang/AbstractStringBuilder", "ensureCapacityInternal", "(I)V"⟩ : MethodName) jdk_68_method_9_code 3 none ({ frames := 0, cells := 0, slots := 0, locals := 0 } : Room) #[(.ref sb), (.int (1 : Int32))] h0 (fun v h L => v = none ∧ Fr n0 L ∧ h = h0) := by
  refine OConK.intro (y := (⟨"java/lang/AbstractStringBuilder", "ensureCapacityInternal", "(I)V"⟩ : MethodName)) (plainFor_of_name own_pn_java_lang_AbstractStringBuilder) (own_ef_rmEC1 sb (1 : Int32)) ?_
  intro p e s m below meth c s₁ hx hby hml hown hnm hret hlk hZ X0 e0
  show OGoal p e below s _ _ _ (s₁.setTop (mkF m 0 #[.val (.ref sb), .val (.int (1 : Int32)), .unset] []))
  refine OGoal.mp (S' := (s₁.setTop (mkF m 1 #[.val (.ref sb), .val (.int (1 : Int32)), .unset] [(.ref sb)]))) (fun _ k => XS.aloadN X0.here hx rfl (hb hby own_d_jdk_68_method_9_code_0) rfl rfl k) ?_
  obtain ⟨T1, X2, e3, st4⟩ := getF X0 hx hZ hown (host := "") (Or.inl (hw _ (List.mem_of_getElem? (i := 75) rfl))) Via.refl e0 Fv (g := mkF m 1 #[.val (.ref sb), .val (.int (1 : Int32)), .unset] [(.ref sb)]) rfl rfl (hb hby own_d_jdk_68_method_9_code_1)
  refine OGoal.mp (S' := (T1.setTop (mkF m 4 #[.val (.ref sb), .val (.int (1 : Int32)), .unset] [(.ref v')]))) (fun _ k => st4 _ k) ?_
  refine OGoal.mp (S' := (T1.setTop (mkF m 5 #[.val (.ref sb), .val (.int (1 : Int32)), .unset] [(.int (16 : Int32))]))) (fun _ k => oLen X2 hx hZ e3 A (g := mkF m 4 #[.val (.ref sb), .val (.int (1 : Int32)), .unset] [(.ref v')]) rfl rfl (hb hby own_d_jdk_68_method_9_code_4) k) ?_
  refine OGoal.mp (S' := (T1.setTop (mkF m 6 #[.val (.ref sb), .val (.int (1 : Int32)), .unset] [(.ref sb), (.int (16 : Int32))]))) (fun _ k => XS.aloadN X2.here hx rfl (hb hby own_d_jdk_68_method_9_code_5) rfl rfl k) ?_
  obtain ⟨T5, X6, e7, st8⟩ := getF X2 hx hZ hown (host := "") (Or.inl (hw _ (List.mem_of_getElem? (i := 77) rfl))) Via.refl e3 Fc (g := mkF m 6 #[.val (.ref sb), .val (.int (1 : Int32)), .unset] [(.ref sb), (.int (16 : Int32))]) rfl rfl (hb hby own_d_jdk_68_method_9_code_6)
  refine OGoal.mp (S' := (T5.setTop (mkF m 9 #[.val (.ref sb), .val (.int (1 : Int32)), .unset] [(.int (0 : Int32)), (.int (16 : Int32))]))) (fun _ k => st8 _ k) ?_
  refine OGoal.mp (S' := (T5.setTop (mkF m 10 #[.val (.ref sb), .val (.int (1 : Int32)), .unset] [(.int ((16 : Int32) >>> ((0 : Int32) &&& 31)))]))) (fun _ k => XT.ishr X6.here hx rfl (hb hby own_d_jdk_68_method_9_code_9) rfl k) ?_
  rw [show ((16 : Int32) >>> ((0 : Int32) &&& 31)) = (16 : Int32) by decide]
  show OGoal p e below s _ _ _ (T5.setTop (mkF m 10 #[.val (.ref sb), .val (.int (1 : Int32)), .unset] [(.int (16 : Int32))]))
  refine OGoal.mp (S' := (T5.setTop (mkF m 11 #[.val (.ref sb), .val (.int (1 : Int32)), .val (.int (16 : Int32))] []))) (fun _ k => XS.istoreN X6.here hx rfl (hb hby own_d_jdk_68_method_9_code_10) rfl (l' := #[.val (.ref sb), .val (.int (1 : Int32)), .val (.int (16 : Int32))]) rfl k) ?_
  refine OGoal.mp (S' := (T5.setTop (mkF m 12 #[.val (.ref sb), .val (.int (1 : Int32)), .val (.int (16 : Int32))] [(.int (1 : Int32))]))) (fun _ k => XS.iloadN X6.here hx rfl (hb hby own_d_jdk_68_method_9_code_11) rfl k) ?_
  refine OGoal.mp (S' := (T5.setTop (mkF m 13 #[.val (.ref sb), .val (.int (1 : Int32)), .val (.int (16 : Int32))] [(.int (16 : Int32)), (.int (1 : Int32))]))) (fun _ k => XS.iloadN X6.here hx rfl (hb hby own_d_jdk_68_method_9_code_12) rfl k) ?_
  refine OGoal.mp (S' := (T5.setTop (mkF m 14 #[.val (.ref sb), .val (.int (1 : Int32)), .val (.int (16 : Int32))] [(.int ((1 : Int32) - (16 : Int32)))]))) (fun _ k => XS.isub X6.here hx rfl (hb hby own_d_jdk_68_method_9_code_13) rfl k) ?_
  rw [show ((1 : Int32) - (16 : Int32)) = (-15 : Int32) by decide]
  show OGoal p e below s _ _ _ (T5.setTop (mkF m 14 #[.val (.ref sb), .val (.int (1 : Int32)), .val (.int (16 : Int32))] [(.int (-15 : Int32))]))
  refine OGoal.mp (S' := (T5.setTop (mkF m 38 #[.val (.ref sb), .val (.int (1 : Int32)), .val (.int (16 : Int32))] []))) (fun _ k => XS.ifYes X6.here hx rfl (pc0 := 14) (pc' := 38) rfl (hb hby own_d_jdk_68_method_9_code_14) rfl (XT.i0_le_t (by decide)) (by decide) (by decide) k) ?_
  refine oRetV X6 hx hlk hret (hb hby own_d_jdk_68_method_9_code_38) ?_ (by decide) (by decide)
  exact ⟨rfl, (Fr.nil n0), e7⟩
theorem own_ef_rmEC2 (x0 : Addr) (x1 : Int32) (m : MethodId) : entryFrame m #[(.ref x0), (.int x1)] 3 = mkF m 0 #[.val (.ref x0), .val (.int x1), .unset] [] := by first | (simp [entryFrame, mkF, argsToLocals, Value.category]; done) | rfl
set_option maxRecDepth 65536 in
set_option maxHeartbeats 40000000 in
theorem rmEC2 (l : Launch) (Z : State) (a0 : Array Value) (hw : ∀ d ∈ tables_1, d.before a0 Z = true) (sb : Addr) (h0 : Heap) (n0 : Nat) (Z0 : n0 ≤ h0.size) (v' : Addr) (gf : Nat → Value) (E : Exa Z h0 sb "java/lang/StringBuilder") (Fv : Fld Z h0 sb "java/lang/AbstractStringBuilder" "value" "[B" (.ref v')) (Fc : Fld Z h0 sb "java/lang/AbstractStringBuilder" "coder" "B" (.int (0 : Int32))) (A : OArr Z h0 v' .byte 16 gf)  :
    OCon l Z (⟨"java/lang/AbstractStringBuilder", "ensureCapacityInternal", "(I)V"⟩ : MethodName) jdk_68_method_9_code 3 none ({ frames := 0, cells := 0, slots := 0, locals := 0 } : Room) #[(.ref sb), (.int (2 : Int32))] h0 (fun v h L => v = none ∧ Fr n0 L ∧ h = h0) := by
  refine OConK.intro (y := (⟨"java/lang/AbstractStringBuilder", "ensureCapacityInternal", "(I)V"⟩ : MethodName)) (plainFor_of_name own_pn_java_lang_AbstractStringBuilder) (own_ef_rmEC2 sb (2 : Int32)) ?_
  intro p e s m below meth c s₁ hx hby hml hown hnm hret hlk hZ X0 e0
  show OGoal p e below s _ _ _ (s₁.setTop (mkF m 0 #[.val (.ref sb), .val (.int (2 : Int32)), .unset] []))
  refine OGoal.mp (S' := (s₁.setTop (mkF m 1 #[.val (.ref sb), .val (.int (2 : Int32)), .unset] [(.ref sb)]))) (fun _ k => XS.aloadN X0.here hx rfl (hb hby own_d_jdk_68_method_9_code_0) rfl rfl k) ?_
  obtain ⟨T1, X2, e3, st4⟩ := getF X0 hx hZ hown (host := "") (Or.inl (hw _ (List.mem_of_getElem? (i := 75) rfl))) Via.refl e0 Fv (g := mkF m 1 #[.val (.ref sb), .val (.int (2 : Int32)), .unset] [(.ref sb)]) rfl rfl (hb hby own_d_jdk_68_method_9_code_1)
  refine OGoal.mp (S' := (T1.setTop (mkF m 4 #[.val (.ref sb), .val (.int (2 : Int32)), .unset] [(.ref v')]))) (fun _ k => st4 _ k) ?_
  refine OGoal.mp (S' := (T1.setTop (mkF m 5 #[.val (.ref sb), .val (.int (2 : Int32)), .unset] [(.int (16 : Int32))]))) (fun _ k => oLen X2 hx hZ e3 A (g := mkF m 4 #[.val (.ref sb), .val (.int (2 : Int32)), .unset] [(.ref v')]) rfl rfl (hb hby own_d_jdk_68_method_9_code_4) k) ?_
  refine OGoal.mp (S' := (T1.setTop (mkF m 6 #[.val (.ref sb), .val (.int (2 : Int32)), .unset] [(.ref sb), (.int (16 : Int32))]))) (fun _ k => XS.aloadN X2.here hx rfl (hb hby own_d_jdk_68_method_9_code_5) rfl rfl k) ?_
  obtain ⟨T5, X6, e7, st8⟩ := getF X2 hx hZ hown (host := "") (Or.inl (hw _ (List.mem_of_getElem? (i := 77) rfl))) Via.refl e3 Fc (g := mkF m 6 #[.val (.ref sb), .val (.int (2 : Int32)), .unset] [(.ref sb), (.int (16 : Int32))]) rfl rfl (hb hby own_d_jdk_68_method_9_code_6)
  refine OGoal.mp (S' := (T5.setTop (mkF m 9 #[.val (.ref sb), .val (.int (2 : Int32)), .unset] [(.int (0 : Int32)), (.int (16 : Int32))]))) (fun _ k => st8 _ k) ?_
  refine OGoal.mp (S' := (T5.setTop (mkF m 10 #[.val (.ref sb), .val (.int (2 : Int32)), .unset] [(.int ((16 : Int32) >>> ((0 : Int32) &&& 31)))]))) (fun _ k => XT.ishr X6.here hx rfl (hb hby own_d_jdk_68_method_9_code_9) rfl k) ?_
  rw [show ((16 : Int32) >>> ((0 : Int32) &&& 31)) = (16 : Int32) by decide]
  show OGoal p e below s _ _ _ (T5.setTop (mkF m 10 #[.val (.ref sb), .val (.int (2 : Int32)), .unset] [(.int (16 : Int32))]))
  refine OGoal.mp (S' := (T5.setTop (mkF m 11 #[.val (.ref sb), .val (.int (2 : Int32)), .val (.int (16 : Int32))] []))) (fun _ k => XS.istoreN X6.here hx rfl (hb hby own_d_jdk_68_method_9_code_10) rfl (l' := #[.val (.ref sb), .val (.int (2 : Int32)), .val (.int (16 : Int32))]) rfl k) ?_
  refine OGoal.mp (S' := (T5.setTop (mkF m 12 #[.val (.ref sb), .val (.int (2 : Int32)), .val (.int (16 : Int32))] [(.int (2 : Int32))]))) (fun _ k => XS.iloadN X6.here hx rfl (hb hby own_d_jdk_68_method_9_code_11) rfl k) ?_
  refine OGoal.mp (S' := (T5.setTop (mkF m 13 #[.val (.ref sb), .val (.int (2 : Int32)), .val (.int (16 : Int32))] [(.int (16 : Int32)), (.int (2 : Int32))]))) (fun _ k => XS.iloadN X6.here hx rfl (hb hby own_d_jdk_68_method_9_code_12) rfl k) ?_
  refine OGoal.mp (S' := (T5.setTop (mkF m 14 #[.val (.ref sb), .val (.int (2 : Int32)), .val (.int (16 : Int32))] [(.int ((2 : Int32) - (16 : Int32)))]))) (fun _ k => XS.isub X6.here hx rfl (hb hby own_d_jdk_68_method_9_code_13) rfl k) ?_
  rw [show ((2 : Int32) - (16 : Int32)) = (-14 : Int32) by decide]
  show OGoal p e below s _ _ _ (T5.setTop (mkF m 14 #[.val (.ref sb), .val (.int (2 : Int32)), .val (.int (16 : Int32))] [(.int (-14 : Int32))]))
  refine OGoal.mp (S' := (T5.setTop (mkF m 38 #[.val (.ref sb), .val (.int (2 : Int32)), .val (.int (16 : Int32))] []))) (fun _ k => XS.ifYes X6.here hx rfl (pc0 := 14) (pc' := 38) rfl (hb hby own_d_jdk_68_method_9_code_14) rfl (XT.i0_le_t (by decide)) (by decide) (by decide) k) ?_
  refine oRetV X6 hx hlk hret (hb hby own_d_jdk_68_method_9_code_38) ?_ (by decide) (by decide)
  exact ⟨rfl, (Fr.nil n0), e7⟩
theorem own_d_jdk_68_method_68_code_0 : decode jdk_68_method_68_code 0 = .ok (.getstatic 18, 3) := by decide +kernel
theorem own_d_jdk_68_method_68_code_3 : decode jdk_68_method_68_code 3 = .ok (.ifCond .eq 14, 3) := by decide +kernel
theorem own_d_jdk_68_method_68_code_6 : decode jdk_68_method_68_code 6 = .ok (.aload_n 0, 1) := by decide +kernel
theorem own_d_jdk_68_method_68_code_7 : decode jdk_68_method_68_code 7 = .ok (.getfield 22, 3) := by decide +kernel
theorem own_d_jdk_68_method_68_code_10 : decode jdk_68_method_68_code 10 = .ok (.ifCond .ne 7, 3) := by decide +kernel
theorem own_d_jdk_68_method_68_code_13 : decode jdk_68_method_68_code 13 = .ok (.iconst 1, 1) := by decide +kernel
theorem own_d_jdk_68_method_68_code_14 : decode jdk_68_method_68_code 14 = .ok (.goto 4, 3) := by decide +kernel
theorem own_d_jdk_68_method_68_code_18 : decode jdk_68_method_68_code 18 = .ok (.ireturn, 1) := by decide +kernel
theorem own_ef_rmIL (x0 : Addr) (m : MethodId) : entryFrame m #[(.ref x0)] 1 = mkF m 0 #[.val (.ref x0)] [] := by first | (simp [entryFrame, mkF, argsToLocals, Value.category]; done) | rfl
set_option maxRecDepth 65536 in
set_option maxHeartbeats 40000000 in
theorem rmIL (l : Launch) (Z : State) (a0 : Array Value) (hw : ∀ d ∈ tables_1, d.before a0 Z = true) (sb : Addr) (h0 : Heap) (n0 : Nat) (Z0 : n0 ≤ h0.size) (H : Heap) (fx : Addr) (hn0 : H.size ≤ n0) (cs : Int32) (hcs : ¬ cs = 0) (Scs : Sta Z H "java/lang/String" "COMPACT_STRINGS" "Z" (.int cs)) (dg : Addr) (Sdg : Sta Z H "java/lang/Integer" "DigitOnes" "[B" (.ref dg)) (df : Nat → Value) (Adg : OArr Z H dg .byte 100 df) (xd : Int32) (hdf : df (1 : Int32).toNatClampNeg = .int xd) (hxd : -128 ≤ xd.toInt ∧ xd.toInt < 128) (EF : Exa Z H fx "com/example/wildsolve/wildsolve/infer/Fresh") (nfd : dg ≠ fx) (KZ : Keep H h0 [fx]) (v' : Addr) (gf : Nat → Value) (E : Exa Z h0 sb "java/lang/StringBuilder") (Fv : Fld Z h0 sb "java/lang/AbstractStringBuilder" "value" "[B" (.ref v')) (Fc : Fld Z h0 sb "java/lang/AbstractStringBuilder" "coder" "B" (.int (0 : Int32))) (A : OArr Z h0 v' .byte 16 gf)  :
    OCon l Z (⟨"java/lang/AbstractStringBuilder", "isLatin1", "()Z"⟩ : MethodName) jdk_68_method_68_code 1 (some .boolean) ({ frames := 0, cells := 0, slots := 0, locals := 0 } : Room) #[(.ref sb)] h0 (fun v h L => v = some (.int (1 : Int32)) ∧ Fr n0 L ∧ h = h0) := by
  refine OConK.intro (y := (⟨"java/lang/AbstractStringBuilder", "isLatin1", "()Z"⟩ : MethodName)) (plainFor_of_name own_pn_java_lang_AbstractStringBuilder) (own_ef_rmIL sb) ?_
  intro p e s m below meth c s₁ hx hby hml hown hnm hret hlk hZ X0 e0
  show OGoal p e below s _ _ _ (s₁.setTop (mkF m 0 #[.val (.ref sb)] []))
  obtain ⟨T1, X2, e3, st4⟩ := getS X0 hx hZ hown (host := "") (hw _ (List.mem_of_getElem? (i := 72) rfl)) Via.refl e0 (oStaK Scs KZ EF) (g := mkF m 0 #[.val (.ref sb)] []) rfl (hb hby own_d_jdk_68_method_68_code_0)
  refine OGoal.mp (S' := (T1.setTop (mkF m 3 #[.val (.ref sb)] [(.int cs)]))) (fun _ k => st4 _ k) ?_
  refine OGoal.mp (S' := (T1.setTop (mkF m 6 #[.val (.ref sb)] []))) (fun _ k => XS.ifNo X2.here hx rfl (hb hby own_d_jdk_68_method_68_code_3) rfl (XT.i0_eq_f hcs) k) ?_
  refine OGoal.mp (S' := (T1.setTop (mkF m 7 #[.val (.ref sb)] [(.ref sb)]))) (fun _ k => XS.aloadN X2.here hx rfl (hb hby own_d_jdk_68_method_68_code_6) rfl rfl k) ?_
  obtain ⟨T5, X6, e7, st8⟩ := getF X2 hx hZ hown (host := "") (Or.inl (hw _ (List.mem_of_getElem? (i := 77) rfl))) Via.refl e3 Fc (g := mkF m 7 #[.val (.ref sb)] [(.ref sb)]) rfl rfl (hb hby own_d_jdk_68_method_68_code_7)
  refine OGoal.mp (S' := (T5.setTop (mkF m 10 #[.val (.ref sb)] [(.int (0 : Int32))]))) (fun _ k => st8 _ k) ?_
  refine OGoal.mp (S' := (T5.setTop (mkF m 13 #[.val (.ref sb)] []))) (fun _ k => XS.ifNo X6.here hx rfl (hb hby own_d_jdk_68_method_68_code_10) rfl (XT.i0_ne_f (by decide)) k) ?_
  refine OGoal.mp (S' := (T5.setTop (mkF m 14 #[.val (.ref sb)] [(.int (1 : Int32))]))) (fun _ k => XS.iconst X6.here hx rfl (hb hby own_d_jdk_68_method_68_code_13) k) ?_
  refine OGoal.mp (S' := (T5.setTop (mkF m 18 #[.val (.ref sb)] [(.int (1 : Int32))]))) (fun _ k => XS.goto X6.here hx rfl (pc0 := 14) (pc' := 18) rfl (hb hby own_d_jdk_68_method_68_code_14) (by decide) (by decide) k) ?_
  refine oRetZ X6 hx hlk hret (Or.inr rfl) (hb hby own_d_jdk_68_method_68_code_18) ?_ (by decide) (by decide)
  exact ⟨rfl, (Fr.nil n0), e7⟩
theorem own_d_jdk_68_method_64_code_0 : decode jdk_68_method_64_code 0 = .ok (.aload_n 0, 1) := by decide +kernel
theorem own_d_jdk_68_method_64_code_1 : decode jdk_68_method_64_code 1 = .ok (.getfield 15, 3) := by decide +kernel
theorem own_d_jdk_68_method_64_code_4 : decode jdk_68_method_64_code 4 = .ok (.areturn, 1) := by decide +kernel
theorem own_ef_rmGV (x0 : Addr) (m : MethodId) : entryFrame m #[(.ref x0)] 1 = mkF m 0 #[.val (.ref x0)] [] := by first | (simp [entryFrame, mkF, argsToLocals, Value.category]; done) | rfl
set_option maxRecDepth 65536 in
set_option maxHeartbeats 40000000 in
theorem rmGV (l : Launch) (Z : State) (a0 : Array Value) (hw : ∀ d ∈ tables_1, d.before a0 Z = true) (sb : Addr) (h0 : Heap) (n0 : Nat) (Z0 : n0 ≤ h0.size) (v' : Addr) (gf : Nat → Value) (E : Exa Z h0 sb "java/lang/StringBuilder") (Fv : Fld Z h0 sb "java/lang/AbstractStringBuilder" "value" "[B" (.ref v')) (Fc : Fld Z h0 sb "java/lang/AbstractStringBuilder" "coder" "B" (.int (0 : Int32))) (A : OArr Z h0 v' .byte 16 gf)  :
    OCon l Z (⟨"java/lang/AbstractStringBuilder", "getValue", "()[B"⟩ : MethodName) jdk_68_method_64_code 1 (some (.array .byte)) ({ frames := 0, cells := 0, slots := 0, locals := 0 } : Room) #[(.ref sb)] h0 (fun v h L => v = some (.ref v') ∧ Fr n0 L ∧ h = h0) := by
  refine OConK.intro (y := (⟨"java/lang/AbstractStringBuilder", "getValue", "()[B"⟩ : MethodName)) (plainFor_of_name own_pn_java_lang_AbstractStringBuilder) (own_ef_rmGV sb) ?_
  intro p e s m below meth c s₁ hx hby hml hown hnm hret hlk hZ X0 e0
  show OGoal p e below s _ _ _ (s₁.setTop (mkF m 0 #[.val (.ref sb)] []))
  refine OGoal.mp (S' := (s₁.setTop (mkF m 1 #[.val (.ref sb)] [(.ref sb)]))) (fun _ k => XS.aloadN X0.here hx rfl (hb hby own_d_jdk_68_method_64_code_0) rfl rfl k) ?_
  obtain ⟨T1, X2, e3, st4⟩ := getF X0 hx hZ hown (host := "") (Or.inl (hw _ (List.mem_of_getElem? (i := 75) rfl))) Via.refl e0 Fv (g := mkF m 1 #[.val (.ref sb)] [(.ref sb)]) rfl rfl (hb hby own_d_jdk_68_method_64_code_1)
  refine OGoal.mp (S' := (T1.setTop (mkF m 4 #[.val (.ref sb)] [(.ref v')]))) (fun _ k => st4 _ k) ?_
  refine oRetA X2 hx hlk hret rfl rfl (hb hby own_d_jdk_68_method_64_code_4) ?_ (by decide) (by decide)
  exact ⟨rfl, (Fr.nil n0), e3⟩
theorem own_d_jdk_68_method_6_code_0 : decode jdk_68_method_6_code 0 = .ok (.aload_n 0, 1) := by decide +kernel
theorem own_d_jdk_68_method_6_code_1 : decode jdk_68_method_6_code 1 = .ok (.getfield 79, 3) := by decide +kernel
theorem own_d_jdk_68_method_6_code_4 : decode jdk_68_method_6_code 4 = .ok (.ireturn, 1) := by decide +kernel
theorem own_ef_rmAL (x0 : Addr) (m : MethodId) : entryFrame m #[(.ref x0)] 1 = mkF m 0 #[.val (.ref x0)] [] := by first | (simp [entryFrame, mkF, argsToLocals, Value.category]; done) | rfl
set_option maxRecDepth 65536 in
set_option maxHeartbeats 40000000 in
theorem rmAL (l : Launch) (Z : State) (a0 : Array Value) (hw : ∀ d ∈ tables_1, d.before a0 Z = true) (sb : Addr) (h0 : Heap) (n0 : Nat) (Z0 : n0 ≤ h0.size) (Fn : Fld Z h0 sb "java/lang/AbstractStringBuilder" "count" "I" (.int (2 : Int32))) :
    OCon l Z (⟨"java/lang/AbstractStringBuilder", "length", "()I"⟩ : MethodName) jdk_68_method_6_code 1 (some .int) ({ frames := 0, cells := 0, slots := 0, locals := 0 } : Room) #[(.ref sb)] h0 (fun v h L => v = some (.int (2 : Int32)) ∧ Fr n0 L ∧ h = h0) := by
  refine OConK.intro (y := (⟨"java/lang/AbstractStringBuilder", "length", "()I"⟩ : MethodName)) (plainFor_of_name own_pn_java_lang_AbstractStringBuilder) (own_ef_rmAL sb) ?_
  intro p e s m below meth c s₁ hx hby hml hown hnm hret hlk hZ X0 e0
  show OGoal p e below s _ _ _ (s₁.setTop (mkF m 0 #[.val (.ref sb)] []))
  refine OGoal.mp (S' := (s₁.setTop (mkF m 1 #[.val (.ref sb)] [(.ref sb)]))) (fun _ k => XS.aloadN X0.here hx rfl (hb hby own_d_jdk_68_method_6_code_0) rfl rfl k) ?_
  obtain ⟨T1, X2, e3, st4⟩ := getF X0 hx hZ hown (host := "") (Or.inl (hw _ (List.mem_of_getElem? (i := 108) rfl))) Via.refl e0 Fn (g := mkF m 1 #[.val (.ref sb)] [(.ref sb)]) rfl rfl (hb hby own_d_jdk_68_method_6_code_1)
  refine OGoal.mp (S' := (T1.setTop (mkF m 4 #[.val (.ref sb)] [(.int (2 : Int32))]))) (fun _ k => st4 _ k) ?_
  refine oRetI X2 hx hlk hret (hb hby own_d_jdk_68_method_6_code_4) ?_ (by decide) (by decide)
  exact ⟨rfl, (Fr.nil n0), e3⟩
theorem own_d_jdk_67_method_93_code_0 : decode jdk_67_method_93_code 0 = .ok (.aload_n 0, 1) := by decide +kernel
theorem own_d_jdk_67_method_93_code_1 : decode jdk_67_method_93_code 1 = .ok (.invokespecial 343, 3) := by decide +kernel
theorem own_pd___I : parseMethodDescriptor "()I" = some ⟨[], some .int⟩ := by decide +kernel
theorem own_d_jdk_67_method_93_code_4 : decode jdk_67_method_93_code 4 = .ok (.ireturn, 1) := by decide +kernel
theorem own_ef_rmSL (x0 : Addr) (m : MethodId) : entryFrame m #[(.ref x0)] 1 = mkF m 0 #[.val (.ref x0)] [] := by first | (simp [entryFrame, mkF, argsToLocals, Value.category]; done) | rfl
set_option maxRecDepth 65536 in
set_option maxHeartbeats 40000000 in
theorem rmSL (l : Launch) (Z : State) (a0 : Array Value) (hw : ∀ d ∈ tables_1, d.before a0 Z = true) (sb : Addr) (h0 : Heap) (n0 : Nat) (Z0 : n0 ≤ h0.size) (E : Exa Z h0 sb "java/lang/StringBuilder") (Fn : Fld Z h0 sb "java/lang/AbstractStringBuilder" "count" "I" (.int (2 : Int32))) :
    OCon l Z (⟨"java/lang/StringBuilder", "length", "()I"⟩ : MethodName) jdk_67_method_93_code 1 (some .int) ({ frames := 1, cells := 0, slots := 0, locals := 12 } : Room) #[(.ref sb)] h0 (fun v h L => v = some (.int (2 : Int32)) ∧ Fr n0 L ∧ h = h0) := by
  refine OConK.intro (y := (⟨"java/lang/StringBuilder", "length", "()I"⟩ : MethodName)) (plainFor_of_name own_pn_java_lang_StringBuilder) (own_ef_rmSL sb) ?_
  intro p e s m below meth c s₁ hx hby hml hown hnm hret hlk hZ X0 e0
  show OGoal p e below s _ _ _ (s₁.setTop (mkF m 0 #[.val (.ref sb)] []))
  refine OGoal.mp (S' := (s₁.setTop (mkF m 1 #[.val (.ref sb)] [(.ref sb)]))) (fun _ k => XS.aloadN X0.here hx rfl (hb hby own_d_jdk_67_method_93_code_0) rfl rfl k) ?_
  refine oCallU (y := (⟨"java/lang/AbstractStringBuilder", "length", "()I"⟩ : MethodName)) (y0 := (⟨"java/lang/AbstractStringBuilder", "ensureCapacityInternal", "(I)V"⟩ : MethodName)) X0 hx hZ (by decide) rfl hown (hw _ (List.mem_of_getElem? (i := 184) rfl)) (hw _ (List.mem_of_getElem? (i := 113) rfl)) (hw _ (List.mem_of_getElem? (i := 180) rfl)) (hw _ (List.mem_of_getElem? (i := 92) rfl)) (hw _ (List.mem_of_getElem? (i := 69) rfl)) (hw _ (List.mem_of_getElem? (i := 185) rfl)) (by decide) (rmAL l Z a0 hw sb h0 n0 Z0 Fn) e0 E [] [] rfl rfl (by rw [hml]; rfl) (lenOf own_pd___I rfl) 0 (Nat.le_of_eq rfl) (by decide) (by decide) (by decide) (by decide) (hb hby own_d_jdk_67_method_93_code_1) ?_
  intro v1 T2 L3 X4 q5
  obtain ⟨rfl, N6, e7⟩ := q5
  have N8 := Fr.app (Fr.nil n0) N6
  show OGoal p e below s _ _ _ (T2.setTop (mkF m 4 #[.val (.ref sb)] [(.int (2 : Int32))]))
  refine oRetI X4 hx hlk hret (hb hby own_d_jdk_67_method_93_code_4) ?_ (by decide) (by decide)
  exact ⟨rfl, N8, e7⟩
theorem own_d_jdk_68_method_71_code_0 : decode jdk_68_method_71_code 0 = .ok (.getstatic 18, 3) := by decide +kernel
theorem own_d_jdk_68_method_71_code_3 : decode jdk_68_method_71_code 3 = .ok (.ifCond .eq 18, 3) := by decide +kernel
theorem own_d_jdk_68_method_71_code_6 : decode jdk_68_method_71_code 6 = .ok (.aload_n 0, 1) := by decide +kernel
theorem own_d_jdk_68_method_71_code_7 : decode jdk_68_method_71_code 7 = .ok (.getfield 22, 3) := by decide +kernel
theorem own_d_jdk_68_method_71_code_10 : decode jdk_68_method_71_code 10 = .ok (.aload_n 1, 1) := by decide +kernel
theorem own_d_jdk_68_method_71_code_11 : decode jdk_68_method_71_code 11 = .ok (.invokevirtual 40, 3) := by decide +kernel
theorem own_d_jdk_68_method_71_code_14 : decode jdk_68_method_71_code 14 = .ok (.if_icmp .eq 7, 3) := by decide +kernel
theorem own_d_jdk_68_method_71_code_21 : decode jdk_68_method_71_code 21 = .ok (.return_, 1) := by decide +kernel
theorem own_ef_rmIF (x0 : Addr) (x1 : Addr) (m : MethodId) : entryFrame m #[(.ref x0), (.ref x1)] 2 = mkF m 0 #[.val (.ref x0), .val (.ref x1)] [] := by first | (simp [entryFrame, mkF, argsToLocals, Value.category]; done) | rfl
set_option maxRecDepth 65536 in
set_option maxHeartbeats 40000000 in
theorem rmIF (l : Launch) (Z : State) (a0 : Array Value) (hw : ∀ d ∈ tables_1, d.before a0 Z = true) (sb a : Addr) (h0 : Heap) (n0 : Nat) (Z0 : n0 ≤ h0.size) (H : Heap) (fx : Addr) (hn0 : H.size ≤ n0) (cs : Int32) (hcs : ¬ cs = 0) (Scs : Sta Z H "java/lang/String" "COMPACT_STRINGS" "Z" (.int cs)) (dg : Addr) (Sdg : Sta Z H "java/lang/Integer" "DigitOnes" "[B" (.ref dg)) (df : Nat → Value) (Adg : OArr Z H dg .byte 100 df) (xd : Int32) (hdf : df (1 : Int32).toNatClampNeg = .int xd) (hxd : -128 ≤ xd.toInt ∧ xd.toInt < 128) (EF : Exa Z H fx "com/example/wildsolve/wildsolve/infer/Fresh") (nfd : dg ≠ fx) (KZ : Keep H h0 [fx]) (v' : Addr) (gf : Nat → Value) (E : Exa Z h0 sb "java/lang/StringBuilder") (Fv : Fld Z h0 sb "java/lang/AbstractStringBuilder" "value" "[B" (.ref v')) (Fc : Fld Z h0 sb "java/lang/AbstractStringBuilder" "coder" "B" (.int (0 : Int32))) (A : OArr Z h0 v' .byte 16 gf) (sv : Addr) (sf : Nat → Value) (ES : Exa Z h0 a "java/lang/String") (FSv : Fld Z h0 a "java/lang/String" "value" "[B" (.ref sv)) (FSc : Fld Z h0 a "java/lang/String" "coder" "B" (.int (0 : Int32))) (ASv : OArr Z h0 sv .byte 1 sf) (hsf : ∀ i, fits .byte (sf i) = true)  :
    OCon l Z (⟨"java/lang/AbstractStringBuilder", "inflateIfNeededFor", "(Ljava/lang/String;)V"⟩ : MethodName) jdk_68_method_71_code 2 none ({ frames := 1, cells := 0, slots := 0, locals := 13 } : Room) #[(.ref sb), (.ref a)] h0 (fun v h L => v = none ∧ Fr n0 L ∧ h = h0) := by
  refine OConK.intro (y := (⟨"java/lang/AbstractStringBuilder", "inflateIfNeededFor", "(Ljava/lang/String;)V"⟩ : MethodName)) (plainFor_of_name own_pn_java_lang_AbstractStringBuilder) (own_ef_rmIF sb a) ?_
  intro p e s m below meth c s₁ hx hby hml hown hnm hret hlk hZ X0 e0
  show OGoal p e below s _ _ _ (s₁.setTop (mkF m 0 #[.val (.ref sb), .val (.ref a)] []))
  obtain ⟨T1, X2, e3, st4⟩ := getS X0 hx hZ hown (host := "") (hw _ (List.mem_of_getElem? (i := 72) rfl)) Via.refl e0 (oStaK Scs KZ EF) (g := mkF m 0 #[.val (.ref sb), .val (.ref a)] []) rfl (hb hby own_d_jdk_68_method_71_code_0)
  refine OGoal.mp (S' := (T1.setTop (mkF m 3 #[.val (.ref sb), .val (.ref a)] [(.int cs)]))) (fun _ k => st4 _ k) ?_
  refine OGoal.mp (S' := (T1.setTop (mkF m 6 #[.val (.ref sb), .val (.ref a)] []))) (fun _ k => XS.ifNo X2.here hx rfl (hb hby own_d_jdk_68_method_71_code_3) rfl (XT.i0_eq_f hcs) k) ?_
  refine OGoal.mp (S' := (T1.setTop (mkF m 7 #[.val (.ref sb), .val (.ref a)] [(.ref sb)]))) (fun _ k => XS.aloadN X2.here hx rfl (hb hby own_d_jdk_68_method_71_code_6) rfl rfl k) ?_
  obtain ⟨T5, X6, e7, st8⟩ := getF X2 hx hZ hown (host := "") (Or.inl (hw _ (List.mem_of_getElem? (i := 77) rfl))) Via.refl e3 Fc (g := mkF m 7 #[.val (.ref sb), .val (.ref a)] [(.ref sb)]) rfl rfl (hb hby own_d_jdk_68_method_71_code_7)
  refine OGoal.mp (S' := (T5.setTop (mkF m 10 #[.val (.ref sb), .val (.ref a)] [(.int (0 : Int32))]))) (fun _ k => st8 _ k) ?_
  refine OGoal.mp (S' := (T5.setTop (mkF m 11 #[.val (.ref sb), .val (.ref a)] [(.ref a), (.int (0 : Int32))]))) (fun _ k => XS.aloadN X6.here hx rfl (hb hby own_d_jdk_68_method_71_code_10) rfl rfl k) ?_
  refine oCallV (y := (⟨"java/lang/String", "coder", "()B"⟩ : MethodName)) (z := (⟨"java/lang/String", "coder", "()B"⟩ : MethodName)) X6 hx hZ hown (hw _ (List.mem_of_getElem? (i := 125) rfl)) (hw _ (List.mem_of_getElem? (i := 102) rfl)) (hw _ (List.mem_of_getElem? (i := 104) rfl)) (hw _ (List.mem_of_getElem? (i := 103) rfl)) (hw _ (List.mem_of_getElem? (i := 73) rfl)) (hw _ (List.mem_of_getElem? (i := 105) rfl)) (by decide) (rmCo l Z a0 hw a h0 n0 Z0 H fx hn0 cs hcs Scs dg Sdg df Adg xd hdf hxd EF nfd KZ sv sf ES FSv FSc ASv hsf) e7 ES [] [(.int (0 : Int32))] rfl rfl (by rw [hml]; rfl) (notFace_of_selects (args := #[]) (mvT hZ (hw _ (List.mem_of_getElem? (i := 104) rfl)))) (lenOf own_pd___B rfl) 1 (Nat.le_of_eq rfl) (by decide) (by decide) (by decide) (by decide) (hb hby own_d_jdk_68_method_71_code_11) ?_
  intro v9 T10 L11 X12 q13
  obtain ⟨rfl, N14, e15⟩ := q13
  have N16 := Fr.app (Fr.nil n0) N14
  show OGoal p e below s _ _ _ (T10.setTop (mkF m 14 #[.val (.ref sb), .val (.ref a)] [(.int (0 : Int32)), (.int (0 : Int32))]))
  refine OGoal.mp (S' := (T10.setTop (mkF m 21 #[.val (.ref sb), .val (.ref a)] []))) (fun _ k => XS.icmpYes X12.here hx rfl (pc0 := 14) (pc' := 21) rfl (hb hby own_d_jdk_68_method_71_code_14) rfl (XT.ii_eq_t (by decide)) (by decide) (by decide) k) ?_
  refine oRetV X12 hx hlk hret (hb hby own_d_jdk_68_method_71_code_21) ?_ (by decide) (by decide)
  exact ⟨rfl, N16, e15⟩
theorem own_d_jdk_42_method_147_code_0 : decode jdk_42_method_147_code 0 = .ok (.aload_n 0, 1) := by decide +kernel
theorem own_d_jdk_42_method_147_code_1 : decode jdk_42_method_147_code 1 = .ok (.invokevirtual 335, 3) := by decide +kernel
theorem own_d_jdk_42_method_147_code_4 : decode jdk_42_method_147_code 4 = .ok (.iload_n 3, 1) := by decide +kernel
theorem own_d_jdk_42_method_147_code_5 : decode jdk_42_method_147_code 5 = .ok (.if_icmp .ne 23, 3) := by decide +kernel
theorem own_d_jdk_42_method_147_code_8 : decode jdk_42_method_147_code 8 = .ok (.aload_n 0, 1) := by decide +kernel
theorem own_d_jdk_42_method_147_code_9 : decode jdk_42_method_147_code 9 = .ok (.getfield 9, 3) := by decide +kernel
theorem own_d_jdk_42_method_147_code_12 : decode jdk_42_method_147_code 12 = .ok (.iconst 0, 1) := by decide +kernel
theorem own_d_jdk_42_method_147_code_13 : decode jdk_42_method_147_code 13 = .ok (.aload_n 1, 1) := by decide +kernel
theorem own_d_jdk_42_method_147_code_14 : decode jdk_42_method_147_code 14 = .ok (.iload_n 2, 1) := by decide +kernel
theorem own_d_jdk_42_method_147_code_15 : decode jdk_42_method_147_code 15 = .ok (.iload_n 3, 1) := by decide +kernel
theorem own_d_jdk_42_method_147_code_16 : decode jdk_42_method_147_code 16 = .ok (.ishl, 1) := by decide +kernel
theorem own_d_jdk_42_method_147_code_17 : decode jdk_42_method_147_code 17 = .ok (.aload_n 0, 1) := by decide +kernel
theorem own_d_jdk_42_method_147_code_18 : decode jdk_42_method_147_code 18 = .ok (.getfield 9, 3) := by decide +kernel
theorem own_d_jdk_42_method_147_code_21 : decode jdk_42_method_147_code 21 = .ok (.arraylength, 1) := by decide +kernel
theorem own_d_jdk_42_method_147_code_22 : decode jdk_42_method_147_code 22 = .ok (.invokestatic 212, 3) := by decide +kernel
theorem own_d_jdk_42_method_147_code_25 : decode jdk_42_method_147_code 25 = .ok (.goto 18, 3) := by decide +kernel
theorem own_d_jdk_42_method_147_code_43 : decode jdk_42_method_147_code 43 = .ok (.return_, 1) := by decide +kernel
theorem own_ef_rmGB (x0 : Addr) (x1 : Addr) (x2 : Int32) (x3 : Int32) (m : MethodId) : entryFrame m #[(.ref x0), (.ref x1), (.int x2), (.int x3)] 4 = mkF m 0 #[.val (.ref x0), .val (.ref x1), .val (.int x2), .val (.int x3)] [] := by first | (simp [entryFrame, mkF, argsToLocals, Value.category]; done) | rfl
set_option maxRecDepth 65536 in
set_option maxHeartbeats 40000000 in
theorem rmGB (l : Launch) (Z : State) (a0 : Array Value) (hw : ∀ d ∈ tables_1, d.before a0 Z = true) (a v' : Addr) (h0 : Heap) (n0 : Nat) (Z0 : n0 ≤ h0.size) (H : Heap) (fx : Addr) (hn0 : H.size ≤ n0) (cs : Int32) (hcs : ¬ cs = 0) (Scs : Sta Z H "java/lang/String" "COMPACT_STRINGS" "Z" (.int cs)) (dg : Addr) (Sdg : Sta Z H "java/lang/Integer" "DigitOnes" "[B" (.ref dg)) (df : Nat → Value) (Adg : OArr Z H dg .byte 100 df) (xd : Int32) (hdf : df (1 : Int32).toNatClampNeg = .int xd) (hxd : -128 ≤ xd.toInt ∧ xd.toInt < 128) (EF : Exa Z H fx "com/example/wildsolve/wildsolve/infer/Fresh") (nfd : dg ≠ fx) (KZ : Keep H h0 [fx]) (sv : Addr) (sf : Nat → Value) (ES : Exa Z h0 a "java/lang/String") (FSv : Fld Z h0 a "java/lang/String" "value" "[B" (.ref sv)) (FSc : Fld Z h0 a "java/lang/String" "coder" "B" (.int (0 : Int32))) (ASv : OArr Z h0 sv .byte 1 sf) (hsf : ∀ i, fits .byte (sf i) = true) (gf : Nat → Value) (A : OArr Z h0 v' .byte 16 gf) (hgf : ∀ i, fits .byte (gf i) = true) (abv : n0 ≤ v')  :
    OCon l Z (⟨"java/lang/String", "getBytes", "([BIB)V"⟩ : MethodName) jdk_42_method_147_code 4 none ({ frames := 1, cells := 0, slots := 0, locals := 18 } : Room) #[(.ref a), (.ref v'), (.int (0 : Int32)), (.int (0 : Int32))] h0 (fun v h L => v = none ∧ Fr n0 L ∧ Keep h0 h [v'] ∧ Keep H h [fx] ∧ Vb Z h v') := by
  refine OConK.intro (y := (⟨"java/lang/String", "getBytes", "([BIB)V"⟩ : MethodName)) (plainFor_of_name own_pn_java_lang_String) (own_ef_rmGB a v' (0 : Int32) (0 : Int32)) ?_
  intro p e s m below meth c s₁ hx hby hml hown hnm hret hlk hZ X0 e0
  show OGoal p e below s _ _ _ (s₁.setTop (mkF m 0 #[.val (.ref a), .val (.ref v'), .val (.int (0 : Int32)), .val (.int (0 : Int32))] []))
  refine OGoal.mp (S' := (s₁.setTop (mkF m 1 #[.val (.ref a), .val (.ref v'), .val (.int (0 : Int32)), .val (.int (0 : Int32))] [(.ref a)]))) (fun _ k => XS.aloadN X0.here hx rfl (hb hby own_d_jdk_42_method_147_code_0) rfl rfl k) ?_
  refine oCallV (y := (⟨"java/lang/String", "coder", "()B"⟩ : MethodName)) (z := (⟨"java/lang/String", "coder", "()B"⟩ : MethodName)) X0 hx hZ hown (hw _ (List.mem_of_getElem? (i := 101) rfl)) (hw _ (List.mem_of_getElem? (i := 102) rfl)) (hw _ (List.mem_of_getElem? (i := 104) rfl)) (hw _ (List.mem_of_getElem? (i := 103) rfl)) (hw _ (List.mem_of_getElem? (i := 73) rfl)) (hw _ (List.mem_of_getElem? (i := 105) rfl)) (by decide) (rmCo l Z a0 hw a h0 n0 Z0 H fx hn0 cs hcs Scs dg Sdg df Adg xd hdf hxd EF nfd KZ sv sf ES FSv FSc ASv hsf) e0 ES [] [] rfl rfl (by rw [hml]; rfl) (notFace_of_selects (args := #[]) (mvT hZ (hw _ (List.mem_of_getElem? (i := 104) rfl)))) (lenOf own_pd___B rfl) 0 (Nat.le_of_eq rfl) (by decide) (by decide) (by decide) (by decide) (hb hby own_d_jdk_42_method_147_code_1) ?_
  intro v1 T2 L3 X4 q5
  obtain ⟨rfl, N6, e7⟩ := q5
  have N8 := Fr.app (Fr.nil n0) N6
  show OGoal p e below s _ _ _ (T2.setTop (mkF m 4 #[.val (.ref a), .val (.ref v'), .val (.int (0 : Int32)), .val (.int (0 : Int32))] [(.int (0 : Int32))]))
  refine OGoal.mp (S' := (T2.setTop (mkF m 5 #[.val (.ref a), .val (.ref v'), .val (.int (0 : Int32)), .val (.int (0 : Int32))] [(.int (0 : Int32)), (.int (0 : Int32))]))) (fun _ k => XS.iloadN X4.here hx rfl (hb hby own_d_jdk_42_method_147_code_4) rfl k) ?_
  refine OGoal.mp (S' := (T2.setTop (mkF m 8 #[.val (.ref a), .val (.ref v'), .val (.int (0 : Int32)), .val (.int (0 : Int32))] []))) (fun _ k => XS.icmpNo X4.here hx rfl (hb hby own_d_jdk_42_method_147_code_5) rfl (XT.ii_ne_f (by decide)) k) ?_
  refine OGoal.mp (S' := (T2.setTop (mkF m 9 #[.val (.ref a), .val (.ref v'), .val (.int (0 : Int32)), .val (.int (0 : Int32))] [(.ref a)]))) (fun _ k => XS.aloadN X4.here hx rfl (hb hby own_d_jdk_42_method_147_code_8) rfl rfl k) ?_
  obtain ⟨T9, X10, e11, st12⟩ := getF X4 hx hZ hown (host := "") (Or.inl (hw _ (List.mem_of_getElem? (i := 100) rfl))) Via.refl e7 FSv (g := mkF m 9 #[.val (.ref a), .val (.ref v'), .val (.int (0 : Int32)), .val (.int (0 : Int32))] [(.ref a)]) rfl rfl (hb hby own_d_jdk_42_method_147_code_9)
  refine OGoal.mp (S' := (T9.setTop (mkF m 12 #[.val (.ref a), .val (.ref v'), .val (.int (0 : Int32)), .val (.int (0 : Int32))] [(.ref sv)]))) (fun _ k => st12 _ k) ?_
  refine OGoal.mp (S' := (T9.setTop (mkF m 13 #[.val (.ref a), .val (.ref v'), .val (.int (0 : Int32)), .val (.int (0 : Int32))] [(.int (0 : Int32)), (.ref sv)]))) (fun _ k => XS.iconst X10.here hx rfl (hb hby own_d_jdk_42_method_147_code_12) k) ?_
  refine OGoal.mp (S' := (T9.setTop (mkF m 14 #[.val (.ref a), .val (.ref v'), .val (.int (0 : Int32)), .val (.int (0 : Int32))] [(.ref v'), (.int (0 : Int32)), (.ref sv)]))) (fun _ k => XS.aloadN X10.here hx rfl (hb hby own_d_jdk_42_method_147_code_13) rfl rfl k) ?_
  refine OGoal.mp (S' := (T9.setTop (mkF m 15 #[.val (.ref a), .val (.ref v'), .val (.int (0 : Int32)), .val (.int (0 : Int32))] [(.int (0 : Int32)), (.ref v'), (.int (0 : Int32)), (.ref sv)]))) (fun _ k => XS.iloadN X10.here hx rfl (hb hby own_d_jdk_42_method_147_code_14) rfl k) ?_
  refine OGoal.mp (S' := (T9.setTop (mkF m 16 #[.val (.ref a), .val (.ref v'), .val (.int (0 : Int32)), .val (.int (0 : Int32))] [(.int (0 : Int32)), (.int (0 : Int32)), (.ref v'), (.int (0 : Int32)), (.ref sv)]))) (fun _ k => XS.iloadN X10.here hx rfl (hb hby own_d_jdk_42_method_147_code_15) rfl k) ?_
  refine OGoal.mp (S' := (T9.setTop (mkF m 17 #[.val (.ref a), .val (.ref v'), .val (.int (0 : Int32)), .val (.int (0 : Int32))] [(.int ((0 : Int32) <<< ((0 : Int32) &&& 31))), (.ref v'), (.int (0 : Int32)), (.ref sv)]))) (fun _ k => XT.ishl X10.here hx rfl (hb hby own_d_jdk_42_method_147_code_16) rfl k) ?_
  rw [show ((0 : Int32) <<< ((0 : Int32) &&& 31)) = (0 : Int32) by decide]
  show OGoal p e below s _ _ _ (T9.setTop (mkF m 17 #[.val (.ref a), .val (.ref v'), .val (.int (0 : Int32)), .val (.int (0 : Int32))] [(.int (0 : Int32)), (.ref v'), (.int (0 : Int32)), (.ref sv)]))
  refine OGoal.mp (S' := (T9.setTop (mkF m 18 #[.val (.ref a), .val (.ref v'), .val (.int (0 : Int32)), .val (.int (0 : Int32))] [(.ref a), (.int (0 : Int32)), (.ref v'), (.int (0 : Int32)), (.ref sv)]))) (fun _ k => XS.aloadN X10.here hx rfl (hb hby own_d_jdk_42_method_147_code_17) rfl rfl k) ?_
  obtain ⟨T13, X14, e15, st16⟩ := getF X10 hx hZ hown (host := "") (Or.inl (hw _ (List.mem_of_getElem? (i := 100) rfl))) Via.refl e11 FSv (g := mkF m 18 #[.val (.ref a), .val (.ref v'), .val (.int (0 : Int32)), .val (.int (0 : Int32))] [(.ref a), (.int (0 : Int32)), (.ref v'), (.int (0 : Int32)), (.ref sv)]) rfl rfl (hb hby own_d_jdk_42_method_147_code_18)
  refine OGoal.mp (S' := (T13.setTop (mkF m 21 #[.val (.ref a), .val (.ref v'), .val (.int (0 : Int32)), .val (.int (0 : Int32))] [(.ref sv), (.int (0 : Int32)), (.ref v'), (.int (0 : Int32)), (.ref sv)]))) (fun _ k => st16 _ k) ?_
  refine OGoal.mp (S' := (T13.setTop (mkF m 22 #[.val (.ref a), .val (.ref v'), .val (.int (0 : Int32)), .val (.int (0 : Int32))] [(.int (1 : Int32)), (.int (0 : Int32)), (.ref v'), (.int (0 : Int32)), (.ref sv)]))) (fun _ k => oLen X14 hx hZ e15 ASv (g := mkF m 21 #[.val (.ref a), .val (.ref v'), .val (.int (0 : Int32)), .val (.int (0 : Int32))] [(.ref sv), (.int (0 : Int32)), (.ref v'), (.int (0 : Int32)), (.ref sv)]) rfl rfl (hb hby own_d_jdk_42_method_147_code_21) k) ?_
  obtain ⟨T17, h21, L22, X18, e19, K23, A24, hL25, st20⟩ := oCopy X14 hx hZ hown (hw _ (List.mem_of_getElem? (i := 131) rfl)) (hw _ (List.mem_of_getElem? (i := 134) rfl)) (hw _ (List.mem_of_getElem? (i := 132) rfl)) (hw _ (List.mem_of_getElem? (i := 133) rfl)) e15 ASv A rfl (fun i _ => hsf i) (by decide) (by decide) (by decide) (by decide) (by decide) (g := mkF m 22 #[.val (.ref a), .val (.ref v'), .val (.int (0 : Int32)), .val (.int (0 : Int32))] [(.int (1 : Int32)), (.int (0 : Int32)), (.ref v'), (.int (0 : Int32)), (.ref sv)]) rfl (by rw [hml]; rfl) rfl (hb hby own_d_jdk_42_method_147_code_22) (by decide) (by show 2 * 0 + 0 + (7 + 11) ≤ _; decide)
  have N26 := Fr.app N8 (fun y hy => by rw [hL25 y hy]; exact abv : Fr n0 L22)
  have F27 := KZ.trans K23 (allS (Or.inr (Nat.le_trans hn0 abv)) all0)
  have F28 := (Low.refl n0 h0).keep K23 abv
  have K30 : Keep h0 h21 [v'] := (Keep.refl h0 [v']).trans K23 (allS (Or.inl (by simp)) all0)
  have Z31 : n0 ≤ h21.size := Nat.le_trans Z0 K23.1
  refine OGoal.mp (S' := (T17.setTop (mkF m 25 #[.val (.ref a), .val (.ref v'), .val (.int (0 : Int32)), .val (.int (0 : Int32))] []))) (fun _ k => st20 _ k) ?_
  refine OGoal.mp (S' := (T17.setTop (mkF m 43 #[.val (.ref a), .val (.ref v'), .val (.int (0 : Int32)), .val (.int (0 : Int32))] []))) (fun _ k => XS.goto X18.here hx rfl (pc0 := 25) (pc' := 43) rfl (hb hby own_d_jdk_42_method_147_code_25) (by decide) (by decide) k) ?_
  refine oRetV X18 hx hlk hret (hb hby own_d_jdk_42_method_147_code_43) ?_ (by decide) (by decide)
  rw [e19]; exact ⟨rfl, N26, K30, F27, _, A24, fun i => by (try dsimp only); split; exact hsf _; exact hgf _⟩
theorem own_d_jdk_68_method_73_code_0 : decode jdk_68_method_73_code 0 = .ok (.aload_n 0, 1) := by decide +kernel
theorem own_d_jdk_68_method_73_code_1 : decode jdk_68_method_73_code 1 = .ok (.aload_n 2, 1) := by decide +kernel
theorem own_d_jdk_68_method_73_code_2 : decode jdk_68_method_73_code 2 = .ok (.invokevirtual 397, 3) := by decide +kernel
theorem own_pd__Ljava_lang_String__V : parseMethodDescriptor "(Ljava/lang/String;)V" = some ⟨[(.object "java/lang/String")], none⟩ := by decide +kernel
theorem own_d_jdk_68_method_73_code_5 : decode jdk_68_method_73_code 5 = .ok (.aload_n 2, 1) := by decide +kernel
theorem own_d_jdk_68_method_73_code_6 : decode jdk_68_method_73_code 6 = .ok (.aload_n 0, 1) := by decide +kernel
theorem own_d_jdk_68_method_73_code_7 : decode jdk_68_method_73_code 7 = .ok (.getfield 15, 3) := by decide +kernel
theorem own_d_jdk_68_method_73_code_10 : decode jdk_68_method_73_code 10 = .ok (.iload_n 1, 1) := by decide +kernel
theorem own_d_jdk_68_method_73_code_11 : decode jdk_68_method_73_code 11 = .ok (.aload_n 0, 1) := by decide +kernel
theorem own_d_jdk_68_method_73_code_12 : decode jdk_68_method_73_code 12 = .ok (.getfield 22, 3) := by decide +kernel
theorem own_d_jdk_68_method_73_code_15 : decode jdk_68_method_73_code 15 = .ok (.invokevirtual 399, 3) := by decide +kernel
theorem own_pd___BIB_V : parseMethodDescriptor "([BIB)V" = some ⟨[(.array .byte), .int, .byte], none⟩ := by decide +kernel
theorem own_d_jdk_68_method_73_code_18 : decode jdk_68_method_73_code 18 = .ok (.return_, 1) := by decide +kernel
theorem own_ef_rmPS (x0 : Addr) (x1 : Int32) (x2 : Addr) (m : MethodId) : entryFrame m #[(.ref x0), (.int x1), (.ref x2)] 3 = mkF m 0 #[.val (.ref x0), .val (.int x1), .val (.ref x2)] [] := by first | (simp [entryFrame, mkF, argsToLocals, Value.category]; done) | rfl
set_option maxRecDepth 65536 in
set_option maxHeartbeats 40000000 in
theorem rmPS (l : Launch) (Z : State) (a0 : Array Value) (hw : ∀ d ∈ tables_1, d.before a0 Z = true) (sb a : Addr) (h0 : Heap) (n0 : Nat) (Z0 : n0 ≤ h0.size) (H : Heap) (fx : Addr) (hn0 : H.size ≤ n0) (cs : Int32) (hcs : ¬ cs = 0) (Scs : Sta Z H "java/lang/String" "COMPACT_STRINGS" "Z" (.int cs)) (dg : Addr) (Sdg : Sta Z H "java/lang/Integer" "DigitOnes" "[B" (.ref dg)) (df : Nat → Value) (Adg : OArr Z H dg .byte 100 df) (xd : Int32) (hdf : df (1 : Int32).toNatClampNeg = .int xd) (hxd : -128 ≤ xd.toInt ∧ xd.toInt < 128) (EF : Exa Z H fx "com/example/wildsolve/wildsolve/infer/Fresh") (nfd : dg ≠ fx) (KZ : Keep H h0 [fx]) (v' : Addr) (gf : Nat → Value) (E : Exa Z h0 sb "java/lang/StringBuilder") (Fv : Fld Z h0 sb "java/lang/AbstractStringBuilder" "value" "[B" (.ref v')) (Fc : Fld Z h0 sb "java/lang/AbstractStringBuilder" "coder" "B" (.int (0 : Int32))) (A : OArr Z h0 v' .byte 16 gf) (hgf : ∀ i, fits .byte (gf i) = true) (abv : n0 ≤ v') (sv : Addr) (sf : Nat → Value) (ES : Exa Z h0 a "java/lang/String") (FSv : Fld Z h0 a "java/lang/String" "value" "[B" (.ref sv)) (FSc : Fld Z h0 a "java/lang/String" "coder" "B" (.int (0 : Int32))) (ASv : OArr Z h0 sv .byte 1 sf) (hsf : ∀ i, fits .byte (sf i) = true)  :
    OCon l Z (⟨"java/lang/AbstractStringBuilder", "putStringAt", "(ILjava/lang/String;)V"⟩ : MethodName) jdk_68_method_73_code 3 none ({ frames := 2, cells := 0, slots := 0, locals := 33 } : Room) #[(.ref sb), (.int (0 : Int32)), (.ref a)] h0 (fun v h L => v = none ∧ Fr n0 L ∧ Keep h0 h [v'] ∧ Keep H h [fx] ∧ Vb Z h v') := by
  refine OConK.intro (y := (⟨"java/lang/AbstractStringBuilder", "putStringAt", "(ILjava/lang/String;)V"⟩ : MethodName)) (plainFor_of_name own_pn_java_lang_AbstractStringBuilder) (own_ef_rmPS sb (0 : Int32) a) ?_
  intro p e s m below meth c s₁ hx hby hml hown hnm hret hlk hZ X0 e0
  show OGoal p e below s _ _ _ (s₁.setTop (mkF m 0 #[.val (.ref sb), .val (.int (0 : Int32)), .val (.ref a)] []))
  refine OGoal.mp (S' := (s₁.setTop (mkF m 1 #[.val (.ref sb), .val (.int (0 : Int32)), .val (.ref a)] [(.ref sb)]))) (fun _ k => XS.aloadN X0.here hx rfl (hb hby own_d_jdk_68_method_73_code_0) rfl rfl k) ?_
  refine OGoal.mp (S' := (s₁.setTop (mkF m 2 #[.val (.ref sb), .val (.int (0 : Int32)), .val (.ref a)] [(.ref a), (.ref sb)]))) (fun _ k => XS.aloadN X0.here hx rfl (hb hby own_d_jdk_68_method_73_code_1) rfl rfl k) ?_
  refine oCallQ (y := (⟨"java/lang/AbstractStringBuilder", "inflateIfNeededFor", "(Ljava/lang/String;)V"⟩ : MethodName)) X0 hx hZ hown (hw _ (List.mem_of_getElem? (i := 120) rfl)) (hw _ (List.mem_of_getElem? (i := 123) rfl)) (hw _ (List.mem_of_getElem? (i := 121) rfl)) (hw _ (List.mem_of_getElem? (i := 122) rfl)) (hw _ (List.mem_of_getElem? (i := 69) rfl)) (hw _ (List.mem_of_getElem? (i := 124) rfl)) (by decide) (rmIF l Z a0 hw sb a h0 n0 Z0 H fx hn0 cs hcs Scs dg Sdg df Adg xd hdf hxd EF nfd KZ v' gf E Fv Fc A sv sf ES FSv FSc ASv hsf) e0 E [(.ref a)] [] rfl rfl (by rw [hml]; rfl) (lenOf own_pd__Ljava_lang_String__V rfl) 0 (Nat.le_of_eq rfl) (by decide) (by decide) (by decide) (by decide) (hb hby own_d_jdk_68_method_73_code_2) ?_
  intro v1 T2 L3 X4 q5
  obtain ⟨rfl, N6, e7⟩ := q5
  have N8 := Fr.app (Fr.nil n0) N6
  show OGoal p e below s _ _ _ (T2.setTop (mkF m 5 #[.val (.ref sb), .val (.int (0 : Int32)), .val (.ref a)] []))
  refine OGoal.mp (S' := (T2.setTop (mkF m 6 #[.val (.ref sb), .val (.int (0 : Int32)), .val (.ref a)] [(.ref a)]))) (fun _ k => XS.aloadN X4.here hx rfl (hb hby own_d_jdk_68_method_73_code_5) rfl rfl k) ?_
  refine OGoal.mp (S' := (T2.setTop (mkF m 7 #[.val (.ref sb), .val (.int (0 : Int32)), .val (.ref a)] [(.ref sb), (.ref a)]))) (fun _ k => XS.aloadN X4.here hx rfl (hb hby own_d_jdk_68_method_73_code_6) rfl rfl k) ?_
  obtain ⟨T9, X10, e11, st12⟩ := getF X4 hx hZ hown (host := "") (Or.inl (hw _ (List.mem_of_getElem? (i := 75) rfl))) Via.refl e7 Fv (g := mkF m 7 #[.val (.ref sb), .val (.int (0 : Int32)), .val (.ref a)] [(.ref sb), (.ref a)]) rfl rfl (hb hby own_d_jdk_68_method_73_code_7)
  refine OGoal.mp (S' := (T9.setTop (mkF m 10 #[.val (.ref sb), .val (.int (0 : Int32)), .val (.ref a)] [(.ref v'), (.ref a)]))) (fun _ k => st12 _ k) ?_
  refine OGoal.mp (S' := (T9.setTop (mkF m 11 #[.val (.ref sb), .val (.int (0 : Int32)), .val (.ref a)] [(.int (0 : Int32)), (.ref v'), (.ref a)]))) (fun _ k => XS.iloadN X10.here hx rfl (hb hby own_d_jdk_68_method_73_code_10) rfl k) ?_
  refine OGoal.mp (S' := (T9.setTop (mkF m 12 #[.val (.ref sb), .val (.int (0 : Int32)), .val (.ref a)] [(.ref sb), (.int (0 : Int32)), (.ref v'), (.ref a)]))) (fun _ k => XS.aloadN X10.here hx rfl (hb hby own_d_jdk_68_method_73_code_11) rfl rfl k) ?_
  obtain ⟨T13, X14, e15, st16⟩ := getF X10 hx hZ hown (host := "") (Or.inl (hw _ (List.mem_of_getElem? (i := 77) rfl))) Via.refl e11 Fc (g := mkF m 12 #[.val (.ref sb), .val (.int (0 : Int32)), .val (.ref a)] [(.ref sb), (.int (0 : Int32)), (.ref v'), (.ref a)]) rfl rfl (hb hby own_d_jdk_68_method_73_code_12)
  refine OGoal.mp (S' := (T13.setTop (mkF m 15 #[.val (.ref sb), .val (.int (0 : Int32)), .val (.ref a)] [(.int (0 : Int32)), (.int (0 : Int32)), (.ref v'), (.ref a)]))) (fun _ k => st16 _ k) ?_
  refine oCallV (y := (⟨"java/lang/String", "getBytes", "([BIB)V"⟩ : MethodName)) (z := (⟨"java/lang/String", "getBytes", "([BIB)V"⟩ : MethodName)) X14 hx hZ hown (hw _ (List.mem_of_getElem? (i := 126) rfl)) (hw _ (List.mem_of_getElem? (i := 127) rfl)) (hw _ (List.mem_of_getElem? (i := 129) rfl)) (hw _ (List.mem_of_getElem? (i := 128) rfl)) (hw _ (List.mem_of_getElem? (i := 73) rfl)) (hw _ (List.mem_of_getElem? (i := 130) rfl)) (by decide) (rmGB l Z a0 hw a v' h0 n0 Z0 H fx hn0 cs hcs Scs dg Sdg df Adg xd hdf hxd EF nfd KZ sv sf ES FSv FSc ASv hsf gf A hgf abv) e15 ES [(.ref v'), (.int (0 : Int32)), (.int (0 : Int32))] [] rfl rfl (by rw [hml]; rfl) (notFace_of_selects (args := #[]) (mvT hZ (hw _ (List.mem_of_getElem? (i := 129) rfl)))) (lenOf own_pd___BIB_V rfl) 0 (Nat.le_of_eq rfl) (by decide) (by decide) (by decide) (by decide) (hb hby own_d_jdk_68_method_73_code_15) ?_
  intro v17 T18 L19 X20 q21
  obtain ⟨rfl, Nq, r1⟩ := q21
  have Nr := Fr.app N8 Nq
  show OGoal p e below s _ _ _ (T18.setTop (mkF m 18 #[.val (.ref sb), .val (.int (0 : Int32)), .val (.ref a)] []))
  refine oRetV X20 hx hlk hret (hb hby own_d_jdk_68_method_73_code_18) ?_ (by decide) (by decide)
  exact ⟨rfl, Nr, r1⟩
theorem own_d_jdk_68_method_22_code_0 : decode jdk_68_method_22_code 0 = .ok (.aload_n 1, 1) := by decide +kernel
theorem own_d_jdk_68_method_22_code_1 : decode jdk_68_method_22_code 1 = .ok (.ifnonnull 8, 3) := by decide +kernel
theorem own_d_jdk_68_method_22_code_9 : decode jdk_68_method_22_code 9 = .ok (.aload_n 1, 1) := by decide +kernel
theorem own_d_jdk_68_method_22_code_10 : decode jdk_68_method_22_code 10 = .ok (.invokevirtual 32, 3) := by decide +kernel
theorem own_d_jdk_68_method_22_code_13 : decode jdk_68_method_22_code 13 = .ok (.istore_n 2, 1) := by decide +kernel
theorem own_d_jdk_68_method_22_code_14 : decode jdk_68_method_22_code 14 = .ok (.aload_n 0, 1) := by decide +kernel
theorem own_d_jdk_68_method_22_code_15 : decode jdk_68_method_22_code 15 = .ok (.aload_n 0, 1) := by decide +kernel
theorem own_d_jdk_68_method_22_code_16 : decode jdk_68_method_22_code 16 = .ok (.getfield 79, 3) := by decide +kernel
theorem own_d_jdk_68_method_22_code_19 : decode jdk_68_method_22_code 19 = .ok (.iload_n 2, 1) := by decide +kernel
theorem own_d_jdk_68_method_22_code_20 : decode jdk_68_method_22_code 20 = .ok (.iadd, 1) := by decide +kernel
theorem own_d_jdk_68_method_22_code_21 : decode jdk_68_method_22_code 21 = .ok (.invokevirtual 100, 3) := by decide +kernel
theorem own_d_jdk_68_method_22_code_24 : decode jdk_68_method_22_code 24 = .ok (.aload_n 0, 1) := by decide +kernel
theorem own_d_jdk_68_method_22_code_25 : decode jdk_68_method_22_code 25 = .ok (.aload_n 0, 1) := by decide +kernel
theorem own_d_jdk_68_method_22_code_26 : decode jdk_68_method_22_code 26 = .ok (.getfield 79, 3) := by decide +kernel
theorem own_d_jdk_68_method_22_code_29 : decode jdk_68_method_22_code 29 = .ok (.aload_n 1, 1) := by decide +kernel
theorem own_d_jdk_68_method_22_code_30 : decode jdk_68_method_22_code 30 = .ok (.invokevirtual 208, 3) := by decide +kernel
theorem own_pd__ILjava_lang_String__V : parseMethodDescriptor "(ILjava/lang/String;)V" = some ⟨[.int, (.object "java/lang/String")], none⟩ := by decide +kernel
theorem own_d_jdk_68_method_22_code_33 : decode jdk_68_method_22_code 33 = .ok (.aload_n 0, 1) := by decide +kernel
theorem own_d_jdk_68_method_22_code_34 : decode jdk_68_method_22_code 34 = .ok (.dup, 1) := by decide +kernel
theorem own_d_jdk_68_method_22_code_35 : decode jdk_68_method_22_code 35 = .ok (.getfield 79, 3) := by decide +kernel
theorem own_d_jdk_68_method_22_code_38 : decode jdk_68_method_22_code 38 = .ok (.iload_n 2, 1) := by decide +kernel
theorem own_d_jdk_68_method_22_code_39 : decode jdk_68_method_22_code 39 = .ok (.iadd, 1) := by decide +kernel
theorem own_d_jdk_68_method_22_code_40 : decode jdk_68_method_22_code 40 = .ok (.putfield 79, 3) := by decide +kernel
theorem own_d_jdk_68_method_22_code_43 : decode jdk_68_method_22_code 43 = .ok (.aload_n 0, 1) := by decide +kernel
theorem own_d_jdk_68_method_22_code_44 : decode jdk_68_method_22_code 44 = .ok (.areturn, 1) := by decide +kernel
theorem own_ef_rmAS (x0 : Addr) (x1 : Addr) (m : MethodId) : entryFrame m #[(.ref x0), (.ref x1)] 3 = mkF m 0 #[.val (.ref x0), .val (.ref x1), .unset] [] := by first | (simp [entryFrame, mkF, argsToLocals, Value.category]; done) | rfl
set_option maxRecDepth 65536 in
set_option maxHeartbeats 40000000 in
theorem rmAS (l : Launch) (Z : State) (a0 : Array Value) (hw : ∀ d ∈ tables_1, d.before a0 Z = true) (sb a : Addr) (h0 : Heap) (n0 : Nat) (Z0 : n0 ≤ h0.size) (H : Heap) (fx : Addr) (hn0 : H.size ≤ n0) (cs : Int32) (hcs : ¬ cs = 0) (Scs : Sta Z H "java/lang/String" "COMPACT_STRINGS" "Z" (.int cs)) (dg : Addr) (Sdg : Sta Z H "java/lang/Integer" "DigitOnes" "[B" (.ref dg)) (df : Nat → Value) (Adg : OArr Z H dg .byte 100 df) (xd : Int32) (hdf : df (1 : Int32).toNatClampNeg = .int xd) (hxd : -128 ≤ xd.toInt ∧ xd.toInt < 128) (EF : Exa Z H fx "com/example/wildsolve/wildsolve/infer/Fresh") (nfd : dg ≠ fx) (KZ : Keep H h0 [fx]) (hB : Bd Z h0 sb (0 : Int32) n0) (sv : Addr) (sf : Nat → Value) (ES : Exa Z h0 a "java/lang/String") (FSv : Fld Z h0 a "java/lang/String" "value" "[B" (.ref sv)) (FSc : Fld Z h0 a "java/lang/String" "coder" "B" (.int (0 : Int32))) (ASv : OArr Z h0 sv .byte 1 sf) (hsf : ∀ i, fits .byte (sf i) = true)  :
    OCon l Z (⟨"java/lang/AbstractStringBuilder", "append", "(Ljava/lang/String;)Ljava/lang/AbstractStringBuilder;"⟩ : MethodName) jdk_68_method_22_code 3 (some (.object "java/lang/AbstractStringBuilder")) ({ frames := 3, cells := 0, slots := 0, locals := 47 } : Room) #[(.ref sb), (.ref a)] h0 (fun v h L => v = some (.ref sb) ∧ Fr n0 L ∧ Keep H h [fx] ∧ Low n0 h0 h ∧ Bd Z h sb (1 : Int32) n0) := by
  refine OConK.intro (y := (⟨"java/lang/AbstractStringBuilder", "append", "(Ljava/lang/String;)Ljava/lang/AbstractStringBuilder;"⟩ : MethodName)) (plainFor_of_name own_pn_java_lang_AbstractStringBuilder) (own_ef_rmAS sb a) ?_
  intro p e s m below meth c s₁ hx hby hml hown hnm hret hlk hZ X0 e0
  obtain ⟨v1, gf2, E3, F4, F5, F6, A7, hg8, b9, b10⟩ := hB
  have nq11 := oNeA E3 (hw _ (List.mem_of_getElem? (i := 60) rfl)) A7
  show OGoal p e below s _ _ _ (s₁.setTop (mkF m 0 #[.val (.ref sb), .val (.ref a), .unset] []))
  refine OGoal.mp (S' := (s₁.setTop (mkF m 1 #[.val (.ref sb), .val (.ref a), .unset] [(.ref a)]))) (fun _ k => XS.aloadN X0.here hx rfl (hb hby own_d_jdk_68_method_22_code_0) rfl rfl k) ?_
  refine OGoal.mp (S' := (s₁.setTop (mkF m 9 #[.val (.ref sb), .val (.ref a), .unset] []))) (fun _ k => XT.ifnonnullYes X0.here hx rfl (pc0 := 1) (pc' := 9) rfl (hb hby own_d_jdk_68_method_22_code_1) rfl (by decide) (by decide) k) ?_
  refine OGoal.mp (S' := (s₁.setTop (mkF m 10 #[.val (.ref sb), .val (.ref a), .unset] [(.ref a)]))) (fun _ k => XS.aloadN X0.here hx rfl (hb hby own_d_jdk_68_method_22_code_9) rfl rfl k) ?_
  refine oCallV (y := (⟨"java/lang/String", "length", "()I"⟩ : MethodName)) (z := (⟨"java/lang/String", "length", "()I"⟩ : MethodName)) X0 hx hZ hown (hw _ (List.mem_of_getElem? (i := 95) rfl)) (hw _ (List.mem_of_getElem? (i := 96) rfl)) (hw _ (List.mem_of_getElem? (i := 98) rfl)) (hw _ (List.mem_of_getElem? (i := 97) rfl)) (hw _ (List.mem_of_getElem? (i := 73) rfl)) (hw _ (List.mem_of_getElem? (i := 99) rfl)) (by decide) (rmLn l Z a0 hw a h0 n0 Z0 H fx hn0 cs hcs Scs dg Sdg df Adg xd hdf hxd EF nfd KZ sv sf ES FSv FSc ASv hsf) e0 ES [] [] rfl rfl (by rw [hml]; rfl) (notFace_of_selects (args := #[]) (mvT hZ (hw _ (List.mem_of_getElem? (i := 98) rfl)))) (lenOf own_pd___I rfl) 0 (Nat.le_of_eq rfl) (by decide) (by decide) (by decide) (by decide) (hb hby own_d_jdk_68_method_22_code_10) ?_
  intro v12 T13 L14 X15 q16
  obtain ⟨rfl, N17, e18⟩ := q16
  have N19 := Fr.app (Fr.nil n0) N17
  show OGoal p e below s _ _ _ (T13.setTop (mkF m 13 #[.val (.ref sb), .val (.ref a), .unset] [(.int (1 : Int32))]))
  refine OGoal.mp (S' := (T13.setTop (mkF m 14 #[.val (.ref sb), .val (.ref a), .val (.int (1 : Int32))] []))) (fun _ k => XS.istoreN X15.here hx rfl (hb hby own_d_jdk_68_method_22_code_13) rfl (l' := #[.val (.ref sb), .val (.ref a), .val (.int (1 : Int32))]) rfl k) ?_
  refine OGoal.mp (S' := (T13.setTop (mkF m 15 #[.val (.ref sb), .val (.ref a), .val (.int (1 : Int32))] [(.ref sb)]))) (fun _ k => XS.aloadN X15.here hx rfl (hb hby own_d_jdk_68_method_22_code_14) rfl rfl k) ?_
  refine OGoal.mp (S' := (T13.setTop (mkF m 16 #[.val (.ref sb), .val (.ref a), .val (.int (1 : Int32))] [(.ref sb), (.ref sb)]))) (fun _ k => XS.aloadN X15.here hx rfl (hb hby own_d_jdk_68_method_22_code_15) rfl rfl k) ?_
  obtain ⟨T20, X21, e22, st23⟩ := getF X15 hx hZ hown (host := "") (Or.inl (hw _ (List.mem_of_getElem? (i := 108) rfl))) Via.refl e18 F6 (g := mkF m 16 #[.val (.ref sb), .val (.ref a), .val (.int (1 : Int32))] [(.ref sb), (.ref sb)]) rfl rfl (hb hby own_d_jdk_68_method_22_code_16)
  refine OGoal.mp (S' := (T20.setTop (mkF m 19 #[.val (.ref sb), .val (.ref a), .val (.int (1 : Int32))] [(.int (0 : Int32)), (.ref sb)]))) (fun _ k => st23 _ k) ?_
  refine OGoal.mp (S' := (T20.setTop (mkF m 20 #[.val (.ref sb), .val (.ref a), .val (.int (1 : Int32))] [(.int (1 : Int32)), (.int (0 : Int32)), (.ref sb)]))) (fun _ k => XS.iloadN X21.here hx rfl (hb hby own_d_jdk_68_method_22_code_19) rfl k) ?_
  refine OGoal.mp (S' := (T20.setTop (mkF m 21 #[.val (.ref sb), .val (.ref a), .val (.int (1 : Int32))] [(.int ((0 : Int32) + (1 : Int32))), (.ref sb)]))) (fun _ k => XS.iadd X21.here hx rfl (hb hby own_d_jdk_68_method_22_code_20) rfl k) ?_
  rw [show ((0 : Int32) + (1 : Int32)) = (1 : Int32) by decide]
  show OGoal p e below s _ _ _ (T20.setTop (mkF m 21 #[.val (.ref sb), .val (.ref a), .val (.int (1 : Int32))] [(.int (1 : Int32)), (.ref sb)]))
  refine oCallQ (y := (⟨"java/lang/AbstractStringBuilder", "ensureCapacityInternal", "(I)V"⟩ : MethodName)) X21 hx hZ hown (hw _ (List.mem_of_getElem? (i := 110) rfl)) (hw _ (List.mem_of_getElem? (i := 113) rfl)) (hw _ (List.mem_of_getElem? (i := 111) rfl)) (hw _ (List.mem_of_getElem? (i := 112) rfl)) (hw _ (List.mem_of_getElem? (i := 69) rfl)) (hw _ (List.mem_of_getElem? (i := 114) rfl)) (by decide) (rmEC1 l Z a0 hw sb h0 n0 Z0 v1 gf2 E3 F4 F5 A7) e22 E3 [(.int (1 : Int32))] [] rfl rfl (by rw [hml]; rfl) (lenOf own_pd__I_V rfl) 0 (Nat.le_of_eq rfl) (by decide) (by decide) (by decide) (by decide) (hb hby own_d_jdk_68_method_22_code_21) ?_
  intro v24 T25 L26 X27 q28
  obtain ⟨rfl, N29, e30⟩ := q28
  have N31 := Fr.app N19 N29
  show OGoal p e below s _ _ _ (T25.setTop (mkF m 24 #[.val (.ref sb), .val (.ref a), .val (.int (1 : Int32))] []))
  refine OGoal.mp (S' := (T25.setTop (mkF m 25 #[.val (.ref sb), .val (.ref a), .val (.int (1 : Int32))] [(.ref sb)]))) (fun _ k => XS.aloadN X27.here hx rfl (hb hby own_d_jdk_68_method_22_code_24) rfl rfl k) ?_
  refine OGoal.mp (S' := (T25.setTop (mkF m 26 #[.val (.ref sb), .val (.ref a), .val (.int (1 : Int32))] [(.ref sb), (.ref sb)]))) (fun _ k => XS.aloadN X27.here hx rfl (hb hby own_d_jdk_68_method_22_code_25) rfl rfl k) ?_
  obtain ⟨T32, X33, e34, st35⟩ := getF X27 hx hZ hown (host := "") (Or.inl (hw _ (List.mem_of_getElem? (i := 108) rfl))) Via.refl e30 F6 (g := mkF m 26 #[.val (.ref sb), .val (.ref a), .val (.int (1 : Int32))] [(.ref sb), (.ref sb)]) rfl rfl (hb hby own_d_jdk_68_method_22_code_26)
  refine OGoal.mp (S' := (T32.setTop (mkF m 29 #[.val (.ref sb), .val (.ref a), .val (.int (1 : Int32))] [(.int (0 : Int32)), (.ref sb)]))) (fun _ k => st35 _ k) ?_
  refine OGoal.mp (S' := (T32.setTop (mkF m 30 #[.val (.ref sb), .val (.ref a), .val (.int (1 : Int32))] [(.ref a), (.int (0 : Int32)), (.ref sb)]))) (fun _ k => XS.aloadN X33.here hx rfl (hb hby own_d_jdk_68_method_22_code_29) rfl rfl k) ?_
  refine oCallQ (y := (⟨"java/lang/AbstractStringBuilder", "putStringAt", "(ILjava/lang/String;)V"⟩ : MethodName)) X33 hx hZ hown (hw _ (List.mem_of_getElem? (i := 115) rfl)) (hw _ (List.mem_of_getElem? (i := 118) rfl)) (hw _ (List.mem_of_getElem? (i := 116) rfl)) (hw _ (List.mem_of_getElem? (i := 117) rfl)) (hw _ (List.mem_of_getElem? (i := 69) rfl)) (hw _ (List.mem_of_getElem? (i := 119) rfl)) (by decide) (rmPS l Z a0 hw sb a h0 n0 Z0 H fx hn0 cs hcs Scs dg Sdg df Adg xd hdf hxd EF nfd KZ v1 gf2 E3 F4 F5 A7 hg8 b10 sv sf ES FSv FSc ASv hsf) e34 E3 [(.int (0 : Int32)), (.ref a)] [] rfl rfl (by rw [hml]; rfl) (lenOf own_pd__ILjava_lang_String__V rfl) 0 (Nat.le_of_eq rfl) (by decide) (by decide) (by decide) (by decide) (hb hby own_d_jdk_68_method_22_code_30) ?_
  intro v36 T37 L38 X39 q40
  obtain ⟨rfl, N41, K42, K43, V44⟩ := q40
  have N45 := Fr.app N31 N41
  obtain ⟨gf46, A47, hg48⟩ := V44
  have Lw49 := (Low.refl n0 h0).keep K42 b10
  have F50 := E3.keep K42
  have F51 := F4.keep K42 (ninS nq11 nin0)
  have F52 := F5.keep K42 (ninS nq11 nin0)
  have F53 := F6.keep K42 (ninS nq11 nin0)
  have Z54 : n0 ≤ T37.heap.size := Nat.le_trans Z0 K42.1
  show OGoal p e below s _ _ _ (T37.setTop (mkF m 33 #[.val (.ref sb), .val (.ref a), .val (.int (1 : Int32))] []))
  refine OGoal.mp (S' := (T37.setTop (mkF m 34 #[.val (.ref sb), .val (.ref a), .val (.int (1 : Int32))] [(.ref sb)]))) (fun _ k => XS.aloadN X39.here hx rfl (hb hby own_d_jdk_68_method_22_code_33) rfl rfl k) ?_
  refine OGoal.mp (S' := (T37.setTop (mkF m 35 #[.val (.ref sb), .val (.ref a), .val (.int (1 : Int32))] [(.ref sb), (.ref sb)]))) (fun _ k => XS.dup X39.here hx rfl (hb hby own_d_jdk_68_method_22_code_34) rfl rfl k) ?_
  obtain ⟨T55, X56, e57, st58⟩ := getF X39 hx hZ hown (host := "") (Or.inl (hw _ (List.mem_of_getElem? (i := 108) rfl))) Via.refl rfl F53 (g := mkF m 35 #[.val (.ref sb), .val (.ref a), .val (.int (1 : Int32))] [(.ref sb), (.ref sb)]) rfl rfl (hb hby own_d_jdk_68_method_22_code_35)
  refine OGoal.mp (S' := (T55.setTop (mkF m 38 #[.val (.ref sb), .val (.ref a), .val (.int (1 : Int32))] [(.int (0 : Int32)), (.ref sb)]))) (fun _ k => st58 _ k) ?_
  refine OGoal.mp (S' := (T55.setTop (mkF m 39 #[.val (.ref sb), .val (.ref a), .val (.int (1 : Int32))] [(.int (1 : Int32)), (.int (0 : Int32)), (.ref sb)]))) (fun _ k => XS.iloadN X56.here hx rfl (hb hby own_d_jdk_68_method_22_code_38) rfl k) ?_
  refine OGoal.mp (S' := (T55.setTop (mkF m 40 #[.val (.ref sb), .val (.ref a), .val (.int (1 : Int32))] [(.int ((0 : Int32) + (1 : Int32))), (.ref sb)]))) (fun _ k => XS.iadd X56.here hx rfl (hb hby own_d_jdk_68_method_22_code_39) rfl k) ?_
  rw [show ((0 : Int32) + (1 : Int32)) = (1 : Int32) by decide]
  show OGoal p e below s _ _ _ (T55.setTop (mkF m 40 #[.val (.ref sb), .val (.ref a), .val (.int (1 : Int32))] [(.int (1 : Int32)), (.ref sb)]))
  obtain ⟨T59, h63, X60, e61, W64, st62⟩ := putF X56 hx hZ hown (host := "") (Or.inl (hw _ (List.mem_of_getElem? (i := 108) rfl))) Via.refl e57 F53 F50 (Or.inl (hw _ (List.mem_of_getElem? (i := 109) rfl))) (hw _ (List.mem_of_getElem? (i := 60) rfl)) (ty := .int) (by decide) rfl rfl (g := mkF m 40 #[.val (.ref sb), .val (.ref a), .val (.int (1 : Int32))] [(.int (1 : Int32)), (.ref sb)]) rfl rfl (hb hby own_d_jdk_68_method_22_code_40)
  have N65 := Fr.snoc X60 N45 b9
  have Z66 : n0 ≤ h63.size := Nat.le_trans Z54 (Keep.of_wr W64).1
  have F67 := K43.wr W64 (Or.inr (Nat.le_trans hn0 b9))
  have F68 := Lw49.keep (Keep.of_wr W64) b9
  have F69 := F50.wr W64
  have F70 := F51.other W64 (Or.inr (slot_ne (a0 := a0) (C := "java/lang/StringBuilder") (t := (.array .byte)) (t' := .int) (Or.inl (hw _ (List.mem_of_getElem? (i := 76) rfl))) (Or.inl (hw _ (List.mem_of_getElem? (i := 109) rfl))) (by decide) (by decide) (by decide)))
  have F71 := F52.other W64 (Or.inr (slot_ne (a0 := a0) (C := "java/lang/StringBuilder") (t := .byte) (t' := .int) (Or.inl (hw _ (List.mem_of_getElem? (i := 78) rfl))) (Or.inl (hw _ (List.mem_of_getElem? (i := 109) rfl))) (by decide) (by decide) (by decide)))
  have F72 := F53.same W64
  have F73 := A47.other W64 nq11.symm
  refine OGoal.mp (S' := (T59.setTop (mkF m 43 #[.val (.ref sb), .val (.ref a), .val (.int (1 : Int32))] []))) (fun _ k => st62 _ k) ?_
  refine OGoal.mp (S' := (T59.setTop (mkF m 44 #[.val (.ref sb), .val (.ref a), .val (.int (1 : Int32))] [(.ref sb)]))) (fun _ k => XS.aloadN X60.here hx rfl (hb hby own_d_jdk_68_method_22_code_43) rfl rfl k) ?_
  refine oRetA X60 hx hlk hret rfl rfl (hb hby own_d_jdk_68_method_22_code_44) ?_ (by decide) (by decide)
  rw [e61]; exact ⟨rfl, N65, F67, F68, ⟨v1, _, F69, F70, F71, F72, F73, hg48, b9, b10⟩⟩
theorem own_d_jdk_67_method_7_code_0 : decode jdk_67_method_7_code 0 = .ok (.aload_n 0, 1) := by decide +kernel
theorem own_d_jdk_67_method_7_code_1 : decode jdk_67_method_7_code 1 = .ok (.aload_n 1, 1) := by decide +kernel
theorem own_d_jdk_67_method_7_code_2 : decode jdk_67_method_7_code 2 = .ok (.invokespecial 29, 3) := by decide +kernel
theorem own_pd__Ljava_lang_String__Ljava_lang_AbstractStringBuilder_ : parseMethodDescriptor "(Ljava/lang/String;)Ljava/lang/AbstractStringBuilder;" = some ⟨[(.object "java/lang/String")], some (.object "java/lang/AbstractStringBuilder")⟩ := by decide +kernel
theorem own_d_jdk_67_method_7_code_5 : decode jdk_67_method_7_code 5 = .ok (.pop, 1) := by decide +kernel
theorem own_d_jdk_67_method_7_code_6 : decode jdk_67_method_7_code 6 = .ok (.aload_n 0, 1) := by decide +kernel
theorem own_d_jdk_67_method_7_code_7 : decode jdk_67_method_7_code 7 = .ok (.areturn, 1) := by decide +kernel
theorem own_ef_rmSA (x0 : Addr) (x1 : Addr) (m : MethodId) : entryFrame m #[(.ref x0), (.ref x1)] 2 = mkF m 0 #[.val (.ref x0), .val (.ref x1)] [] := by first | (simp [entryFrame, mkF, argsToLocals, Value.category]; done) | rfl
set_option maxRecDepth 65536 in
set_option maxHeartbeats 40000000 in
theorem rmSA (l : Launch) (Z : State) (a0 : Array Value) (hw : ∀ d ∈ tables_1, d.before a0 Z = true) (sb a : Addr) (h0 : Heap) (n0 : Nat) (Z0 : n0 ≤ h0.size) (H : Heap) (fx : Addr) (hn0 : H.size ≤ n0) (cs : Int32) (hcs : ¬ cs = 0) (Scs : Sta Z H "java/lang/String" "COMPACT_STRINGS" "Z" (.int cs)) (dg : Addr) (Sdg : Sta Z H "java/lang/Integer" "DigitOnes" "[B" (.ref dg)) (df : Nat → Value) (Adg : OArr Z H dg .byte 100 df) (xd : Int32) (hdf : df (1 : Int32).toNatClampNeg = .int xd) (hxd : -128 ≤ xd.toInt ∧ xd.toInt < 128) (EF : Exa Z H fx "com/example/wildsolve/wildsolve/infer/Fresh") (nfd : dg ≠ fx) (KZ : Keep H h0 [fx]) (hB : Bd Z h0 sb (0 : Int32) n0) (sv : Addr) (sf : Nat → Value) (ES : Exa Z h0 a "java/lang/String") (FSv : Fld Z h0 a "java/lang/String" "value" "[B" (.ref sv)) (FSc : Fld Z h0 a "java/lang/String" "coder" "B" (.int (0 : Int32))) (ASv : OArr Z h0 sv .byte 1 sf) (hsf : ∀ i, fits .byte (sf i) = true)  :
    OCon l Z (⟨"java/lang/StringBuilder", "append", "(Ljava/lang/String;)Ljava/lang/StringBuilder;"⟩ : MethodName) jdk_67_method_7_code 2 (some (.object "java/lang/StringBuilder")) ({ frames := 4, cells := 0, slots := 0, locals := 61 } : Room) #[(.ref sb), (.ref a)] h0 (fun v h L => v = some (.ref sb) ∧ Fr n0 L ∧ Keep H h [fx] ∧ Low n0 h0 h ∧ Bd Z h sb (1 : Int32) n0) := by
  refine OConK.intro (y := (⟨"java/lang/StringBuilder", "append", "(Ljava/lang/String;)Ljava/lang/StringBuilder;"⟩ : MethodName)) (plainFor_of_name own_pn_java_lang_StringBuilder) (own_ef_rmSA sb a) ?_
  intro p e s m below meth c s₁ hx hby hml hown hnm hret hlk hZ X0 e0
  show OGoal p e below s _ _ _ (s₁.setTop (mkF m 0 #[.val (.ref sb), .val (.ref a)] []))
  refine OGoal.mp (S' := (s₁.setTop (mkF m 1 #[.val (.ref sb), .val (.ref a)] [(.ref sb)]))) (fun _ k => XS.aloadN X0.here hx rfl (hb hby own_d_jdk_67_method_7_code_0) rfl rfl k) ?_
  refine OGoal.mp (S' := (s₁.setTop (mkF m 2 #[.val (.ref sb), .val (.ref a)] [(.ref a), (.ref sb)]))) (fun _ k => XS.aloadN X0.here hx rfl (hb hby own_d_jdk_67_method_7_code_1) rfl rfl k) ?_
  refine oCallU (y := (⟨"java/lang/AbstractStringBuilder", "append", "(Ljava/lang/String;)Ljava/lang/AbstractStringBuilder;"⟩ : MethodName)) (y0 := (⟨"java/lang/AbstractStringBuilder", "ensureCapacityInternal", "(I)V"⟩ : MethodName)) X0 hx hZ (by decide) rfl hown (hw _ (List.mem_of_getElem? (i := 90) rfl)) (hw _ (List.mem_of_getElem? (i := 113) rfl)) (hw _ (List.mem_of_getElem? (i := 91) rfl)) (hw _ (List.mem_of_getElem? (i := 92) rfl)) (hw _ (List.mem_of_getElem? (i := 69) rfl)) (hw _ (List.mem_of_getElem? (i := 94) rfl)) (by decide) (rmAS l Z a0 hw sb a h0 n0 Z0 H fx hn0 cs hcs Scs dg Sdg df Adg xd hdf hxd EF nfd KZ hB sv sf ES FSv FSc ASv hsf) e0 hB.exa [(.ref a)] [] rfl rfl (by rw [hml]; rfl) (lenOf own_pd__Ljava_lang_String__Ljava_lang_AbstractStringBuilder_ rfl) 0 (Nat.le_of_eq rfl) (by decide) (by decide) (by decide) (by decide) (hb hby own_d_jdk_67_method_7_code_2) ?_
  intro v1 T2 L3 X4 q5
  obtain ⟨rfl, N6, K7, Lw8, B9⟩ := q5
  have N10 := Fr.app (Fr.nil n0) N6
  have Lw12 := (Low.refl n0 h0).trans Lw8
  have Z11 := B9.sz
  show OGoal p e below s _ _ _ (T2.setTop (mkF m 5 #[.val (.ref sb), .val (.ref a)] [(.ref sb)]))
  refine OGoal.mp (S' := (T2.setTop (mkF m 6 #[.val (.ref sb), .val (.ref a)] []))) (fun _ k => XT.pop X4.here hx rfl (hb hby own_d_jdk_67_method_7_code_5) rfl rfl k) ?_
  refine OGoal.mp (S' := (T2.setTop (mkF m 7 #[.val (.ref sb), .val (.ref a)] [(.ref sb)]))) (fun _ k => XS.aloadN X4.here hx rfl (hb hby own_d_jdk_67_method_7_code_6) rfl rfl k) ?_
  refine oRetA X4 hx hlk hret rfl rfl (hb hby own_d_jdk_67_method_7_code_7) ?_ (by decide) (by decide)
  exact ⟨rfl, N10, K7, Lw12, B9⟩
theorem own_d_jdk_33_method_13_code_0 : decode jdk_33_method_13_code 0 = .ok (.iconst 1, 1) := by decide +kernel
theorem own_d_jdk_33_method_13_code_1 : decode jdk_33_method_13_code 1 = .ok (.istore_n 1, 1) := by decide +kernel
theorem own_d_jdk_33_method_13_code_2 : decode jdk_33_method_13_code 2 = .ok (.iload_n 0, 1) := by decide +kernel
theorem own_d_jdk_33_method_13_code_3 : decode jdk_33_method_13_code 3 = .ok (.ifCond .lt 8, 3) := by decide +kernel
theorem own_d_jdk_33_method_13_code_6 : decode jdk_33_method_13_code 6 = .ok (.iconst 0, 1) := by decide +kernel
theorem own_d_jdk_33_method_13_code_7 : decode jdk_33_method_13_code 7 = .ok (.istore_n 1, 1) := by decide +kernel
theorem own_d_jdk_33_method_13_code_8 : decode jdk_33_method_13_code 8 = .ok (.iload_n 0, 1) := by decide +kernel
theorem own_d_jdk_33_method_13_code_9 : decode jdk_33_method_13_code 9 = .ok (.ineg, 1) := by decide +kernel
theorem own_d_jdk_33_method_13_code_10 : decode jdk_33_method_13_code 10 = .ok (.istore_n 0, 1) := by decide +kernel
theorem own_d_jdk_33_method_13_code_11 : decode jdk_33_method_13_code 11 = .ok (.bipush (-10), 2) := by decide +kernel
theorem own_d_jdk_33_method_13_code_13 : decode jdk_33_method_13_code 13 = .ok (.istore_n 2, 1) := by decide +kernel
theorem own_d_jdk_33_method_13_code_14 : decode jdk_33_method_13_code 14 = .ok (.iconst 1, 1) := by decide +kernel
theorem own_d_jdk_33_method_13_code_15 : decode jdk_33_method_13_code 15 = .ok (.istore_n 3, 1) := by decide +kernel
theorem own_d_jdk_33_method_13_code_16 : decode jdk_33_method_13_code 16 = .ok (.iload_n 3, 1) := by decide +kernel
theorem own_d_jdk_33_method_13_code_17 : decode jdk_33_method_13_code 17 = .ok (.bipush 10, 2) := by decide +kernel
theorem own_d_jdk_33_method_13_code_19 : decode jdk_33_method_13_code 19 = .ok (.if_icmp .ge 23, 3) := by decide +kernel
theorem own_d_jdk_33_method_13_code_22 : decode jdk_33_method_13_code 22 = .ok (.iload_n 0, 1) := by decide +kernel
theorem own_d_jdk_33_method_13_code_23 : decode jdk_33_method_13_code 23 = .ok (.iload_n 2, 1) := by decide +kernel
theorem own_d_jdk_33_method_13_code_24 : decode jdk_33_method_13_code 24 = .ok (.if_icmp .le 7, 3) := by decide +kernel
theorem own_d_jdk_33_method_13_code_27 : decode jdk_33_method_13_code 27 = .ok (.iload_n 3, 1) := by decide +kernel
theorem own_d_jdk_33_method_13_code_28 : decode jdk_33_method_13_code 28 = .ok (.iload_n 1, 1) := by decide +kernel
theorem own_d_jdk_33_method_13_code_29 : decode jdk_33_method_13_code 29 = .ok (.iadd, 1) := by decide +kernel
theorem own_d_jdk_33_method_13_code_30 : decode jdk_33_method_13_code 30 = .ok (.ireturn, 1) := by decide +kernel
theorem own_pn_java_lang_Integer : plainName "java/lang/Integer" = true := by first | (simp [plainName, overriddenIn]; done) | decide +kernel
theorem own_ef_rmSS (x0 : Int32) (m : MethodId) : entryFrame m #[(.int x0)] 4 = mkF m 0 #[.val (.int x0), .unset, .unset, .unset] [] := by first | (simp [entryFrame, mkF, argsToLocals, Value.category]; done) | rfl
set_option maxRecDepth 65536 in
set_option maxHeartbeats 40000000 in
theorem rmSS (l : Launch) (Z : State) (a0 : Array Value) (hw : ∀ d ∈ tables_1, d.before a0 Z = true)  (h0 : Heap) (n0 : Nat) (Z0 : n0 ≤ h0.size)  :
    OCon l Z (⟨"java/lang/Integer", "stringSize", "(I)I"⟩ : MethodName) jdk_33_method_13_code 4 (some .int) ({ frames := 0, cells := 0, slots := 0, locals := 0 } : Room) #[(.int (1 : Int32))] h0 (fun v h L => v = some (.int (1 : Int32)) ∧ Fr n0 L ∧ h = h0) := by
  refine OConK.intro (y := (⟨"java/lang/Integer", "stringSize", "(I)I"⟩ : MethodName)) (plainFor_of_name own_pn_java_lang_Integer) (own_ef_rmSS (1 : Int32)) ?_
  intro p e s m below meth c s₁ hx hby hml hown hnm hret hlk hZ X0 e0
  show OGoal p e below s _ _ _ (s₁.setTop (mkF m 0 #[.val (.int (1 : Int32)), .unset, .unset, .unset] []))
  refine OGoal.mp (S' := (s₁.setTop (mkF m 1 #[.val (.int (1 : Int32)), .unset, .unset, .unset] [(.int (1 : Int32))]))) (fun _ k => XS.iconst X0.here hx rfl (hb hby own_d_jdk_33_method_13_code_0) k) ?_
  refine OGoal.mp (S' := (s₁.setTop (mkF m 2 #[.val (.int (1 : Int32)), .val (.int (1 : Int32)), .unset, .unset] []))) (fun _ k => XS.istoreN X0.here hx rfl (hb hby own_d_jdk_33_method_13_code_1) rfl (l' := #[.val (.int (1 : Int32)), .val (.int (1 : Int32)), .unset, .unset]) rfl k) ?_
  refine OGoal.mp (S' := (s₁.setTop (mkF m 3 #[.val (.int (1 : Int32)), .val (.int (1 : Int32)), .unset, .unset] [(.int (1 : Int32))]))) (fun _ k => XS.iloadN X0.here hx rfl (hb hby own_d_jdk_33_method_13_code_2) rfl k) ?_
  refine OGoal.mp (S' := (s₁.setTop (mkF m 6 #[.val (.int (1 : Int32)), .val (.int (1 : Int32)), .unset, .unset] []))) (fun _ k => XS.ifNo X0.here hx rfl (hb hby own_d_jdk_33_method_13_code_3) rfl (XT.i0_lt_f (by decide)) k) ?_
  refine OGoal.mp (S' := (s₁.setTop (mkF m 7 #[.val (.int (1 : Int32)), .val (.int (1 : Int32)), .unset, .unset] [(.int (0 : Int32))]))) (fun _ k => XS.iconst X0.here hx rfl (hb hby own_d_jdk_33_method_13_code_6) k) ?_
  refine OGoal.mp (S' := (s₁.setTop (mkF m 8 #[.val (.int (1 : Int32)), .val (.int (0 : Int32)), .unset, .unset] []))) (fun _ k => XS.istoreN X0.here hx rfl (hb hby own_d_jdk_33_method_13_code_7) rfl (l' := #[.val (.int (1 : Int32)), .val (.int (0 : Int32)), .unset, .unset]) rfl k) ?_
  refine OGoal.mp (S' := (s₁.setTop (mkF m 9 #[.val (.int (1 : Int32)), .val (.int (0 : Int32)), .unset, .unset] [(.int (1 : Int32))]))) (fun _ k => XS.iloadN X0.here hx rfl (hb hby own_d_jdk_33_method_13_code_8) rfl k) ?_
  refine OGoal.mp (S' := (s₁.setTop (mkF m 10 #[.val (.int (1 : Int32)), .val (.int (0 : Int32)), .unset, .unset] [(.int (-(1 : Int32)))]))) (fun _ k => XS.ineg X0.here hx rfl (hb hby own_d_jdk_33_method_13_code_9) rfl k) ?_
  rw [show (-(1 : Int32)) = (-1 : Int32) by decide]
  show OGoal p e below s _ _ _ (s₁.setTop (mkF m 10 #[.val (.int (1 : Int32)), .val (.int (0 : Int32)), .unset, .unset] [(.int (-1 : Int32))]))
  refine OGoal.mp (S' := (s₁.setTop (mkF m 11 #[.val (.int (-1 : Int32)), .val (.int (0 : Int32)), .unset, .unset] []))) (fun _ k => XS.istoreN X0.here hx rfl (hb hby own_d_jdk_33_method_13_code_10) rfl (l' := #[.val (.int (-1 : Int32)), .val (.int (0 : Int32)), .unset, .unset]) rfl k) ?_
  refine OGoal.mp (S' := (s₁.setTop (mkF m 13 #[.val (.int (-1 : Int32)), .val (.int (0 : Int32)), .unset, .unset] [(.int (-10 : Int32))]))) (fun _ k => XS.bipush X0.here hx rfl (hb hby own_d_jdk_33_method_13_code_11) k) ?_
  refine OGoal.mp (S' := (s₁.setTop (mkF m 14 #[.val (.int (-1 : Int32)), .val (.int (0 : Int32)), .val (.int (-10 : Int32)), .unset] []))) (fun _ k => XS.istoreN X0.here hx rfl (hb hby own_d_jdk_33_method_13_code_13) rfl (l' := #[.val (.int (-1 : Int32)), .val (.int (0 : Int32)), .val (.int (-10 : Int32)), .unset]) rfl k) ?_
  refine OGoal.mp (S' := (s₁.setTop (mkF m 15 #[.val (.int (-1 : Int32)), .val (.int (0 : Int32)), .val (.int (-10 : Int32)), .unset] [(.int (1 : Int32))]))) (fun _ k => XS.iconst X0.here hx rfl (hb hby own_d_jdk_33_method_13_code_14) k) ?_
  refine OGoal.mp (S' := (s₁.setTop (mkF m 16 #[.val (.int (-1 : Int32)), .val (.int (0 : Int32)), .val (.int (-10 : Int32)), .val (.int (1 : Int32))] []))) (fun _ k => XS.istoreN X0.here hx rfl (hb hby own_d_jdk_33_method_13_code_15) rfl (l' := #[.val (.int (-1 : Int32)), .val (.int (0 : Int32)), .val (.int (-10 : Int32)), .val (.int (1 : Int32))]) rfl k) ?_
  refine OGoal.mp (S' := (s₁.setTop (mkF m 17 #[.val (.int (-1 : Int32)), .val (.int (0 : Int32)), .val (.int (-10 : Int32)), .val (.int (1 : Int32))] [(.int (1 : Int32))]))) (fun _ k => XS.iloadN X0.here hx rfl (hb hby own_d_jdk_33_method_13_code_16) rfl k) ?_
  refine OGoal.mp (S' := (s₁.setTop (mkF m 19 #[.val (.int (-1 : Int32)), .val (.int (0 : Int32)), .val (.int (-10 : Int32)), .val (.int (1 : Int32))] [(.int (10 : Int32)), (.int (1 : Int32))]))) (fun _ k => XS.bipush X0.here hx rfl (hb hby own_d_jdk_33_method_13_code_17) k) ?_
  refine OGoal.mp (S' := (s₁.setTop (mkF m 22 #[.val (.int (-1 : Int32)), .val (.int (0 : Int32)), .val (.int (-10 : Int32)), .val (.int (1 : Int32))] []))) (fun _ k => XS.icmpNo X0.here hx rfl (hb hby own_d_jdk_33_method_13_code_19) rfl (XT.ii_ge_f (by decide)) k) ?_
  refine OGoal.mp (S' := (s₁.setTop (mkF m 23 #[.val (.int (-1 : Int32)), .val (.int (0 : Int32)), .val (.int (-10 : Int32)), .val (.int (1 : Int32))] [(.int (-1 : Int32))]))) (fun _ k => XS.iloadN X0.here hx rfl (hb hby own_d_jdk_33_method_13_code_22) rfl k) ?_
  refine OGoal.mp (S' := (s₁.setTop (mkF m 24 #[.val (.int (-1 : Int32)), .val (.int (0 : Int32)), .val (.int (-10 : Int32)), .val (.int (1 : Int32))] [(.int (-10 : Int32)), (.int (-1 : Int32))]))) (fun _ k => XS.iloadN X0.here hx rfl (hb hby own_d_jdk_33_method_13_code_23) rfl k) ?_
  refine OGoal.mp (S' := (s₁.setTop (mkF m 27 #[.val (.int (-1 : Int32)), .val (.int (0 : Int32)), .val (.int (-10 : Int32)), .val (.int (1 : Int32))] []))) (fun _ k => XS.icmpNo X0.here hx rfl (hb hby own_d_jdk_33_method_13_code_24) rfl (XT.ii_le_f (by decide)) k) ?_
  refine OGoal.mp (S' := (s₁.setTop (mkF m 28 #[.val (.int (-1 : Int32)), .val (.int (0 : Int32)), .val (.int (-10 : Int32)), .val (.int (1 : Int32))] [(.int (1 : Int32))]))) (fun _ k => XS.iloadN X0.here hx rfl (hb hby own_d_jdk_33_method_13_code_27) rfl k) ?_
  refine OGoal.mp (S' := (s₁.setTop (mkF m 29 #[.val (.int (-1 : Int32)), .val (.int (0 : Int32)), .val (.int (-10 : Int32)), .val (.int (1 : Int32))] [(.int (0 : Int32)), (.int (1 : Int32))]))) (fun _ k => XS.iloadN X0.here hx rfl (hb hby own_d_jdk_33_method_13_code_28) rfl k) ?_
  refine OGoal.mp (S' := (s₁.setTop (mkF m 30 #[.val (.int (-1 : Int32)), .val (.int (0 : Int32)), .val (.int (-10 : Int32)), .val (.int (1 : Int32))] [(.int ((1 : Int32) + (0 : Int32)))]))) (fun _ k => XS.iadd X0.here hx rfl (hb hby own_d_jdk_33_method_13_code_29) rfl k) ?_
  rw [show ((1 : Int32) + (0 : Int32)) = (1 : Int32) by decide]
  show OGoal p e below s _ _ _ (s₁.setTop (mkF m 30 #[.val (.int (-1 : Int32)), .val (.int (0 : Int32)), .val (.int (-10 : Int32)), .val (.int (1 : Int32))] [(.int (1 : Int32))]))
  refine oRetI X0 hx hlk hret (hb hby own_d_jdk_33_method_13_code_30) ?_ (by decide) (by decide)
  exact ⟨rfl, (Fr.nil n0), e0⟩
theorem own_fb {x : Int32} (h : -128 ≤ x.toInt ∧ x.toInt < 128) : fits .byte (.int x) = true := by
  have e : x.toInt8.toInt32 = x := oNarB h
  rw [← e]; exact fits_nar_byte x
theorem own_d_jdk_33_method_12_code_0 : decode jdk_33_method_12_code 0 = .ok (.iload_n 1, 1) := by decide +kernel
theorem own_d_jdk_33_method_12_code_1 : decode jdk_33_method_12_code 1 = .ok (.istore 5, 2) := by decide +kernel
theorem own_d_jdk_33_method_12_code_3 : decode jdk_33_method_12_code 3 = .ok (.iload_n 0, 1) := by decide +kernel
theorem own_d_jdk_33_method_12_code_4 : decode jdk_33_method_12_code 4 = .ok (.ifCond .ge 7, 3) := by decide +kernel
theorem own_d_jdk_33_method_12_code_11 : decode jdk_33_method_12_code 11 = .ok (.iconst 0, 1) := by decide +kernel
theorem own_d_jdk_33_method_12_code_12 : decode jdk_33_method_12_code 12 = .ok (.istore 6, 2) := by decide +kernel
theorem own_d_jdk_33_method_12_code_14 : decode jdk_33_method_12_code 14 = .ok (.iload 6, 2) := by decide +kernel
theorem own_d_jdk_33_method_12_code_16 : decode jdk_33_method_12_code 16 = .ok (.ifCond .ne 6, 3) := by decide +kernel
theorem own_d_jdk_33_method_12_code_19 : decode jdk_33_method_12_code 19 = .ok (.iload_n 0, 1) := by decide +kernel
theorem own_d_jdk_33_method_12_code_20 : decode jdk_33_method_12_code 20 = .ok (.ineg, 1) := by decide +kernel
theorem own_d_jdk_33_method_12_code_21 : decode jdk_33_method_12_code 21 = .ok (.istore_n 0, 1) := by decide +kernel
theorem own_d_jdk_33_method_12_code_22 : decode jdk_33_method_12_code 22 = .ok (.iload_n 0, 1) := by decide +kernel
theorem own_d_jdk_33_method_12_code_23 : decode jdk_33_method_12_code 23 = .ok (.bipush (-100), 2) := by decide +kernel
theorem own_d_jdk_33_method_12_code_25 : decode jdk_33_method_12_code 25 = .ok (.if_icmp .gt 47, 3) := by decide +kernel
theorem own_d_jdk_33_method_12_code_72 : decode jdk_33_method_12_code 72 = .ok (.aload_n 2, 1) := by decide +kernel
theorem own_d_jdk_33_method_12_code_73 : decode jdk_33_method_12_code 73 = .ok (.iinc 5 (-1), 3) := by decide +kernel
theorem own_d_jdk_33_method_12_code_76 : decode jdk_33_method_12_code 76 = .ok (.iload 5, 2) := by decide +kernel
theorem own_d_jdk_33_method_12_code_78 : decode jdk_33_method_12_code 78 = .ok (.getstatic 83, 3) := by decide +kernel
theorem own_d_jdk_33_method_12_code_81 : decode jdk_33_method_12_code 81 = .ok (.iload_n 0, 1) := by decide +kernel
theorem own_d_jdk_33_method_12_code_82 : decode jdk_33_method_12_code 82 = .ok (.ineg, 1) := by decide +kernel
theorem own_d_jdk_33_method_12_code_83 : decode jdk_33_method_12_code 83 = .ok (.baload, 1) := by decide +kernel
theorem own_d_jdk_33_method_12_code_84 : decode jdk_33_method_12_code 84 = .ok (.bastore, 1) := by decide +kernel
theorem own_d_jdk_33_method_12_code_85 : decode jdk_33_method_12_code 85 = .ok (.iload_n 0, 1) := by decide +kernel
theorem own_d_jdk_33_method_12_code_86 : decode jdk_33_method_12_code 86 = .ok (.bipush (-9), 2) := by decide +kernel
theorem own_d_jdk_33_method_12_code_88 : decode jdk_33_method_12_code 88 = .ok (.if_icmp .ge 16, 3) := by decide +kernel
theorem own_d_jdk_33_method_12_code_104 : decode jdk_33_method_12_code 104 = .ok (.iload 6, 2) := by decide +kernel
theorem own_d_jdk_33_method_12_code_106 : decode jdk_33_method_12_code 106 = .ok (.ifCond .eq 12, 3) := by decide +kernel
theorem own_d_jdk_33_method_12_code_118 : decode jdk_33_method_12_code 118 = .ok (.iload 5, 2) := by decide +kernel
theorem own_d_jdk_33_method_12_code_120 : decode jdk_33_method_12_code 120 = .ok (.ireturn, 1) := by decide +kernel
theorem own_ef_rmGC (x0 : Int32) (x1 : Int32) (x2 : Addr) (m : MethodId) : entryFrame m #[(.int x0), (.int x1), (.ref x2)] 7 = mkF m 0 #[.val (.int x0), .val (.int x1), .val (.ref x2), .unset, .unset, .unset, .unset] [] := by first | (simp [entryFrame, mkF, argsToLocals, Value.category]; done) | rfl
set_option maxRecDepth 65536 in
set_option maxHeartbeats 40000000 in
theorem rmGC (l : Launch) (Z : State) (a0 : Array Value) (hw : ∀ d ∈ tables_1, d.before a0 Z = true) (v' : Addr) (h0 : Heap) (n0 : Nat) (Z0 : n0 ≤ h0.size) (H : Heap) (fx : Addr) (hn0 : H.size ≤ n0) (cs : Int32) (hcs : ¬ cs = 0) (Scs : Sta Z H "java/lang/String" "COMPACT_STRINGS" "Z" (.int cs)) (dg : Addr) (Sdg : Sta Z H "java/lang/Integer" "DigitOnes" "[B" (.ref dg)) (df : Nat → Value) (Adg : OArr Z H dg .byte 100 df) (xd : Int32) (hdf : df (1 : Int32).toNatClampNeg = .int xd) (hxd : -128 ≤ xd.toInt ∧ xd.toInt < 128) (EF : Exa Z H fx "com/example/wildsolve/wildsolve/infer/Fresh") (nfd : dg ≠ fx) (KZ : Keep H h0 [fx]) (gf : Nat → Value) (A : OArr Z h0 v' .byte 16 gf) (hgf : ∀ i, fits .byte (gf i) = true) (abv : n0 ≤ v')  :
    OCon l Z (⟨"java/lang/Integer", "getChars", "(II[B)I"⟩ : MethodName) jdk_33_method_12_code 7 (some .int) ({ frames := 0, cells := 0, slots := 0, locals := 0 } : Room) #[(.int (1 : Int32)), (.int (2 : Int32)), (.ref v')] h0 (fun v h L => v = some (.int (1 : Int32)) ∧ Fr n0 L ∧ Keep h0 h [v'] ∧ Keep H h [fx] ∧ Vb Z h v') := by
  refine OConK.intro (y := (⟨"java/lang/Integer", "getChars", "(II[B)I"⟩ : MethodName)) (plainFor_of_name own_pn_java_lang_Integer) (own_ef_rmGC (1 : Int32) (2 : Int32) v') ?_
  intro p e s m below meth c s₁ hx hby hml hown hnm hret hlk hZ X0 e0
  show OGoal p e below s _ _ _ (s₁.setTop (mkF m 0 #[.val (.int (1 : Int32)), .val (.int (2 : Int32)), .val (.ref v'), .unset, .unset, .unset, .unset] []))
  refine OGoal.mp (S' := (s₁.setTop (mkF m 1 #[.val (.int (1 : Int32)), .val (.int (2 : Int32)), .val (.ref v'), .unset, .unset, .unset, .unset] [(.int (2 : Int32))]))) (fun _ k => XS.iloadN X0.here hx rfl (hb hby own_d_jdk_33_method_12_code_0) rfl k) ?_
  refine OGoal.mp (S' := (s₁.setTop (mkF m 3 #[.val (.int (1 : Int32)), .val (.int (2 : Int32)), .val (.ref v'), .unset, .unset, .val (.int (2 : Int32)), .unset] []))) (fun _ k => XS.istore X0.here hx rfl (hb hby own_d_jdk_33_method_12_code_1) rfl (l' := #[.val (.int (1 : Int32)), .val (.int (2 : Int32)), .val (.ref v'), .unset, .unset, .val (.int (2 : Int32)), .unset]) rfl k) ?_
  refine OGoal.mp (S' := (s₁.setTop (mkF m 4 #[.val (.int (1 : Int32)), .val (.int (2 : Int32)), .val (.ref v'), .unset, .unset, .val (.int (2 : Int32)), .unset] [(.int (1 : Int32))]))) (fun _ k => XS.iloadN X0.here hx rfl (hb hby own_d_jdk_33_method_12_code_3) rfl k) ?_
  refine OGoal.mp (S' := (s₁.setTop (mkF m 11 #[.val (.int (1 : Int32)), .val (.int (2 : Int32)), .val (.ref v'), .unset, .unset, .val (.int (2 : Int32)), .unset] []))) (fun _ k => XS.ifYes X0.here hx rfl (pc0 := 4) (pc' := 11) rfl (hb hby own_d_jdk_33_method_12_code_4) rfl (XT.i0_ge_t (by decide)) (by decide) (by decide) k) ?_
  refine OGoal.mp (S' := (s₁.setTop (mkF m 12 #[.val (.int (1 : Int32)), .val (.int (2 : Int32)), .val (.ref v'), .unset, .unset, .val (.int (2 : Int32)), .unset] [(.int (0 : Int32))]))) (fun _ k => XS.iconst X0.here hx rfl (hb hby own_d_jdk_33_method_12_code_11) k) ?_
  refine OGoal.mp (S' := (s₁.setTop (mkF m 14 #[.val (.int (1 : Int32)), .val (.int (2 : Int32)), .val (.ref v'), .unset, .unset, .val (.int (2 : Int32)), .val (.int (0 : Int32))] []))) (fun _ k => XS.istore X0.here hx rfl (hb hby own_d_jdk_33_method_12_code_12) rfl (l' := #[.val (.int (1 : Int32)), .val (.int (2 : Int32)), .val (.ref v'), .unset, .unset, .val (.int (2 : Int32)), .val (.int (0 : Int32))]) rfl k) ?_
  refine OGoal.mp (S' := (s₁.setTop (mkF m 16 #[.val (.int (1 : Int32)), .val (.int (2 : Int32)), .val (.ref v'), .unset, .unset, .val (.int (2 : Int32)), .val (.int (0 : Int32))] [(.int (0 : Int32))]))) (fun _ k => XS.iload X0.here hx rfl (hb hby own_d_jdk_33_method_12_code_14) rfl k) ?_
  refine OGoal.mp (S' := (s₁.setTop (mkF m 19 #[.val (.int (1 : Int32)), .val (.int (2 : Int32)), .val (.ref v'), .unset, .unset, .val (.int (2 : Int32)), .val (.int (0 : Int32))] []))) (fun _ k => XS.ifNo X0.here hx rfl (hb hby own_d_jdk_33_method_12_code_16) rfl (XT.i0_ne_f (by decide)) k) ?_
  refine OGoal.mp (S' := (s₁.setTop (mkF m 20 #[.val (.int (1 : Int32)), .val (.int (2 : Int32)), .val (.ref v'), .unset, .unset, .val (.int (2 : Int32)), .val (.int (0 : Int32))] [(.int (1 : Int32))]))) (fun _ k => XS.iloadN X0.here hx rfl (hb hby own_d_jdk_33_method_12_code_19) rfl k) ?_
  refine OGoal.mp (S' := (s₁.setTop (mkF m 21 #[.val (.int (1 : Int32)), .val (.int (2 : Int32)), .val (.ref v'), .unset, .unset, .val (.int (2 : Int32)), .val (.int (0 : Int32))] [(.int (-(1 : Int32)))]))) (fun _ k => XS.ineg X0.here hx rfl (hb hby own_d_jdk_33_method_12_code_20) rfl k) ?_
  rw [show (-(1 : Int32)) = (-1 : Int32) by decide]
  show OGoal p e below s _ _ _ (s₁.setTop (mkF m 21 #[.val (.int (1 : Int32)), .val (.int (2 : Int32)), .val (.ref v'), .unset, .unset, .val (.int (2 : Int32)), .val (.int (0 : Int32))] [(.int (-1 : Int32))]))
  refine OGoal.mp (S' := (s₁.setTop (mkF m 22 #[.val (.int (-1 : Int32)), .val (.int (2 : Int32)), .val (.ref v'), .unset, .unset, .val (.int (2 : Int32)), .val (.int (0 : Int32))] []))) (fun _ k => XS.istoreN X0.here hx rfl (hb hby own_d_jdk_33_method_12_code_21) rfl (l' := #[.val (.int (-1 : Int32)), .val (.int (2 : Int32)), .val (.ref v'), .unset, .unset, .val (.int (2 : Int32)), .val (.int (0 : Int32))]) rfl k) ?_
  refine OGoal.mp (S' := (s₁.setTop (mkF m 23 #[.val (.int (-1 : Int32)), .val (.int (2 : Int32)), .val (.ref v'), .unset, .unset, .val (.int (2 : Int32)), .val (.int (0 : Int32))] [(.int (-1 : Int32))]))) (fun _ k => XS.iloadN X0.here hx rfl (hb hby own_d_jdk_33_method_12_code_22) rfl k) ?_
  refine OGoal.mp (S' := (s₁.setTop (mkF m 25 #[.val (.int (-1 : Int32)), .val (.int (2 : Int32)), .val (.ref v'), .unset, .unset, .val (.int (2 : Int32)), .val (.int (0 : Int32))] [(.int (-100 : Int32)), (.int (-1 : Int32))]))) (fun _ k => XS.bipush X0.here hx rfl (hb hby own_d_jdk_33_method_12_code_23) k) ?_
  refine OGoal.mp (S' := (s₁.setTop (mkF m 72 #[.val (.int (-1 : Int32)), .val (.int (2 : Int32)), .val (.ref v'), .unset, .unset, .val (.int (2 : Int32)), .val (.int (0 : Int32))] []))) (fun _ k => XS.icmpYes X0.here hx rfl (pc0 := 25) (pc' := 72) rfl (hb hby own_d_jdk_33_method_12_code_25) rfl (XT.ii_gt_t (by decide)) (by decide) (by decide) k) ?_
  refine OGoal.mp (S' := (s₁.setTop (mkF m 73 #[.val (.int (-1 : Int32)), .val (.int (2 : Int32)), .val (.ref v'), .unset, .unset, .val (.int (2 : Int32)), .val (.int (0 : Int32))] [(.ref v')]))) (fun _ k => XS.aloadN X0.here hx rfl (hb hby own_d_jdk_33_method_12_code_72) rfl rfl k) ?_
  refine OGoal.mp (S' := (s₁.setTop (mkF m 76 #[.val (.int (-1 : Int32)), .val (.int (2 : Int32)), .val (.ref v'), .unset, .unset, .val (.int ((2 : Int32) + (-1 : Int32))), .val (.int (0 : Int32))] [(.ref v')]))) (fun _ k => XT.iincV X0.here hx rfl (-1 : Int32) (hb hby own_d_jdk_33_method_12_code_73) rfl rfl (l' := #[.val (.int (-1 : Int32)), .val (.int (2 : Int32)), .val (.ref v'), .unset, .unset, .val (.int ((2 : Int32) + (-1 : Int32))), .val (.int (0 : Int32))]) rfl k) ?_
  rw [show ((2 : Int32) + (-1 : Int32)) = (1 : Int32) by decide]
  show OGoal p e below s _ _ _ (s₁.setTop (mkF m 76 #[.val (.int (-1 : Int32)), .val (.int (2 : Int32)), .val (.ref v'), .unset, .unset, .val (.int (1 : Int32)), .val (.int (0 : Int32))] [(.ref v')]))
  refine OGoal.mp (S' := (s₁.setTop (mkF m 78 #[.val (.int (-1 : Int32)), .val (.int (2 : Int32)), .val (.ref v'), .unset, .unset, .val (.int (1 : Int32)), .val (.int (0 : Int32))] [(.int (1 : Int32)), (.ref v')]))) (fun _ k => XS.iload X0.here hx rfl (hb hby own_d_jdk_33_method_12_code_76) rfl k) ?_
  obtain ⟨T1, X2, e3, st4⟩ := getS X0 hx hZ hown (host := "") (hw _ (List.mem_of_getElem? (i := 158) rfl)) Via.refl e0 (oStaK Sdg KZ EF) (g := mkF m 78 #[.val (.int (-1 : Int32)), .val (.int (2 : Int32)), .val (.ref v'), .unset, .unset, .val (.int (1 : Int32)), .val (.int (0 : Int32))] [(.int (1 : Int32)), (.ref v')]) rfl (hb hby own_d_jdk_33_method_12_code_78)
  refine OGoal.mp (S' := (T1.setTop (mkF m 81 #[.val (.int (-1 : Int32)), .val (.int (2 : Int32)), .val (.ref v'), .unset, .unset, .val (.int (1 : Int32)), .val (.int (0 : Int32))] [(.ref dg), (.int (1 : Int32)), (.ref v')]))) (fun _ k => st4 _ k) ?_
  refine OGoal.mp (S' := (T1.setTop (mkF m 82 #[.val (.int (-1 : Int32)), .val (.int (2 : Int32)), .val (.ref v'), .unset, .unset, .val (.int (1 : Int32)), .val (.int (0 : Int32))] [(.int (-1 : Int32)), (.ref dg), (.int (1 : Int32)), (.ref v')]))) (fun _ k => XS.iloadN X2.here hx rfl (hb hby own_d_jdk_33_method_12_code_81) rfl k) ?_
  refine OGoal.mp (S' := (T1.setTop (mkF m 83 #[.val (.int (-1 : Int32)), .val (.int (2 : Int32)), .val (.ref v'), .unset, .unset, .val (.int (1 : Int32)), .val (.int (0 : Int32))] [(.int (-(-1 : Int32))), (.ref dg), (.int (1 : Int32)), (.ref v')]))) (fun _ k => XS.ineg X2.here hx rfl (hb hby own_d_jdk_33_method_12_code_82) rfl k) ?_
  rw [show (-(-1 : Int32)) = (1 : Int32) by decide]
  show OGoal p e below s _ _ _ (T1.setTop (mkF m 83 #[.val (.int (-1 : Int32)), .val (.int (2 : Int32)), .val (.ref v'), .unset, .unset, .val (.int (1 : Int32)), .val (.int (0 : Int32))] [(.int (1 : Int32)), (.ref dg), (.int (1 : Int32)), (.ref v')]))
  refine OGoal.mp (S' := (T1.setTop (mkF m 84 #[.val (.int (-1 : Int32)), .val (.int (2 : Int32)), .val (.ref v'), .unset, .unset, .val (.int (1 : Int32)), .val (.int (0 : Int32))] [(.int xd), (.int (1 : Int32)), (.ref v')]))) (fun _ k => oLdB X2 hx hZ e3 (Adg.keep KZ (ninS nfd nin0)) (by decide) (by decide) hdf (g := mkF m 83 #[.val (.int (-1 : Int32)), .val (.int (2 : Int32)), .val (.ref v'), .unset, .unset, .val (.int (1 : Int32)), .val (.int (0 : Int32))] [(.int (1 : Int32)), (.ref dg), (.int (1 : Int32)), (.ref v')]) rfl rfl (hb hby own_d_jdk_33_method_12_code_83) k) ?_
  obtain ⟨T5, h9, X6, e7, W10, st8⟩ := oStB X2 hx hZ e3 A (by decide) (by decide) (oNarB hxd) (g := mkF m 84 #[.val (.int (-1 : Int32)), .val (.int (2 : Int32)), .val (.ref v'), .unset, .unset, .val (.int (1 : Int32)), .val (.int (0 : Int32))] [(.int xd), (.int (1 : Int32)), (.ref v')]) rfl rfl (hb hby own_d_jdk_33_method_12_code_84)
  have N11 := Fr.snoc X6 (Fr.nil n0) abv
  have K12 : Keep h0 h9 [v'] := (Keep.refl h0 [v']).wr W10 (Or.inl (by simp))
  have F13 := KZ.wr W10 (Or.inr (Nat.le_trans hn0 abv))
  have F14 := (Low.refl n0 h0).keep (Keep.of_wr W10) abv
  have F15 : OArr Z h9 v' .byte (16 : Int32) (fun jj => if jj = ((1 : Int32)).toNatClampNeg then (.int xd) else gf jj : Nat → Value) := A.set W10
  have F16 := (Adg.keep KZ (ninS nfd nin0)).other W10 (Nat.ne_of_lt (Nat.lt_of_lt_of_le Adg.lt (Nat.le_trans hn0 abv)))
  have Z17 : n0 ≤ h9.size := Nat.le_trans Z0 (Keep.of_wr W10).1
  refine OGoal.mp (S' := (T5.setTop (mkF m 85 #[.val (.int (-1 : Int32)), .val (.int (2 : Int32)), .val (.ref v'), .unset, .unset, .val (.int (1 : Int32)), .val (.int (0 : Int32))] []))) (fun _ k => st8 _ k) ?_
  refine OGoal.mp (S' := (T5.setTop (mkF m 86 #[.val (.int (-1 : Int32)), .val (.int (2 : Int32)), .val (.ref v'), .unset, .unset, .val (.int (1 : Int32)), .val (.int (0 : Int32))] [(.int (-1 : Int32))]))) (fun _ k => XS.iloadN X6.here hx rfl (hb hby own_d_jdk_33_method_12_code_85) rfl k) ?_
  refine OGoal.mp (S' := (T5.setTop (mkF m 88 #[.val (.int (-1 : Int32)), .val (.int (2 : Int32)), .val (.ref v'), .unset, .unset, .val (.int (1 : Int32)), .val (.int (0 : Int32))] [(.int (-9 : Int32)), (.int (-1 : Int32))]))) (fun _ k => XS.bipush X6.here hx rfl (hb hby own_d_jdk_33_method_12_code_86) k) ?_
  refine OGoal.mp (S' := (T5.setTop (mkF m 104 #[.val (.int (-1 : Int32)), .val (.int (2 : Int32)), .val (.ref v'), .unset, .unset, .val (.int (1 : Int32)), .val (.int (0 : Int32))] []))) (fun _ k => XS.icmpYes X6.here hx rfl (pc0 := 88) (pc' := 104) rfl (hb hby own_d_jdk_33_method_12_code_88) rfl (XT.ii_ge_t (by decide)) (by decide) (by decide) k) ?_
  refine OGoal.mp (S' := (T5.setTop (mkF m 106 #[.val (.int (-1 : Int32)), .val (.int (2 : Int32)), .val (.ref v'), .unset, .unset, .val (.int (1 : Int32)), .val (.int (0 : Int32))] [(.int (0 : Int32))]))) (fun _ k => XS.iload X6.here hx rfl (hb hby own_d_jdk_33_method_12_code_104) rfl k) ?_
  refine OGoal.mp (S' := (T5.setTop (mkF m 118 #[.val (.int (-1 : Int32)), .val (.int (2 : Int32)), .val (.ref v'), .unset, .unset, .val (.int (1 : Int32)), .val (.int (0 : Int32))] []))) (fun _ k => XS.ifYes X6.here hx rfl (pc0 := 106) (pc' := 118) rfl (hb hby own_d_jdk_33_method_12_code_106) rfl (XT.i0_eq_t (by decide)) (by decide) (by decide) k) ?_
  refine OGoal.mp (S' := (T5.setTop (mkF m 120 #[.val (.int (-1 : Int32)), .val (.int (2 : Int32)), .val (.ref v'), .unset, .unset, .val (.int (1 : Int32)), .val (.int (0 : Int32))] [(.int (1 : Int32))]))) (fun _ k => XS.iload X6.here hx rfl (hb hby own_d_jdk_33_method_12_code_118) rfl k) ?_
  refine oRetI X6 hx hlk hret (hb hby own_d_jdk_33_method_12_code_120) ?_ (by decide) (by decide)
  rw [e7]; exact ⟨rfl, N11, K12, F13, _, F15, fun i => by (try dsimp only); split; exact own_fb hxd; exact hgf _⟩
theorem own_d_jdk_68_method_32_code_0 : decode jdk_68_method_32_code 0 = .ok (.aload_n 0, 1) := by decide +kernel
theorem own_d_jdk_68_method_32_code_1 : decode jdk_68_method_32_code 1 = .ok (.getfield 79, 3) := by decide +kernel
theorem own_d_jdk_68_method_32_code_4 : decode jdk_68_method_32_code 4 = .ok (.istore_n 2, 1) := by decide +kernel
theorem own_d_jdk_68_method_32_code_5 : decode jdk_68_method_32_code 5 = .ok (.iload_n 2, 1) := by decide +kernel
theorem own_d_jdk_68_method_32_code_6 : decode jdk_68_method_32_code 6 = .ok (.iload_n 1, 1) := by decide +kernel
theorem own_d_jdk_68_method_32_code_7 : decode jdk_68_method_32_code 7 = .ok (.invokestatic 245, 3) := by decide +kernel
theorem own_pd__I_I : parseMethodDescriptor "(I)I" = some ⟨[.int], some .int⟩ := by decide +kernel
theorem own_d_jdk_68_method_32_code_10 : decode jdk_68_method_32_code 10 = .ok (.iadd, 1) := by decide +kernel
theorem own_d_jdk_68_method_32_code_11 : decode jdk_68_method_32_code 11 = .ok (.istore_n 3, 1) := by decide +kernel
theorem own_d_jdk_68_method_32_code_12 : decode jdk_68_method_32_code 12 = .ok (.aload_n 0, 1) := by decide +kernel
theorem own_d_jdk_68_method_32_code_13 : decode jdk_68_method_32_code 13 = .ok (.iload_n 3, 1) := by decide +kernel
theorem own_d_jdk_68_method_32_code_14 : decode jdk_68_method_32_code 14 = .ok (.invokevirtual 100, 3) := by decide +kernel
theorem own_d_jdk_68_method_32_code_17 : decode jdk_68_method_32_code 17 = .ok (.aload_n 0, 1) := by decide +kernel
theorem own_d_jdk_68_method_32_code_18 : decode jdk_68_method_32_code 18 = .ok (.invokevirtual 83, 3) := by decide +kernel
theorem own_pd___Z : parseMethodDescriptor "()Z" = some ⟨[], some .boolean⟩ := by decide +kernel
theorem own_d_jdk_68_method_32_code_21 : decode jdk_68_method_32_code 21 = .ok (.ifCond .eq 16, 3) := by decide +kernel
theorem own_d_jdk_68_method_32_code_24 : decode jdk_68_method_32_code 24 = .ok (.iload_n 1, 1) := by decide +kernel
theorem own_d_jdk_68_method_32_code_25 : decode jdk_68_method_32_code 25 = .ok (.iload_n 3, 1) := by decide +kernel
theorem own_d_jdk_68_method_32_code_26 : decode jdk_68_method_32_code 26 = .ok (.aload_n 0, 1) := by decide +kernel
theorem own_d_jdk_68_method_32_code_27 : decode jdk_68_method_32_code 27 = .ok (.getfield 15, 3) := by decide +kernel
theorem own_d_jdk_68_method_32_code_30 : decode jdk_68_method_32_code 30 = .ok (.invokestatic 248, 3) := by decide +kernel
theorem own_pd__II_B_I : parseMethodDescriptor "(II[B)I" = some ⟨[.int, .int, (.array .byte)], some .int⟩ := by decide +kernel
theorem own_d_jdk_68_method_32_code_33 : decode jdk_68_method_32_code 33 = .ok (.pop, 1) := by decide +kernel
theorem own_d_jdk_68_method_32_code_34 : decode jdk_68_method_32_code 34 = .ok (.goto 14, 3) := by decide +kernel
theorem own_d_jdk_68_method_32_code_48 : decode jdk_68_method_32_code 48 = .ok (.aload_n 0, 1) := by decide +kernel
theorem own_d_jdk_68_method_32_code_49 : decode jdk_68_method_32_code 49 = .ok (.iload_n 3, 1) := by decide +kernel
theorem own_d_jdk_68_method_32_code_50 : decode jdk_68_method_32_code 50 = .ok (.putfield 79, 3) := by decide +kernel
theorem own_d_jdk_68_method_32_code_53 : decode jdk_68_method_32_code 53 = .ok (.aload_n 0, 1) := by decide +kernel
theorem own_d_jdk_68_method_32_code_54 : decode jdk_68_method_32_code 54 = .ok (.areturn, 1) := by decide +kernel
theorem own_ef_rmAI (x0 : Addr) (x1 : Int32) (m : MethodId) : entryFrame m #[(.ref x0), (.int x1)] 4 = mkF m 0 #[.val (.ref x0), .val (.int x1), .unset, .unset] [] := by first | (simp [entryFrame, mkF, argsToLocals, Value.category]; done) | rfl
set_option maxRecDepth 65536 in
set_option maxHeartbeats 40000000 in
theorem rmAI (l : Launch) (Z : State) (a0 : Array Value) (hw : ∀ d ∈ tables_1, d.before a0 Z = true) (sb : Addr) (h0 : Heap) (n0 : Nat) (Z0 : n0 ≤ h0.size) (H : Heap) (fx : Addr) (hn0 : H.size ≤ n0) (cs : Int32) (hcs : ¬ cs = 0) (Scs : Sta Z H "java/lang/String" "COMPACT_STRINGS" "Z" (.int cs)) (dg : Addr) (Sdg : Sta Z H "java/lang/Integer" "DigitOnes" "[B" (.ref dg)) (df : Nat → Value) (Adg : OArr Z H dg .byte 100 df) (xd : Int32) (hdf : df (1 : Int32).toNatClampNeg = .int xd) (hxd : -128 ≤ xd.toInt ∧ xd.toInt < 128) (EF : Exa Z H fx "com/example/wildsolve/wildsolve/infer/Fresh") (nfd : dg ≠ fx) (KZ : Keep H h0 [fx]) (hB : Bd Z h0 sb (1 : Int32) n0)  :
    OCon l Z (⟨"java/lang/AbstractStringBuilder", "append", "(I)Ljava/lang/AbstractStringBuilder;"⟩ : MethodName) jdk_68_method_32_code 4 (some (.object "java/lang/AbstractStringBuilder")) ({ frames := 1, cells := 0, slots := 0, locals := 18 } : Room) #[(.ref sb), (.int (1 : Int32))] h0 (fun v h L => v = some (.ref sb) ∧ Fr n0 L ∧ Keep H h [fx] ∧ Low n0 h0 h ∧ Bd Z h sb (2 : Int32) n0) := by
  refine OConK.intro (y := (⟨"java/lang/AbstractStringBuilder", "append", "(I)Ljava/lang/AbstractStringBuilder;"⟩ : MethodName)) (plainFor_of_name own_pn_java_lang_AbstractStringBuilder) (own_ef_rmAI sb (1 : Int32)) ?_
  intro p e s m below meth c s₁ hx hby hml hown hnm hret hlk hZ X0 e0
  obtain ⟨v1, gf2, E3, F4, F5, F6, A7, hg8, b9, b10⟩ := hB
  have nq11 := oNeA E3 (hw _ (List.mem_of_getElem? (i := 60) rfl)) A7
  show OGoal p e below s _ _ _ (s₁.setTop (mkF m 0 #[.val (.ref sb), .val (.int (1 : Int32)), .unset, .unset] []))
  refine OGoal.mp (S' := (s₁.setTop (mkF m 1 #[.val (.ref sb), .val (.int (1 : Int32)), .unset, .unset] [(.ref sb)]))) (fun _ k => XS.aloadN X0.here hx rfl (hb hby own_d_jdk_68_method_32_code_0) rfl rfl k) ?_
  obtain ⟨T12, X13, e14, st15⟩ := getF X0 hx hZ hown (host := "") (Or.inl (hw _ (List.mem_of_getElem? (i := 108) rfl))) Via.refl e0 F6 (g := mkF m 1 #[.val (.ref sb), .val (.int (1 : Int32)), .unset, .unset] [(.ref sb)]) rfl rfl (hb hby own_d_jdk_68_method_32_code_1)
  refine OGoal.mp (S' := (T12.setTop (mkF m 4 #[.val (.ref sb), .val (.int (1 : Int32)), .unset, .unset] [(.int (1 : Int32))]))) (fun _ k => st15 _ k) ?_
  refine OGoal.mp (S' := (T12.setTop (mkF m 5 #[.val (.ref sb), .val (.int (1 : Int32)), .val (.int (1 : Int32)), .unset] []))) (fun _ k => XS.istoreN X13.here hx rfl (hb hby own_d_jdk_68_method_32_code_4) rfl (l' := #[.val (.ref sb), .val (.int (1 : Int32)), .val (.int (1 : Int32)), .unset]) rfl k) ?_
  refine OGoal.mp (S' := (T12.setTop (mkF m 6 #[.val (.ref sb), .val (.int (1 : Int32)), .val (.int (1 : Int32)), .unset] [(.int (1 : Int32))]))) (fun _ k => XS.iloadN X13.here hx rfl (hb hby own_d_jdk_68_method_32_code_5) rfl k) ?_
  refine OGoal.mp (S' := (T12.setTop (mkF m 7 #[.val (.ref sb), .val (.int (1 : Int32)), .val (.int (1 : Int32)), .unset] [(.int (1 : Int32)), (.int (1 : Int32))]))) (fun _ k => XS.iloadN X13.here hx rfl (hb hby own_d_jdk_68_method_32_code_6) rfl k) ?_
  refine oCallS (y := (⟨"java/lang/Integer", "stringSize", "(I)I"⟩ : MethodName)) X13 hx hZ hown (hw _ (List.mem_of_getElem? (i := 146) rfl)) (hw _ (List.mem_of_getElem? (i := 147) rfl)) (hw _ (List.mem_of_getElem? (i := 148) rfl)) (hw _ (List.mem_of_getElem? (i := 149) rfl)) (by decide) (rmSS l Z a0 hw h0 n0 Z0) e14 [(.int (1 : Int32))] [(.int (1 : Int32))] rfl rfl (by rw [hml]; rfl) (lenOf own_pd__I_I rfl) 1 (Nat.le_of_eq rfl) (by decide) (by decide) (by decide) (by decide) (hb hby own_d_jdk_68_method_32_code_7) ?_
  intro v16 T17 L18 X19 q20
  obtain ⟨rfl, N21, e22⟩ := q20
  have N23 := Fr.app (Fr.nil n0) N21
  show OGoal p e below s _ _ _ (T17.setTop (mkF m 10 #[.val (.ref sb), .val (.int (1 : Int32)), .val (.int (1 : Int32)), .unset] [(.int (1 : Int32)), (.int (1 : Int32))]))
  refine OGoal.mp (S' := (T17.setTop (mkF m 11 #[.val (.ref sb), .val (.int (1 : Int32)), .val (.int (1 : Int32)), .unset] [(.int ((1 : Int32) + (1 : Int32)))]))) (fun _ k => XS.iadd X19.here hx rfl (hb hby own_d_jdk_68_method_32_code_10) rfl k) ?_
  rw [show ((1 : Int32) + (1 : Int32)) = (2 : Int32) by decide]
  show OGoal p e below s _ _ _ (T17.setTop (mkF m 11 #[.val (.ref sb), .val (.int (1 : Int32)), .val (.int (1 : Int32)), .unset] [(.int (2 : Int32))]))
  refine OGoal.mp (S' := (T17.setTop (mkF m 12 #[.val (.ref sb), .val (.int (1 : Int32)), .val (.int (1 : Int32)), .val (.int (2 : Int32))] []))) (fun _ k => XS.istoreN X19.here hx rfl (hb hby own_d_jdk_68_method_32_code_11) rfl (l' := #[.val (.ref sb), .val (.int (1 : Int32)), .val (.int (1 : Int32)), .val (.int (2 : Int32))]) rfl k) ?_
  refine OGoal.mp (S' := (T17.setTop (mkF m 13 #[.val (.ref sb), .val (.int (1 : Int32)), .val (.int (1 : Int32)), .val (.int (2 : Int32))] [(.ref sb)]))) (fun _ k => XS.aloadN X19.here hx rfl (hb hby own_d_jdk_68_method_32_code_12) rfl rfl k) ?_
  refine OGoal.mp (S' := (T17.setTop (mkF m 14 #[.val (.ref sb), .val (.int (1 : Int32)), .val (.int (1 : Int32)), .val (.int (2 : Int32))] [(.int (2 : Int32)), (.ref sb)]))) (fun _ k => XS.iloadN X19.here hx rfl (hb hby own_d_jdk_68_method_32_code_13) rfl k) ?_
  refine oCallQ (y := (⟨"java/lang/AbstractStringBuilder", "ensureCapacityInternal", "(I)V"⟩ : MethodName)) X19 hx hZ hown (hw _ (List.mem_of_getElem? (i := 110) rfl)) (hw _ (List.mem_of_getElem? (i := 113) rfl)) (hw _ (List.mem_of_getElem? (i := 111) rfl)) (hw _ (List.mem_of_getElem? (i := 112) rfl)) (hw _ (List.mem_of_getElem? (i := 69) rfl)) (hw _ (List.mem_of_getElem? (i := 114) rfl)) (by decide) (rmEC2 l Z a0 hw sb h0 n0 Z0 v1 gf2 E3 F4 F5 A7) e22 E3 [(.int (2 : Int32))] [] rfl rfl (by rw [hml]; rfl) (lenOf own_pd__I_V rfl) 0 (Nat.le_of_eq rfl) (by decide) (by decide) (by decide) (by decide) (hb hby own_d_jdk_68_method_32_code_14) ?_
  intro v24 T25 L26 X27 q28
  obtain ⟨rfl, N29, e30⟩ := q28
  have N31 := Fr.app N23 N29
  show OGoal p e below s _ _ _ (T25.setTop (mkF m 17 #[.val (.ref sb), .val (.int (1 : Int32)), .val (.int (1 : Int32)), .val (.int (2 : Int32))] []))
  refine OGoal.mp (S' := (T25.setTop (mkF m 18 #[.val (.ref sb), .val (.int (1 : Int32)), .val (.int (1 : Int32)), .val (.int (2 : Int32))] [(.ref sb)]))) (fun _ k => XS.aloadN X27.here hx rfl (hb hby own_d_jdk_68_method_32_code_17) rfl rfl k) ?_
  refine oCallV (y := (⟨"java/lang/AbstractStringBuilder", "isLatin1", "()Z"⟩ : MethodName)) (z := (⟨"java/lang/AbstractStringBuilder", "isLatin1", "()Z"⟩ : MethodName)) X27 hx hZ hown (hw _ (List.mem_of_getElem? (i := 150) rfl)) (hw _ (List.mem_of_getElem? (i := 151) rfl)) (hw _ (List.mem_of_getElem? (i := 153) rfl)) (hw _ (List.mem_of_getElem? (i := 152) rfl)) (hw _ (List.mem_of_getElem? (i := 69) rfl)) (hw _ (List.mem_of_getElem? (i := 154) rfl)) (by decide) (rmIL l Z a0 hw sb h0 n0 Z0 H fx hn0 cs hcs Scs dg Sdg df Adg xd hdf hxd EF nfd KZ v1 gf2 E3 F4 F5 A7) e30 E3 [] [] rfl rfl (by rw [hml]; rfl) (notFace_of_selects (args := #[]) (mvT hZ (hw _ (List.mem_of_getElem? (i := 153) rfl)))) (lenOf own_pd___Z rfl) 0 (Nat.le_of_eq rfl) (by decide) (by decide) (by decide) (by decide) (hb hby own_d_jdk_68_method_32_code_18) ?_
  intro v32 T33 L34 X35 q36
  obtain ⟨rfl, N37, e38⟩ := q36
  have N39 := Fr.app N31 N37
  show OGoal p e below s _ _ _ (T33.setTop (mkF m 21 #[.val (.ref sb), .val (.int (1 : Int32)), .val (.int (1 : Int32)), .val (.int (2 : Int32))] [(.int (1 : Int32))]))
  refine OGoal.mp (S' := (T33.setTop (mkF m 24 #[.val (.ref sb), .val (.int (1 : Int32)), .val (.int (1 : Int32)), .val (.int (2 : Int32))] []))) (fun _ k => XS.ifNo X35.here hx rfl (hb hby own_d_jdk_68_method_32_code_21) rfl (XT.i0_eq_f (by decide)) k) ?_
  refine OGoal.mp (S' := (T33.setTop (mkF m 25 #[.val (.ref sb), .val (.int (1 : Int32)), .val (.int (1 : Int32)), .val (.int (2 : Int32))] [(.int (1 : Int32))]))) (fun _ k => XS.iloadN X35.here hx rfl (hb hby own_d_jdk_68_method_32_code_24) rfl k) ?_
  refine OGoal.mp (S' := (T33.setTop (mkF m 26 #[.val (.ref sb), .val (.int (1 : Int32)), .val (.int (1 : Int32)), .val (.int (2 : Int32))] [(.int (2 : Int32)), (.int (1 : Int32))]))) (fun _ k => XS.iloadN X35.here hx rfl (hb hby own_d_jdk_68_method_32_code_25) rfl k) ?_
  refine OGoal.mp (S' := (T33.setTop (mkF m 27 #[.val (.ref sb), .val (.int (1 : Int32)), .val (.int (1 : Int32)), .val (.int (2 : Int32))] [(.ref sb), (.int (2 : Int32)), (.int (1 : Int32))]))) (fun _ k => XS.aloadN X35.here hx rfl (hb hby own_d_jdk_68_method_32_code_26) rfl rfl k) ?_
  obtain ⟨T40, X41, e42, st43⟩ := getF X35 hx hZ hown (host := "") (Or.inl (hw _ (List.mem_of_getElem? (i := 75) rfl))) Via.refl e38 F4 (g := mkF m 27 #[.val (.ref sb), .val (.int (1 : Int32)), .val (.int (1 : Int32)), .val (.int (2 : Int32))] [(.ref sb), (.int (2 : Int32)), (.int (1 : Int32))]) rfl rfl (hb hby own_d_jdk_68_method_32_code_27)
  refine OGoal.mp (S' := (T40.setTop (mkF m 30 #[.val (.ref sb), .val (.int (1 : Int32)), .val (.int (1 : Int32)), .val (.int (2 : Int32))] [(.ref v1), (.int (2 : Int32)), (.int (1 : Int32))]))) (fun _ k => st43 _ k) ?_
  refine oCallS (y := (⟨"java/lang/Integer", "getChars", "(II[B)I"⟩ : MethodName)) X41 hx hZ hown (hw _ (List.mem_of_getElem? (i := 155) rfl)) (hw _ (List.mem_of_getElem? (i := 156) rfl)) (hw _ (List.mem_of_getElem? (i := 148) rfl)) (hw _ (List.mem_of_getElem? (i := 157) rfl)) (by decide) (rmGC l Z a0 hw v1 h0 n0 Z0 H fx hn0 cs hcs Scs dg Sdg df Adg xd hdf hxd EF nfd KZ gf2 A7 hg8 b10) e42 [(.int (1 : Int32)), (.int (2 : Int32)), (.ref v1)] [] rfl rfl (by rw [hml]; rfl) (lenOf own_pd__II_B_I rfl) 0 (Nat.le_of_eq rfl) (by decide) (by decide) (by decide) (by decide) (hb hby own_d_jdk_68_method_32_code_30) ?_
  intro v44 T45 L46 X47 q48
  obtain ⟨rfl, N49, K50, K51, V52⟩ := q48
  have N53 := Fr.app N39 N49
  obtain ⟨gf54, A55, hg56⟩ := V52
  have Lw57 := (Low.refl n0 h0).keep K50 b10
  have F58 := E3.keep K50
  have F59 := F4.keep K50 (ninS nq11 nin0)
  have F60 := F5.keep K50 (ninS nq11 nin0)
  have F61 := F6.keep K50 (ninS nq11 nin0)
  have Z62 : n0 ≤ T45.heap.size := Nat.le_trans Z0 K50.1
  show OGoal p e below s _ _ _ (T45.setTop (mkF m 33 #[.val (.ref sb), .val (.int (1 : Int32)), .val (.int (1 : Int32)), .val (.int (2 : Int32))] [(.int (1 : Int32))]))
  refine OGoal.mp (S' := (T45.setTop (mkF m 34 #[.val (.ref sb), .val (.int (1 : Int32)), .val (.int (1 : Int32)), .val (.int (2 : Int32))] []))) (fun _ k => XT.pop X47.here hx rfl (hb hby own_d_jdk_68_method_32_code_33) rfl rfl k) ?_
  refine OGoal.mp (S' := (T45.setTop (mkF m 48 #[.val (.ref sb), .val (.int (1 : Int32)), .val (.int (1 : Int32)), .val (.int (2 : Int32))] []))) (fun _ k => XS.goto X47.here hx rfl (pc0 := 34) (pc' := 48) rfl (hb hby own_d_jdk_68_method_32_code_34) (by decide) (by decide) k) ?_
  refine OGoal.mp (S' := (T45.setTop (mkF m 49 #[.val (.ref sb), .val (.int (1 : Int32)), .val (.int (1 : Int32)), .val (.int (2 : Int32))] [(.ref sb)]))) (fun _ k => XS.aloadN X47.here hx rfl (hb hby own_d_jdk_68_method_32_code_48) rfl rfl k) ?_
  refine OGoal.mp (S' := (T45.setTop (mkF m 50 #[.val (.ref sb), .val (.int (1 : Int32)), .val (.int (1 : Int32)), .val (.int (2 : Int32))] [(.int (2 : Int32)), (.ref sb)]))) (fun _ k => XS.iloadN X47.here hx rfl (hb hby own_d_jdk_68_method_32_code_49) rfl k) ?_
  obtain ⟨T63, h67, X64, e65, W68, st66⟩ := putF X47 hx hZ hown (host := "") (Or.inl (hw _ (List.mem_of_getElem? (i := 108) rfl))) Via.refl rfl F61 F58 (Or.inl (hw _ (List.mem_of_getElem? (i := 109) rfl))) (hw _ (List.mem_of_getElem? (i := 60) rfl)) (ty := .int) (by decide) rfl rfl (g := mkF m 50 #[.val (.ref sb), .val (.int (1 : Int32)), .val (.int (1 : Int32)), .val (.int (2 : Int32))] [(.int (2 : Int32)), (.ref sb)]) rfl rfl (hb hby own_d_jdk_68_method_32_code_50)
  have N69 := Fr.snoc X64 N53 b9
  have Z70 : n0 ≤ h67.size := Nat.le_trans Z62 (Keep.of_wr W68).1
  have F71 := K51.wr W68 (Or.inr (Nat.le_trans hn0 b9))
  have F72 := Lw57.keep (Keep.of_wr W68) b9
  have F73 := F58.wr W68
  have F74 := F59.other W68 (Or.inr (slot_ne (a0 := a0) (C := "java/lang/StringBuilder") (t := (.array .byte)) (t' := .int) (Or.inl (hw _ (List.mem_of_getElem? (i := 76) rfl))) (Or.inl (hw _ (List.mem_of_getElem? (i := 109) rfl))) (by decide) (by decide) (by decide)))
  have F75 := F60.other W68 (Or.inr (slot_ne (a0 := a0) (C := "java/lang/StringBuilder") (t := .byte) (t' := .int) (Or.inl (hw _ (List.mem_of_getElem? (i := 78) rfl))) (Or.inl (hw _ (List.mem_of_getElem? (i := 109) rfl))) (by decide) (by decide) (by decide)))
  have F76 := F61.same W68
  have F77 := A55.other W68 nq11.symm
  refine OGoal.mp (S' := (T63.setTop (mkF m 53 #[.val (.ref sb), .val (.int (1 : Int32)), .val (.int (1 : Int32)), .val (.int (2 : Int32))] []))) (fun _ k => st66 _ k) ?_
  refine OGoal.mp (S' := (T63.setTop (mkF m 54 #[.val (.ref sb), .val (.int (1 : Int32)), .val (.int (1 : Int32)), .val (.int (2 : Int32))] [(.ref sb)]))) (fun _ k => XS.aloadN X64.here hx rfl (hb hby own_d_jdk_68_method_32_code_53) rfl rfl k) ?_
  refine oRetA X64 hx hlk hret rfl rfl (hb hby own_d_jdk_68_method_32_code_54) ?_ (by decide) (by decide)
  rw [e65]; exact ⟨rfl, N69, F71, F72, ⟨v1, _, F73, F74, F75, F76, F77, hg56, b9, b10⟩⟩
theorem own_d_jdk_67_method_15_code_0 : decode jdk_67_method_15_code 0 = .ok (.aload_n 0, 1) := by decide +kernel
theorem own_d_jdk_67_method_15_code_1 : decode jdk_67_method_15_code 1 = .ok (.iload_n 1, 1) := by decide +kernel
theorem own_d_jdk_67_method_15_code_2 : decode jdk_67_method_15_code 2 = .ok (.invokespecial 53, 3) := by decide +kernel
theorem own_pd__I_Ljava_lang_AbstractStringBuilder_ : parseMethodDescriptor "(I)Ljava/lang/AbstractStringBuilder;" = some ⟨[.int], some (.object "java/lang/AbstractStringBuilder")⟩ := by decide +kernel
theorem own_d_jdk_67_method_15_code_5 : decode jdk_67_method_15_code 5 = .ok (.pop, 1) := by decide +kernel
theorem own_d_jdk_67_method_15_code_6 : decode jdk_67_method_15_code 6 = .ok (.aload_n 0, 1) := by decide +kernel
theorem own_d_jdk_67_method_15_code_7 : decode jdk_67_method_15_code 7 = .ok (.areturn, 1) := by decide +kernel
theorem own_ef_rmSAI (x0 : Addr) (x1 : Int32) (m : MethodId) : entryFrame m #[(.ref x0), (.int x1)] 2 = mkF m 0 #[.val (.ref x0), .val (.int x1)] [] := by first | (simp [entryFrame, mkF, argsToLocals, Value.category]; done) | rfl
set_option maxRecDepth 65536 in
set_option maxHeartbeats 40000000 in
theorem rmSAI (l : Launch) (Z : State) (a0 : Array Value) (hw : ∀ d ∈ tables_1, d.before a0 Z = true) (sb : Addr) (h0 : Heap) (n0 : Nat) (Z0 : n0 ≤ h0.size) (H : Heap) (fx : Addr) (hn0 : H.size ≤ n0) (cs : Int32) (hcs : ¬ cs = 0) (Scs : Sta Z H "java/lang/String" "COMPACT_STRINGS" "Z" (.int cs)) (dg : Addr) (Sdg : Sta Z H "java/lang/Integer" "DigitOnes" "[B" (.ref dg)) (df : Nat → Value) (Adg : OArr Z H dg .byte 100 df) (xd : Int32) (hdf : df (1 : Int32).toNatClampNeg = .int xd) (hxd : -128 ≤ xd.toInt ∧ xd.toInt < 128) (EF : Exa Z H fx "com/example/wildsolve/wildsolve/infer/Fresh") (nfd : dg ≠ fx) (KZ : Keep H h0 [fx]) (hB : Bd Z h0 sb (1 : Int32) n0)  :
    OCon l Z (⟨"java/lang/StringBuilder", "append", "(I)Ljava/lang/StringBuilder;"⟩ : MethodName) jdk_67_method_15_code 2 (some (.object "java/lang/StringBuilder")) ({ frames := 2, cells := 0, slots := 0, locals := 33 } : Room) #[(.ref sb), (.int (1 : Int32))] h0 (fun v h L => v = some (.ref sb) ∧ Fr n0 L ∧ Keep H h [fx] ∧ Low n0 h0 h ∧ Bd Z h sb (2 : Int32) n0) := by
  refine OConK.intro (y := (⟨"java/lang/StringBuilder", "append", "(I)Ljava/lang/StringBuilder;"⟩ : MethodName)) (plainFor_of_name own_pn_java_lang_StringBuilder) (own_ef_rmSAI sb (1 : Int32)) ?_
  intro p e s m below meth c s₁ hx hby hml hown hnm hret hlk hZ X0 e0
  show OGoal p e below s _ _ _ (s₁.setTop (mkF m 0 #[.val (.ref sb), .val (.int (1 : Int32))] []))
  refine OGoal.mp (S' := (s₁.setTop (mkF m 1 #[.val (.ref sb), .val (.int (1 : Int32))] [(.ref sb)]))) (fun _ k => XS.aloadN X0.here hx rfl (hb hby own_d_jdk_67_method_15_code_0) rfl rfl k) ?_
  refine OGoal.mp (S' := (s₁.setTop (mkF m 2 #[.val (.ref sb), .val (.int (1 : Int32))] [(.int (1 : Int32)), (.ref sb)]))) (fun _ k => XS.iloadN X0.here hx rfl (hb hby own_d_jdk_67_method_15_code_1) rfl k) ?_
  refine oCallU (y := (⟨"java/lang/AbstractStringBuilder", "append", "(I)Ljava/lang/AbstractStringBuilder;"⟩ : MethodName)) (y0 := (⟨"java/lang/AbstractStringBuilder", "ensureCapacityInternal", "(I)V"⟩ : MethodName)) X0 hx hZ (by decide) rfl hown (hw _ (List.mem_of_getElem? (i := 142) rfl)) (hw _ (List.mem_of_getElem? (i := 113) rfl)) (hw _ (List.mem_of_getElem? (i := 143) rfl)) (hw _ (List.mem_of_getElem? (i := 92) rfl)) (hw _ (List.mem_of_getElem? (i := 69) rfl)) (hw _ (List.mem_of_getElem? (i := 145) rfl)) (by decide) (rmAI l Z a0 hw sb h0 n0 Z0 H fx hn0 cs hcs Scs dg Sdg df Adg xd hdf hxd EF nfd KZ hB) e0 hB.exa [(.int (1 : Int32))] [] rfl rfl (by rw [hml]; rfl) (lenOf own_pd__I_Ljava_lang_AbstractStringBuilder_ rfl) 0 (Nat.le_of_eq rfl) (by decide) (by decide) (by decide) (by decide) (hb hby own_d_jdk_67_method_15_code_2) ?_
  intro v1 T2 L3 X4 q5
  obtain ⟨rfl, N6, K7, Lw8, B9⟩ := q5
  have N10 := Fr.app (Fr.nil n0) N6
  have Lw12 := (Low.refl n0 h0).trans Lw8
  have Z11 := B9.sz
  show OGoal p e below s _ _ _ (T2.setTop (mkF m 5 #[.val (.ref sb), .val (.int (1 : Int32))] [(.ref sb)]))
  refine OGoal.mp (S' := (T2.setTop (mkF m 6 #[.val (.ref sb), .val (.int (1 : Int32))] []))) (fun _ k => XT.pop X4.here hx rfl (hb hby own_d_jdk_67_method_15_code_5) rfl rfl k) ?_
  refine OGoal.mp (S' := (T2.setTop (mkF m 7 #[.val (.ref sb), .val (.int (1 : Int32))] [(.ref sb)]))) (fun _ k => XS.aloadN X4.here hx rfl (hb hby own_d_jdk_67_method_15_code_6) rfl rfl k) ?_
  refine oRetA X4 hx hlk hret rfl rfl (hb hby own_d_jdk_67_method_15_code_7) ?_ (by decide) (by decide)
  exact ⟨rfl, N10, K7, Lw12, B9⟩
theorem own_d_jdk_65_method_131_code_0 : decode jdk_65_method_131_code 0 = .ok (.iload_n 1, 1) := by decide +kernel
theorem own_d_jdk_65_method_131_code_1 : decode jdk_65_method_131_code 1 = .ok (.iload_n 0, 1) := by decide +kernel
theorem own_d_jdk_65_method_131_code_2 : decode jdk_65_method_131_code 2 = .ok (.if_icmp .ge 35, 3) := by decide +kernel
theorem own_d_jdk_65_method_131_code_37 : decode jdk_65_method_131_code 37 = .ok (.return_, 1) := by decide +kernel
theorem own_pn_java_util_Arrays : plainName "java/util/Arrays" = true := by first | (simp [plainName, overriddenIn]; done) | decide +kernel
theorem own_ef_rmCL (x0 : Int32) (x1 : Int32) (m : MethodId) : entryFrame m #[(.int x0), (.int x1)] 2 = mkF m 0 #[.val (.int x0), .val (.int x1)] [] := by first | (simp [entryFrame, mkF, argsToLocals, Value.category]; done) | rfl
set_option maxRecDepth 65536 in
set_option maxHeartbeats 40000000 in
theorem rmCL (l : Launch) (Z : State) (a0 : Array Value) (hw : ∀ d ∈ tables_1, d.before a0 Z = true)  (h0 : Heap) (n0 : Nat) (Z0 : n0 ≤ h0.size)  :
    OCon l Z (⟨"java/util/Arrays", "checkLength", "(II)V"⟩ : MethodName) jdk_65_method_131_code 2 none ({ frames := 0, cells := 0, slots := 0, locals := 0 } : Room) #[(.int (0 : Int32)), (.int (2 : Int32))] h0 (fun v h L => v = none ∧ Fr n0 L ∧ h = h0) := by
  refine OConK.intro (y := (⟨"java/util/Arrays", "checkLength", "(II)V"⟩ : MethodName)) (plainFor_of_name own_pn_java_util_Arrays) (own_ef_rmCL (0 : Int32) (2 : Int32)) ?_
  intro p e s m below meth c s₁ hx hby hml hown hnm hret hlk hZ X0 e0
  show OGoal p e below s _ _ _ (s₁.setTop (mkF m 0 #[.val (.int (0 : Int32)), .val (.int (2 : Int32))] []))
  refine OGoal.mp (S' := (s₁.setTop (mkF m 1 #[.val (.int (0 : Int32)), .val (.int (2 : Int32))] [(.int (2 : Int32))]))) (fun _ k => XS.iloadN X0.here hx rfl (hb hby own_d_jdk_65_method_131_code_0) rfl k) ?_
  refine OGoal.mp (S' := (s₁.setTop (mkF m 2 #[.val (.int (0 : Int32)), .val (.int (2 : Int32))] [(.int (0 : Int32)), (.int (2 : Int32))]))) (fun _ k => XS.iloadN X0.here hx rfl (hb hby own_d_jdk_65_method_131_code_1) rfl k) ?_
  refine OGoal.mp (S' := (s₁.setTop (mkF m 37 #[.val (.int (0 : Int32)), .val (.int (2 : Int32))] []))) (fun _ k => XS.icmpYes X0.here hx rfl (pc0 := 2) (pc' := 37) rfl (hb hby own_d_jdk_65_method_131_code_2) rfl (XT.ii_ge_t (by decide)) (by decide) (by decide) k) ?_
  refine oRetV X0 hx hlk hret (hb hby own_d_jdk_65_method_131_code_37) ?_ (by decide) (by decide)
  exact ⟨rfl, (Fr.nil n0), e0⟩
theorem own_d_jdk_29_method_69_code_0 : decode jdk_29_method_69_code 0 = .ok (.iload_n 0, 1) := by decide +kernel
theorem own_d_jdk_29_method_69_code_1 : decode jdk_29_method_69_code 1 = .ok (.iload_n 1, 1) := by decide +kernel
theorem own_d_jdk_29_method_69_code_2 : decode jdk_29_method_69_code 2 = .ok (.if_icmp .gt 7, 3) := by decide +kernel
theorem own_d_jdk_29_method_69_code_9 : decode jdk_29_method_69_code 9 = .ok (.iload_n 1, 1) := by decide +kernel
theorem own_d_jdk_29_method_69_code_10 : decode jdk_29_method_69_code 10 = .ok (.ireturn, 1) := by decide +kernel
theorem own_pf_java_lang_Math_min__II_I : plainFor (⟨"java/lang/Math", "min", "(II)I"⟩ : MethodName) = true := by decide +kernel
theorem own_ef_rmMin (x0 : Int32) (x1 : Int32) (m : MethodId) : entryFrame m #[(.int x0), (.int x1)] 2 = mkF m 0 #[.val (.int x0), .val (.int x1)] [] := by first | (simp [entryFrame, mkF, argsToLocals, Value.category]; done) | rfl
set_option maxRecDepth 65536 in
set_option maxHeartbeats 40000000 in
theorem rmMin (l : Launch) (Z : State) (a0 : Array Value) (hw : ∀ d ∈ tables_1, d.before a0 Z = true)  (h0 : Heap) (n0 : Nat) (Z0 : n0 ≤ h0.size)  :
    OCon l Z (⟨"java/lang/Math", "min", "(II)I"⟩ : MethodName) jdk_29_method_69_code 2 (some .int) ({ frames := 0, cells := 0, slots := 0, locals := 0 } : Room) #[(.int (16 : Int32)), (.int (2 : Int32))] h0 (fun v h L => v = some (.int (2 : Int32)) ∧ Fr n0 L ∧ h = h0) := by
  refine OConK.intro (y := (⟨"java/lang/Math", "min", "(II)I"⟩ : MethodName)) own_pf_java_lang_Math_min__II_I (own_ef_rmMin (16 : Int32) (2 : Int32)) ?_
  intro p e s m below meth c s₁ hx hby hml hown hnm hret hlk hZ X0 e0
  show OGoal p e below s _ _ _ (s₁.setTop (mkF m 0 #[.val (.int (16 : Int32)), .val (.int (2 : Int32))] []))
  refine OGoal.mp (S' := (s₁.setTop (mkF m 1 #[.val (.int (16 : Int32)), .val (.int (2 : Int32))] [(.int (16 : Int32))]))) (fun _ k => XS.iloadN X0.here hx rfl (hb hby own_d_jdk_29_method_69_code_0) rfl k) ?_
  refine OGoal.mp (S' := (s₁.setTop (mkF m 2 #[.val (.int (16 : Int32)), .val (.int (2 : Int32))] [(.int (2 : Int32)), (.int (16 : Int32))]))) (fun _ k => XS.iloadN X0.here hx rfl (hb hby own_d_jdk_29_method_69_code_1) rfl k) ?_
  refine OGoal.mp (S' := (s₁.setTop (mkF m 9 #[.val (.int (16 : Int32)), .val (.int (2 : Int32))] []))) (fun _ k => XS.icmpYes X0.here hx rfl (pc0 := 2) (pc' := 9) rfl (hb hby own_d_jdk_29_method_69_code_2) rfl (XT.ii_gt_t (by decide)) (by decide) (by decide) k) ?_
  refine OGoal.mp (S' := (s₁.setTop (mkF m 10 #[.val (.int (16 : Int32)), .val (.int (2 : Int32))] [(.int (2 : Int32))]))) (fun _ k => XS.iloadN X0.here hx rfl (hb hby own_d_jdk_29_method_69_code_9) rfl k) ?_
  refine oRetI X0 hx hlk hret (hb hby own_d_jdk_29_method_69_code_10) ?_ (by decide) (by decide)
  exact ⟨rfl, (Fr.nil n0), e0⟩
theorem own_d_jdk_65_method_133_code_0 : decode jdk_65_method_133_code 0 = .ok (.iload_n 1, 1) := by decide +kernel
theorem own_d_jdk_65_method_133_code_1 : decode jdk_65_method_133_code 1 = .ok (.iload_n 2, 1) := by decide +kernel
theorem own_d_jdk_65_method_133_code_2 : decode jdk_65_method_133_code 2 = .ok (.invokestatic 343, 3) := by decide +kernel
theorem own_pd__II_V : parseMethodDescriptor "(II)V" = some ⟨[.int, .int], none⟩ := by decide +kernel
theorem own_d_jdk_65_method_133_code_5 : decode jdk_65_method_133_code 5 = .ok (.iload_n 2, 1) := by decide +kernel
theorem own_d_jdk_65_method_133_code_6 : decode jdk_65_method_133_code 6 = .ok (.iload_n 1, 1) := by decide +kernel
theorem own_d_jdk_65_method_133_code_7 : decode jdk_65_method_133_code 7 = .ok (.isub, 1) := by decide +kernel
theorem own_d_jdk_65_method_133_code_8 : decode jdk_65_method_133_code 8 = .ok (.istore_n 3, 1) := by decide +kernel
theorem own_d_jdk_65_method_133_code_9 : decode jdk_65_method_133_code 9 = .ok (.iload_n 3, 1) := by decide +kernel
theorem own_d_jdk_65_method_133_code_10 : decode jdk_65_method_133_code 10 = .ok (.newarray .byte, 2) := by decide +kernel
theorem own_d_jdk_65_method_133_code_12 : decode jdk_65_method_133_code 12 = .ok (.astore 4, 2) := by decide +kernel
theorem own_d_jdk_65_method_133_code_14 : decode jdk_65_method_133_code 14 = .ok (.aload_n 0, 1) := by decide +kernel
theorem own_d_jdk_65_method_133_code_15 : decode jdk_65_method_133_code 15 = .ok (.iload_n 1, 1) := by decide +kernel
theorem own_d_jdk_65_method_133_code_16 : decode jdk_65_method_133_code 16 = .ok (.aload 4, 2) := by decide +kernel
theorem own_d_jdk_65_method_133_code_18 : decode jdk_65_method_133_code 18 = .ok (.iconst 0, 1) := by decide +kernel
theorem own_d_jdk_65_method_133_code_19 : decode jdk_65_method_133_code 19 = .ok (.aload_n 0, 1) := by decide +kernel
theorem own_d_jdk_65_method_133_code_20 : decode jdk_65_method_133_code 20 = .ok (.arraylength, 1) := by decide +kernel
theorem own_d_jdk_65_method_133_code_21 : decode jdk_65_method_133_code 21 = .ok (.iload_n 1, 1) := by decide +kernel
theorem own_d_jdk_65_method_133_code_22 : decode jdk_65_method_133_code 22 = .ok (.isub, 1) := by decide +kernel
theorem own_d_jdk_65_method_133_code_23 : decode jdk_65_method_133_code 23 = .ok (.iload_n 3, 1) := by decide +kernel
theorem own_d_jdk_65_method_133_code_24 : decode jdk_65_method_133_code 24 = .ok (.invokestatic 304, 3) := by decide +kernel
theorem own_pd__II_I : parseMethodDescriptor "(II)I" = some ⟨[.int, .int], some .int⟩ := by decide +kernel
theorem own_d_jdk_65_method_133_code_27 : decode jdk_65_method_133_code 27 = .ok (.invokestatic 150, 3) := by decide +kernel
theorem own_d_jdk_65_method_133_code_30 : decode jdk_65_method_133_code 30 = .ok (.aload 4, 2) := by decide +kernel
theorem own_d_jdk_65_method_133_code_32 : decode jdk_65_method_133_code 32 = .ok (.areturn, 1) := by decide +kernel
theorem own_ef_rmCB (x0 : Addr) (x1 : Int32) (x2 : Int32) (m : MethodId) : entryFrame m #[(.ref x0), (.int x1), (.int x2)] 5 = mkF m 0 #[.val (.ref x0), .val (.int x1), .val (.int x2), .unset, .unset] [] := by first | (simp [entryFrame, mkF, argsToLocals, Value.category]; done) | rfl
set_option maxRecDepth 65536 in
set_option maxHeartbeats 40000000 in
theorem rmCB (l : Launch) (Z : State) (a0 : Array Value) (hw : ∀ d ∈ tables_1, d.before a0 Z = true) (v' : Addr) (h0 : Heap) (n0 : Nat) (Z0 : n0 ≤ h0.size) (gf : Nat → Value) (A : OArr Z h0 v' .byte 16 gf) (hgf : ∀ i, fits .byte (gf i) = true) :
    OCon l Z (⟨"java/util/Arrays", "copyOfRangeByte", "([BII)[B"⟩ : MethodName) jdk_65_method_133_code 5 (some (.array .byte)) ({ frames := 1, cells := 1, slots := 2, locals := 18 } : Room) #[(.ref v'), (.int (0 : Int32)), (.int (2 : Int32))] h0 (fun v h L => ∃ r, v = some (.ref r) ∧ Fr n0 L ∧ Keep h0 h []) := by
  refine OConK.intro (y := (⟨"java/util/Arrays", "copyOfRangeByte", "([BII)[B"⟩ : MethodName)) (plainFor_of_name own_pn_java_util_Arrays) (own_ef_rmCB v' (0 : Int32) (2 : Int32)) ?_
  intro p e s m below meth c s₁ hx hby hml hown hnm hret hlk hZ X0 e0
  show OGoal p e below s _ _ _ (s₁.setTop (mkF m 0 #[.val (.ref v'), .val (.int (0 : Int32)), .val (.int (2 : Int32)), .unset, .unset] []))
  refine OGoal.mp (S' := (s₁.setTop (mkF m 1 #[.val (.ref v'), .val (.int (0 : Int32)), .val (.int (2 : Int32)), .unset, .unset] [(.int (0 : Int32))]))) (fun _ k => XS.iloadN X0.here hx rfl (hb hby own_d_jdk_65_method_133_code_0) rfl k) ?_
  refine OGoal.mp (S' := (s₁.setTop (mkF m 2 #[.val (.ref v'), .val (.int (0 : Int32)), .val (.int (2 : Int32)), .unset, .unset] [(.int (2 : Int32)), (.int (0 : Int32))]))) (fun _ k => XS.iloadN X0.here hx rfl (hb hby own_d_jdk_65_method_133_code_1) rfl k) ?_
  refine oCallS (y := (⟨"java/util/Arrays", "checkLength", "(II)V"⟩ : MethodName)) X0 hx hZ hown (hw _ (List.mem_of_getElem? (i := 194) rfl)) (hw _ (List.mem_of_getElem? (i := 195) rfl)) (hw _ (List.mem_of_getElem? (i := 189) rfl)) (hw _ (List.mem_of_getElem? (i := 196) rfl)) (by decide) (rmCL l Z a0 hw h0 n0 Z0) e0 [(.int (0 : Int32)), (.int (2 : Int32))] [] rfl rfl (by rw [hml]; rfl) (lenOf own_pd__II_V rfl) 0 (Nat.le_of_eq rfl) (by decide) (by decide) (by decide) (by decide) (hb hby own_d_jdk_65_method_133_code_2) ?_
  intro v1 T2 L3 X4 q5
  obtain ⟨rfl, N6, e7⟩ := q5
  have N8 := Fr.app (Fr.nil n0) N6
  show OGoal p e below s _ _ _ (T2.setTop (mkF m 5 #[.val (.ref v'), .val (.int (0 : Int32)), .val (.int (2 : Int32)), .unset, .unset] []))
  refine OGoal.mp (S' := (T2.setTop (mkF m 6 #[.val (.ref v'), .val (.int (0 : Int32)), .val (.int (2 : Int32)), .unset, .unset] [(.int (2 : Int32))]))) (fun _ k => XS.iloadN X4.here hx rfl (hb hby own_d_jdk_65_method_133_code_5) rfl k) ?_
  refine OGoal.mp (S' := (T2.setTop (mkF m 7 #[.val (.ref v'), .val (.int (0 : Int32)), .val (.int (2 : Int32)), .unset, .unset] [(.int (0 : Int32)), (.int (2 : Int32))]))) (fun _ k => XS.iloadN X4.here hx rfl (hb hby own_d_jdk_65_method_133_code_6) rfl k) ?_
  refine OGoal.mp (S' := (T2.setTop (mkF m 8 #[.val (.ref v'), .val (.int (0 : Int32)), .val (.int (2 : Int32)), .unset, .unset] [(.int ((2 : Int32) - (0 : Int32)))]))) (fun _ k => XS.isub X4.here hx rfl (hb hby own_d_jdk_65_method_133_code_7) rfl k) ?_
  rw [show ((2 : Int32) - (0 : Int32)) = (2 : Int32) by decide]
  show OGoal p e below s _ _ _ (T2.setTop (mkF m 8 #[.val (.ref v'), .val (.int (0 : Int32)), .val (.int (2 : Int32)), .unset, .unset] [(.int (2 : Int32))]))
  refine OGoal.mp (S' := (T2.setTop (mkF m 9 #[.val (.ref v'), .val (.int (0 : Int32)), .val (.int (2 : Int32)), .val (.int (2 : Int32)), .unset] []))) (fun _ k => XS.istoreN X4.here hx rfl (hb hby own_d_jdk_65_method_133_code_8) rfl (l' := #[.val (.ref v'), .val (.int (0 : Int32)), .val (.int (2 : Int32)), .val (.int (2 : Int32)), .unset]) rfl k) ?_
  refine OGoal.mp (S' := (T2.setTop (mkF m 10 #[.val (.ref v'), .val (.int (0 : Int32)), .val (.int (2 : Int32)), .val (.int (2 : Int32)), .unset] [(.int (2 : Int32))]))) (fun _ k => XS.iloadN X4.here hx rfl (hb hby own_d_jdk_65_method_133_code_9) rfl k) ?_
  obtain ⟨T9, h13, c16, X10, e11, E14, A15, XA19, st12⟩ := newPE X4 hx hZ (hw _ (List.mem_of_getElem? (i := 74) rfl)) e7 (g := mkF m 10 #[.val (.ref v'), .val (.int (0 : Int32)), .val (.int (2 : Int32)), .val (.int (2 : Int32)), .unset] [(.int (2 : Int32))]) rfl (hb hby own_d_jdk_65_method_133_code_10) rfl (by decide) (cap := 2) (by decide) (by decide) (by decide) (by decide) (ad := "[B") (by rfl)
  obtain ⟨a17, g18⟩ : ∃ z, z = h0.size := ⟨_, rfl⟩
  rw [← g18] at A15 XA19 st12
  have lt20 : v' < a17 := by rw [g18]; exact A.lt
  have fr21 : h0.size ≤ a17 := by rw [g18]; exact (Keep.refl h0 []).1
  have K22 : Keep h0 h13 [] := (Keep.refl h0 []).ext E14
  have F23 := A.ext E14
  have F24 : OArr Z h13 a17 .byte (2 : Int32) (fun _ => .int 0 : Nat → Value) := OArr.new A15 (by decide)
  have Z25 : n0 ≤ h13.size := Nat.le_trans Z0 E14.1
  have ab26 : n0 ≤ a17 := Nat.le_trans Z0 (Nat.le_of_eq g18.symm)
  refine OGoal.mp (S' := (T9.setTop (mkF m 12 #[.val (.ref v'), .val (.int (0 : Int32)), .val (.int (2 : Int32)), .val (.int (2 : Int32)), .unset] [(.ref a17)]))) (fun _ k => st12 _ k) ?_
  refine OGoal.mp (S' := (T9.setTop (mkF m 14 #[.val (.ref v'), .val (.int (0 : Int32)), .val (.int (2 : Int32)), .val (.int (2 : Int32)), .val (.ref a17)] []))) (fun _ k => XS.astore X10.here hx rfl (hb hby own_d_jdk_65_method_133_code_12) rfl rfl (l' := #[.val (.ref v'), .val (.int (0 : Int32)), .val (.int (2 : Int32)), .val (.int (2 : Int32)), .val (.ref a17)]) rfl k) ?_
  refine OGoal.mp (S' := (T9.setTop (mkF m 15 #[.val (.ref v'), .val (.int (0 : Int32)), .val (.int (2 : Int32)), .val (.int (2 : Int32)), .val (.ref a17)] [(.ref v')]))) (fun _ k => XS.aloadN X10.here hx rfl (hb hby own_d_jdk_65_method_133_code_14) rfl rfl k) ?_
  refine OGoal.mp (S' := (T9.setTop (mkF m 16 #[.val (.ref v'), .val (.int (0 : Int32)), .val (.int (2 : Int32)), .val (.int (2 : Int32)), .val (.ref a17)] [(.int (0 : Int32)), (.ref v')]))) (fun _ k => XS.iloadN X10.here hx rfl (hb hby own_d_jdk_65_method_133_code_15) rfl k) ?_
  refine OGoal.mp (S' := (T9.setTop (mkF m 18 #[.val (.ref v'), .val (.int (0 : Int32)), .val (.int (2 : Int32)), .val (.int (2 : Int32)), .val (.ref a17)] [(.ref a17), (.int (0 : Int32)), (.ref v')]))) (fun _ k => XS.aload X10.here hx rfl (hb hby own_d_jdk_65_method_133_code_16) rfl rfl k) ?_
  refine OGoal.mp (S' := (T9.setTop (mkF m 19 #[.val (.ref v'), .val (.int (0 : Int32)), .val (.int (2 : Int32)), .val (.int (2 : Int32)), .val (.ref a17)] [(.int (0 : Int32)), (.ref a17), (.int (0 : Int32)), (.ref v')]))) (fun _ k => XS.iconst X10.here hx rfl (hb hby own_d_jdk_65_method_133_code_18) k) ?_
  refine OGoal.mp (S' := (T9.setTop (mkF m 20 #[.val (.ref v'), .val (.int (0 : Int32)), .val (.int (2 : Int32)), .val (.int (2 : Int32)), .val (.ref a17)] [(.ref v'), (.int (0 : Int32)), (.ref a17), (.int (0 : Int32)), (.ref v')]))) (fun _ k => XS.aloadN X10.here hx rfl (hb hby own_d_jdk_65_method_133_code_19) rfl rfl k) ?_
  refine OGoal.mp (S' := (T9.setTop (mkF m 21 #[.val (.ref v'), .val (.int (0 : Int32)), .val (.int (2 : Int32)), .val (.int (2 : Int32)), .val (.ref a17)] [(.int (16 : Int32)), (.int (0 : Int32)), (.ref a17), (.int (0 : Int32)), (.ref v')]))) (fun _ k => oLen X10 hx hZ e11 F23 (g := mkF m 20 #[.val (.ref v'), .val (.int (0 : Int32)), .val (.int (2 : Int32)), .val (.int (2 : Int32)), .val (.ref a17)] [(.ref v'), (.int (0 : Int32)), (.ref a17), (.int (0 : Int32)), (.ref v')]) rfl rfl (hb hby own_d_jdk_65_method_133_code_20) k) ?_
  refine OGoal.mp (S' := (T9.setTop (mkF m 22 #[.val (.ref v'), .val (.int (0 : Int32)), .val (.int (2 : Int32)), .val (.int (2 : Int32)), .val (.ref a17)] [(.int (0 : Int32)), (.int (16 : Int32)), (.int (0 : Int32)), (.ref a17), (.int (0 : Int32)), (.ref v')]))) (fun _ k => XS.iloadN X10.here hx rfl (hb hby own_d_jdk_65_method_133_code_21) rfl k) ?_
  refine OGoal.mp (S' := (T9.setTop (mkF m 23 #[.val (.ref v'), .val (.int (0 : Int32)), .val (.int (2 : Int32)), .val (.int (2 : Int32)), .val (.ref a17)] [(.int ((16 : Int32) - (0 : Int32))), (.int (0 : Int32)), (.ref a17), (.int (0 : Int32)), (.ref v')]))) (fun _ k => XS.isub X10.here hx rfl (hb hby own_d_jdk_65_method_133_code_22) rfl k) ?_
  rw [show ((16 : Int32) - (0 : Int32)) = (16 : Int32) by decide]
  show OGoal p e below s _ _ _ (T9.setTop (mkF m 23 #[.val (.ref v'), .val (.int (0 : Int32)), .val (.int (2 : Int32)), .val (.int (2 : Int32)), .val (.ref a17)] [(.int (16 : Int32)), (.int (0 : Int32)), (.ref a17), (.int (0 : Int32)), (.ref v')]))
  refine OGoal.mp (S' := (T9.setTop (mkF m 24 #[.val (.ref v'), .val (.int (0 : Int32)), .val (.int (2 : Int32)), .val (.int (2 : Int32)), .val (.ref a17)] [(.int (2 : Int32)), (.int (16 : Int32)), (.int (0 : Int32)), (.ref a17), (.int (0 : Int32)), (.ref v')]))) (fun _ k => XS.iloadN X10.here hx rfl (hb hby own_d_jdk_65_method_133_code_23) rfl k) ?_
  refine oCallS (y := (⟨"java/lang/Math", "min", "(II)I"⟩ : MethodName)) X10 hx hZ hown (hw _ (List.mem_of_getElem? (i := 197) rfl)) (hw _ (List.mem_of_getElem? (i := 198) rfl)) (hw _ (List.mem_of_getElem? (i := 199) rfl)) (hw _ (List.mem_of_getElem? (i := 200) rfl)) (by decide) (rmMin l Z a0 hw h13 n0 Z25) e11 [(.int (16 : Int32)), (.int (2 : Int32))] [(.int (0 : Int32)), (.ref a17), (.int (0 : Int32)), (.ref v')] rfl rfl (by rw [hml]; rfl) (lenOf own_pd__II_I rfl) 4 (Nat.le_of_eq rfl) (by decide) (by decide) (by decide) (by decide) (hb hby own_d_jdk_65_method_133_code_24) ?_
  intro v27 T28 L29 X30 q31
  obtain ⟨rfl, N32, e33⟩ := q31
  have N34 := Fr.app N8 N32
  show OGoal p e below s _ _ _ (T28.setTop (mkF m 27 #[.val (.ref v'), .val (.int (0 : Int32)), .val (.int (2 : Int32)), .val (.int (2 : Int32)), .val (.ref a17)] [(.int (2 : Int32)), (.int (0 : Int32)), (.ref a17), (.int (0 : Int32)), (.ref v')]))
  obtain ⟨T35, h39, L40, X36, e37, K41, A42, hL43, st38⟩ := oCopy X30 hx hZ hown (hw _ (List.mem_of_getElem? (i := 201) rfl)) (hw _ (List.mem_of_getElem? (i := 134) rfl)) (hw _ (List.mem_of_getElem? (i := 132) rfl)) (hw _ (List.mem_of_getElem? (i := 133) rfl)) e33 F23 F24 rfl (fun i _ => hgf i) (by decide) (by decide) (by decide) (by decide) (by decide) (g := mkF m 27 #[.val (.ref v'), .val (.int (0 : Int32)), .val (.int (2 : Int32)), .val (.int (2 : Int32)), .val (.ref a17)] [(.int (2 : Int32)), (.int (0 : Int32)), (.ref a17), (.int (0 : Int32)), (.ref v')]) rfl (by rw [hml]; rfl) rfl (hb hby own_d_jdk_65_method_133_code_27) (by decide) (by show 2 * 0 + 0 + (7 + 11) ≤ _; decide)
  have N44 := Fr.app N34 (fun y hy => by rw [hL43 y hy]; exact ab26 : Fr n0 L40)
  have F45 := F23.keep K41 (ninS (Nat.ne_of_lt lt20) nin0)
  have F47 := XA19.keep K41
  have K48 : Keep h0 h39 [] := K22.trans K41 (allS (Or.inr fr21) all0)
  have Z49 : n0 ≤ h39.size := Nat.le_trans Z25 K41.1
  refine OGoal.mp (S' := (T35.setTop (mkF m 30 #[.val (.ref v'), .val (.int (0 : Int32)), .val (.int (2 : Int32)), .val (.int (2 : Int32)), .val (.ref a17)] []))) (fun _ k => st38 _ k) ?_
  refine OGoal.mp (S' := (T35.setTop (mkF m 32 #[.val (.ref v'), .val (.int (0 : Int32)), .val (.int (2 : Int32)), .val (.int (2 : Int32)), .val (.ref a17)] [(.ref a17)]))) (fun _ k => XS.aload X36.here hx rfl (hb hby own_d_jdk_65_method_133_code_30) rfl rfl k) ?_
  refine oRetA X36 hx hlk hret rfl rfl (hb hby own_d_jdk_65_method_133_code_32) ?_ (by decide) (by decide)
  rw [e37]; exact ⟨_, rfl, N44, K48⟩
theorem own_d_jdk_65_method_132_code_0 : decode jdk_65_method_132_code 0 = .ok (.iload_n 1, 1) := by decide +kernel
theorem own_d_jdk_65_method_132_code_1 : decode jdk_65_method_132_code 1 = .ok (.ifCond .ne 9, 3) := by decide +kernel
theorem own_d_jdk_65_method_132_code_4 : decode jdk_65_method_132_code 4 = .ok (.iload_n 2, 1) := by decide +kernel
theorem own_d_jdk_65_method_132_code_5 : decode jdk_65_method_132_code 5 = .ok (.aload_n 0, 1) := by decide +kernel
theorem own_d_jdk_65_method_132_code_6 : decode jdk_65_method_132_code 6 = .ok (.arraylength, 1) := by decide +kernel
theorem own_d_jdk_65_method_132_code_7 : decode jdk_65_method_132_code 7 = .ok (.if_icmp .eq 10, 3) := by decide +kernel
theorem own_d_jdk_65_method_132_code_10 : decode jdk_65_method_132_code 10 = .ok (.aload_n 0, 1) := by decide +kernel
theorem own_d_jdk_65_method_132_code_11 : decode jdk_65_method_132_code 11 = .ok (.iload_n 1, 1) := by decide +kernel
theorem own_d_jdk_65_method_132_code_12 : decode jdk_65_method_132_code 12 = .ok (.iload_n 2, 1) := by decide +kernel
theorem own_d_jdk_65_method_132_code_13 : decode jdk_65_method_132_code 13 = .ok (.invokestatic 339, 3) := by decide +kernel
theorem own_pd___BII__B : parseMethodDescriptor "([BII)[B" = some ⟨[(.array .byte), .int, .int], some (.array .byte)⟩ := by decide +kernel
theorem own_d_jdk_65_method_132_code_16 : decode jdk_65_method_132_code 16 = .ok (.areturn, 1) := by decide +kernel
theorem own_ef_rmCR (x0 : Addr) (x1 : Int32) (x2 : Int32) (m : MethodId) : entryFrame m #[(.ref x0), (.int x1), (.int x2)] 3 = mkF m 0 #[.val (.ref x0), .val (.int x1), .val (.int x2)] [] := by first | (simp [entryFrame, mkF, argsToLocals, Value.category]; done) | rfl
set_option maxRecDepth 65536 in
set_option maxHeartbeats 40000000 in
theorem rmCR (l : Launch) (Z : State) (a0 : Array Value) (hw : ∀ d ∈ tables_1, d.before a0 Z = true) (v' : Addr) (h0 : Heap) (n0 : Nat) (Z0 : n0 ≤ h0.size) (gf : Nat → Value) (A : OArr Z h0 v' .byte 16 gf) (hgf : ∀ i, fits .byte (gf i) = true) :
    OCon l Z (⟨"java/util/Arrays", "copyOfRange", "([BII)[B"⟩ : MethodName) jdk_65_method_132_code 3 (some (.array .byte)) ({ frames := 2, cells := 1, slots := 2, locals := 34 } : Room) #[(.ref v'), (.int (0 : Int32)), (.int (2 : Int32))] h0 (fun v h L => ∃ r, v = some (.ref r) ∧ Fr n0 L ∧ Keep h0 h []) := by
  refine OConK.intro (y := (⟨"java/util/Arrays", "copyOfRange", "([BII)[B"⟩ : MethodName)) (plainFor_of_name own_pn_java_util_Arrays) (own_ef_rmCR v' (0 : Int32) (2 : Int32)) ?_
  intro p e s m below meth c s₁ hx hby hml hown hnm hret hlk hZ X0 e0
  show OGoal p e below s _ _ _ (s₁.setTop (mkF m 0 #[.val (.ref v'), .val (.int (0 : Int32)), .val (.int (2 : Int32))] []))
  refine OGoal.mp (S' := (s₁.setTop (mkF m 1 #[.val (.ref v'), .val (.int (0 : Int32)), .val (.int (2 : Int32))] [(.int (0 : Int32))]))) (fun _ k => XS.iloadN X0.here hx rfl (hb hby own_d_jdk_65_method_132_code_0) rfl k) ?_
  refine OGoal.mp (S' := (s₁.setTop (mkF m 4 #[.val (.ref v'), .val (.int (0 : Int32)), .val (.int (2 : Int32))] []))) (fun _ k => XS.ifNo X0.here hx rfl (hb hby own_d_jdk_65_method_132_code_1) rfl (XT.i0_ne_f (by decide)) k) ?_
  refine OGoal.mp (S' := (s₁.setTop (mkF m 5 #[.val (.ref v'), .val (.int (0 : Int32)), .val (.int (2 : Int32))] [(.int (2 : Int32))]))) (fun _ k => XS.iloadN X0.here hx rfl (hb hby own_d_jdk_65_method_132_code_4) rfl k) ?_
  refine OGoal.mp (S' := (s₁.setTop (mkF m 6 #[.val (.ref v'), .val (.int (0 : Int32)), .val (.int (2 : Int32))] [(.ref v'), (.int (2 : Int32))]))) (fun _ k => XS.aloadN X0.here hx rfl (hb hby own_d_jdk_65_method_132_code_5) rfl rfl k) ?_
  refine OGoal.mp (S' := (s₁.setTop (mkF m 7 #[.val (.ref v'), .val (.int (0 : Int32)), .val (.int (2 : Int32))] [(.int (16 : Int32)), (.int (2 : Int32))]))) (fun _ k => oLen X0 hx hZ e0 A (g := mkF m 6 #[.val (.ref v'), .val (.int (0 : Int32)), .val (.int (2 : Int32))] [(.ref v'), (.int (2 : Int32))]) rfl rfl (hb hby own_d_jdk_65_method_132_code_6) k) ?_
  refine OGoal.mp (S' := (s₁.setTop (mkF m 10 #[.val (.ref v'), .val (.int (0 : Int32)), .val (.int (2 : Int32))] []))) (fun _ k => XS.icmpNo X0.here hx rfl (hb hby own_d_jdk_65_method_132_code_7) rfl (XT.ii_eq_f (by decide)) k) ?_
  refine OGoal.mp (S' := (s₁.setTop (mkF m 11 #[.val (.ref v'), .val (.int (0 : Int32)), .val (.int (2 : Int32))] [(.ref v')]))) (fun _ k => XS.aloadN X0.here hx rfl (hb hby own_d_jdk_65_method_132_code_10) rfl rfl k) ?_
  refine OGoal.mp (S' := (s₁.setTop (mkF m 12 #[.val (.ref v'), .val (.int (0 : Int32)), .val (.int (2 : Int32))] [(.int (0 : Int32)), (.ref v')]))) (fun _ k => XS.iloadN X0.here hx rfl (hb hby own_d_jdk_65_method_132_code_11) rfl k) ?_
  refine OGoal.mp (S' := (s₁.setTop (mkF m 13 #[.val (.ref v'), .val (.int (0 : Int32)), .val (.int (2 : Int32))] [(.int (2 : Int32)), (.int (0 : Int32)), (.ref v')]))) (fun _ k => XS.iloadN X0.here hx rfl (hb hby own_d_jdk_65_method_132_code_12) rfl k) ?_
  refine oCallS (y := (⟨"java/util/Arrays", "copyOfRangeByte", "([BII)[B"⟩ : MethodName)) X0 hx hZ hown (hw _ (List.mem_of_getElem? (i := 191) rfl)) (hw _ (List.mem_of_getElem? (i := 192) rfl)) (hw _ (List.mem_of_getElem? (i := 189) rfl)) (hw _ (List.mem_of_getElem? (i := 193) rfl)) (by decide) (rmCB l Z a0 hw v' h0 n0 Z0 gf A hgf) e0 [(.ref v'), (.int (0 : Int32)), (.int (2 : Int32))] [] rfl rfl (by rw [hml]; rfl) (lenOf own_pd___BII__B rfl) 0 (Nat.le_of_eq rfl) (by decide) (by decide) (by decide) (by decide) (hb hby own_d_jdk_65_method_132_code_13) ?_
  intro v2 T3 L4 X5 q6
  obtain ⟨r1, rfl, Nq, Kq⟩ := q6
  have Nr := Fr.app (Fr.nil n0) Nq
  show OGoal p e below s _ _ _ (T3.setTop (mkF m 16 #[.val (.ref v'), .val (.int (0 : Int32)), .val (.int (2 : Int32))] [(.ref r1)]))
  refine oRetA X5 hx hlk hret rfl rfl (hb hby own_d_jdk_65_method_132_code_16) ?_ (by decide) (by decide)
  exact ⟨_, rfl, Nr, Kq⟩
theorem own_d_jdk_42_method_150_code_0 : decode jdk_42_method_150_code 0 = .ok (.aload_n 0, 1) := by decide +kernel
theorem own_d_jdk_42_method_150_code_1 : decode jdk_42_method_150_code 1 = .ok (.invokespecial 1, 3) := by decide +kernel
theorem own_d_jdk_42_method_150_code_4 : decode jdk_42_method_150_code 4 = .ok (.aload_n 1, 1) := by decide +kernel
theorem own_d_jdk_42_method_150_code_5 : decode jdk_42_method_150_code 5 = .ok (.invokevirtual 552, 3) := by decide +kernel
theorem own_pd____B : parseMethodDescriptor "()[B" = some ⟨[], some (.array .byte)⟩ := by decide +kernel
theorem own_d_jdk_42_method_150_code_8 : decode jdk_42_method_150_code 8 = .ok (.astore_n 3, 1) := by decide +kernel
theorem own_d_jdk_42_method_150_code_9 : decode jdk_42_method_150_code 9 = .ok (.aload_n 1, 1) := by decide +kernel
theorem own_d_jdk_42_method_150_code_10 : decode jdk_42_method_150_code 10 = .ok (.invokevirtual 549, 3) := by decide +kernel
theorem own_d_jdk_42_method_150_code_13 : decode jdk_42_method_150_code 13 = .ok (.istore 4, 2) := by decide +kernel
theorem own_d_jdk_42_method_150_code_15 : decode jdk_42_method_150_code 15 = .ok (.aload_n 1, 1) := by decide +kernel
theorem own_d_jdk_42_method_150_code_16 : decode jdk_42_method_150_code 16 = .ok (.invokevirtual 1047, 3) := by decide +kernel
theorem own_d_jdk_42_method_150_code_19 : decode jdk_42_method_150_code 19 = .ok (.ifCond .eq 22, 3) := by decide +kernel
theorem own_d_jdk_42_method_150_code_22 : decode jdk_42_method_150_code 22 = .ok (.aload_n 0, 1) := by decide +kernel
theorem own_d_jdk_42_method_150_code_23 : decode jdk_42_method_150_code 23 = .ok (.iconst 0, 1) := by decide +kernel
theorem own_d_jdk_42_method_150_code_24 : decode jdk_42_method_150_code 24 = .ok (.putfield 15, 3) := by decide +kernel
theorem own_d_jdk_42_method_150_code_27 : decode jdk_42_method_150_code 27 = .ok (.aload_n 0, 1) := by decide +kernel
theorem own_d_jdk_42_method_150_code_28 : decode jdk_42_method_150_code 28 = .ok (.aload_n 3, 1) := by decide +kernel
theorem own_d_jdk_42_method_150_code_29 : decode jdk_42_method_150_code 29 = .ok (.iconst 0, 1) := by decide +kernel
theorem own_d_jdk_42_method_150_code_30 : decode jdk_42_method_150_code 30 = .ok (.iload 4, 2) := by decide +kernel
theorem own_d_jdk_42_method_150_code_32 : decode jdk_42_method_150_code 32 = .ok (.invokestatic 54, 3) := by decide +kernel
theorem own_d_jdk_42_method_150_code_35 : decode jdk_42_method_150_code 35 = .ok (.putfield 9, 3) := by decide +kernel
theorem own_d_jdk_42_method_150_code_38 : decode jdk_42_method_150_code 38 = .ok (.goto 59, 3) := by decide +kernel
theorem own_d_jdk_42_method_150_code_97 : decode jdk_42_method_150_code 97 = .ok (.return_, 1) := by decide +kernel
theorem own_ef_rmSI2 (x0 : Addr) (x1 : Addr) (m : MethodId) : entryFrame m #[(.ref x0), (.ref x1), .null] 5 = mkF m 0 #[.val (.ref x0), .val (.ref x1), .val .null, .unset, .unset] [] := by first | (simp [entryFrame, mkF, argsToLocals, Value.category]; done) | rfl
set_option maxRecDepth 65536 in
set_option maxHeartbeats 40000000 in
theorem rmSI2 (l : Launch) (Z : State) (a0 : Array Value) (hw : ∀ d ∈ tables_1, d.before a0 Z = true) (st' sb : Addr) (h0 : Heap) (n0 : Nat) (Z0 : n0 ≤ h0.size) (H : Heap) (fx : Addr) (hn0 : H.size ≤ n0) (cs : Int32) (hcs : ¬ cs = 0) (Scs : Sta Z H "java/lang/String" "COMPACT_STRINGS" "Z" (.int cs)) (dg : Addr) (Sdg : Sta Z H "java/lang/Integer" "DigitOnes" "[B" (.ref dg)) (df : Nat → Value) (Adg : OArr Z H dg .byte 100 df) (xd : Int32) (hdf : df (1 : Int32).toNatClampNeg = .int xd) (hxd : -128 ≤ xd.toInt ∧ xd.toInt < 128) (EF : Exa Z H fx "com/example/wildsolve/wildsolve/infer/Fresh") (nfd : dg ≠ fx) (KZ : Keep H h0 [fx]) (hB : Bd Z h0 sb (2 : Int32) n0) (ES : Exa Z h0 st' "java/lang/String") (FSv : Fld Z h0 st' "java/lang/String" "value" "[B" .null) (FSc : Fld Z h0 st' "java/lang/String" "coder" "B" (.int (0 : Int32))) (abs : n0 ≤ st') (nss : st' ≠ sb)  :
    OCon l Z (⟨"java/lang/String", "<init>", "(Ljava/lang/AbstractStringBuilder;Ljava/lang/Void;)V"⟩ : MethodName) jdk_42_method_150_code 5 none ({ frames := 3, cells := 1, slots := 2, locals := 49 } : Room) #[(.ref st'), (.ref sb), .null] h0 (fun v h L => v = none ∧ Fr n0 L ∧ Keep H h [fx] ∧ Low n0 h0 h) := by
  refine OConK.intro (y := (⟨"java/lang/String", "<init>", "(Ljava/lang/AbstractStringBuilder;Ljava/lang/Void;)V"⟩ : MethodName)) (plainFor_of_name own_pn_java_lang_String) (own_ef_rmSI2 st' sb) ?_
  intro p e s m below meth c s₁ hx hby hml hown hnm hret hlk hZ X0 e0
  obtain ⟨v1, gf2, E3, F4, F5, F6, A7, hg8, b9, b10⟩ := hB
  have nq11 := oNeA E3 (hw _ (List.mem_of_getElem? (i := 60) rfl)) A7
  have nq12 := oNeA ES (hw _ (List.mem_of_getElem? (i := 80) rfl)) A7
  show OGoal p e below s _ _ _ (s₁.setTop (mkF m 0 #[.val (.ref st'), .val (.ref sb), .val .null, .unset, .unset] []))
  refine OGoal.mp (S' := (s₁.setTop (mkF m 1 #[.val (.ref st'), .val (.ref sb), .val .null, .unset, .unset] [(.ref st')]))) (fun _ k => XS.aloadN X0.here hx rfl (hb hby own_d_jdk_42_method_150_code_0) rfl rfl k) ?_
  obtain ⟨T13, X14, e15, st16⟩ := initO X0 hx hZ hown (hw _ (List.mem_of_getElem? (i := 172) rfl)) (hw _ (List.mem_of_getElem? (i := 7) rfl)) (hw _ (List.mem_of_getElem? (i := 8) rfl)) e0 (g := mkF m 1 #[.val (.ref st'), .val (.ref sb), .val .null, .unset, .unset] [(.ref st')]) rfl (by rw [hml]; rfl) rfl (hb hby own_d_jdk_42_method_150_code_1) (by decide) (W := 0) (by show 2 * 0 + _ ≤ _; exact Nat.le_of_eq rfl) (by decide)
  refine OGoal.mp (S' := (T13.setTop (mkF m 4 #[.val (.ref st'), .val (.ref sb), .val .null, .unset, .unset] []))) (fun _ k => st16 _ k) ?_
  refine OGoal.mp (S' := (T13.setTop (mkF m 5 #[.val (.ref st'), .val (.ref sb), .val .null, .unset, .unset] [(.ref sb)]))) (fun _ k => XS.aloadN X14.here hx rfl (hb hby own_d_jdk_42_method_150_code_4) rfl rfl k) ?_
  refine oCallV (y := (⟨"java/lang/AbstractStringBuilder", "getValue", "()[B"⟩ : MethodName)) (z := (⟨"java/lang/AbstractStringBuilder", "getValue", "()[B"⟩ : MethodName)) X14 hx hZ hown (hw _ (List.mem_of_getElem? (i := 173) rfl)) (hw _ (List.mem_of_getElem? (i := 174) rfl)) (hw _ (List.mem_of_getElem? (i := 176) rfl)) (hw _ (List.mem_of_getElem? (i := 175) rfl)) (hw _ (List.mem_of_getElem? (i := 69) rfl)) (hw _ (List.mem_of_getElem? (i := 177) rfl)) (by decide) (rmGV l Z a0 hw sb h0 n0 Z0 v1 gf2 E3 F4 F5 A7) e15 E3 [] [] rfl rfl (by rw [hml]; rfl) (notFace_of_selects (args := #[]) (mvT hZ (hw _ (List.mem_of_getElem? (i := 176) rfl)))) (lenOf own_pd____B rfl) 0 (Nat.le_of_eq rfl) (by decide) (by decide) (by decide) (by decide) (hb hby own_d_jdk_42_method_150_code_5) ?_
  intro v17 T18 L19 X20 q21
  obtain ⟨rfl, N22, e23⟩ := q21
  have N24 := Fr.app (Fr.nil n0) N22
  show OGoal p e below s _ _ _ (T18.setTop (mkF m 8 #[.val (.ref st'), .val (.ref sb), .val .null, .unset, .unset] [(.ref v1)]))
  refine OGoal.mp (S' := (T18.setTop (mkF m 9 #[.val (.ref st'), .val (.ref sb), .val .null, .val (.ref v1), .unset] []))) (fun _ k => XS.astoreN X20.here hx rfl (hb hby own_d_jdk_42_method_150_code_8) rfl rfl (l' := #[.val (.ref st'), .val (.ref sb), .val .null, .val (.ref v1), .unset]) rfl k) ?_
  refine OGoal.mp (S' := (T18.setTop (mkF m 10 #[.val (.ref st'), .val (.ref sb), .val .null, .val (.ref v1), .unset] [(.ref sb)]))) (fun _ k => XS.aloadN X20.here hx rfl (hb hby own_d_jdk_42_method_150_code_9) rfl rfl k) ?_
  refine oCallV (y := (⟨"java/lang/AbstractStringBuilder", "length", "()I"⟩ : MethodName)) (z := (⟨"java/lang/StringBuilder", "length", "()I"⟩ : MethodName)) X20 hx hZ hown (hw _ (List.mem_of_getElem? (i := 178) rfl)) (hw _ (List.mem_of_getElem? (i := 179) rfl)) (hw _ (List.mem_of_getElem? (i := 181) rfl)) (hw _ (List.mem_of_getElem? (i := 182) rfl)) (hw _ (List.mem_of_getElem? (i := 61) rfl)) (hw _ (List.mem_of_getElem? (i := 183) rfl)) (by decide) (rmSL l Z a0 hw sb h0 n0 Z0 E3 F6) e23 E3 [] [] rfl rfl (by rw [hml]; rfl) (oNF (args := #[]) (y0 := (⟨"java/lang/AbstractStringBuilder", "ensureCapacityInternal", "(I)V"⟩ : MethodName)) rfl (mvT hZ (hw _ (List.mem_of_getElem? (i := 113) rfl)))) (lenOf own_pd___I rfl) 0 (Nat.le_of_eq rfl) (by decide) (by decide) (by decide) (by decide) (hb hby own_d_jdk_42_method_150_code_10) ?_
  intro v25 T26 L27 X28 q29
  obtain ⟨rfl, N30, e31⟩ := q29
  have N32 := Fr.app N24 N30
  show OGoal p e below s _ _ _ (T26.setTop (mkF m 13 #[.val (.ref st'), .val (.ref sb), .val .null, .val (.ref v1), .unset] [(.int (2 : Int32))]))
  refine OGoal.mp (S' := (T26.setTop (mkF m 15 #[.val (.ref st'), .val (.ref sb), .val .null, .val (.ref v1), .val (.int (2 : Int32))] []))) (fun _ k => XS.istore X28.here hx rfl (hb hby own_d_jdk_42_method_150_code_13) rfl (l' := #[.val (.ref st'), .val (.ref sb), .val .null, .val (.ref v1), .val (.int (2 : Int32))]) rfl k) ?_
  refine OGoal.mp (S' := (T26.setTop (mkF m 16 #[.val (.ref st'), .val (.ref sb), .val .null, .val (.ref v1), .val (.int (2 : Int32))] [(.ref sb)]))) (fun _ k => XS.aloadN X28.here hx rfl (hb hby own_d_jdk_42_method_150_code_15) rfl rfl k) ?_
  refine oCallV (y := (⟨"java/lang/AbstractStringBuilder", "isLatin1", "()Z"⟩ : MethodName)) (z := (⟨"java/lang/AbstractStringBuilder", "isLatin1", "()Z"⟩ : MethodName)) X28 hx hZ hown (hw _ (List.mem_of_getElem? (i := 186) rfl)) (hw _ (List.mem_of_getElem? (i := 151) rfl)) (hw _ (List.mem_of_getElem? (i := 153) rfl)) (hw _ (List.mem_of_getElem? (i := 152) rfl)) (hw _ (List.mem_of_getElem? (i := 69) rfl)) (hw _ (List.mem_of_getElem? (i := 154) rfl)) (by decide) (rmIL l Z a0 hw sb h0 n0 Z0 H fx hn0 cs hcs Scs dg Sdg df Adg xd hdf hxd EF nfd KZ v1 gf2 E3 F4 F5 A7) e31 E3 [] [] rfl rfl (by rw [hml]; rfl) (notFace_of_selects (args := #[]) (mvT hZ (hw _ (List.mem_of_getElem? (i := 153) rfl)))) (lenOf own_pd___Z rfl) 0 (Nat.le_of_eq rfl) (by decide) (by decide) (by decide) (by decide) (hb hby own_d_jdk_42_method_150_code_16) ?_
  intro v33 T34 L35 X36 q37
  obtain ⟨rfl, N38, e39⟩ := q37
  have N40 := Fr.app N32 N38
  show OGoal p e below s _ _ _ (T34.setTop (mkF m 19 #[.val (.ref st'), .val (.ref sb), .val .null, .val (.ref v1), .val (.int (2 : Int32))] [(.int (1 : Int32))]))
  refine OGoal.mp (S' := (T34.setTop (mkF m 22 #[.val (.ref st'), .val (.ref sb), .val .null, .val (.ref v1), .val (.int (2 : Int32))] []))) (fun _ k => XS.ifNo X36.here hx rfl (hb hby own_d_jdk_42_method_150_code_19) rfl (XT.i0_eq_f (by decide)) k) ?_
  refine OGoal.mp (S' := (T34.setTop (mkF m 23 #[.val (.ref st'), .val (.ref sb), .val .null, .val (.ref v1), .val (.int (2 : Int32))] [(.ref st')]))) (fun _ k => XS.aloadN X36.here hx rfl (hb hby own_d_jdk_42_method_150_code_22) rfl rfl k) ?_
  refine OGoal.mp (S' := (T34.setTop (mkF m 24 #[.val (.ref st'), .val (.ref sb), .val .null, .val (.ref v1), .val (.int (2 : Int32))] [(.int (0 : Int32)), (.ref st')]))) (fun _ k => XS.iconst X36.here hx rfl (hb hby own_d_jdk_42_method_150_code_23) k) ?_
  obtain ⟨T41, h45, X42, e43, W46, st44⟩ := putF X36 hx hZ hown (host := "") (Or.inl (hw _ (List.mem_of_getElem? (i := 107) rfl))) Via.refl e39 FSc ES (Or.inr ⟨(hw _ (List.mem_of_getElem? (i := 82) rfl)), rfl, hnm⟩) (hw _ (List.mem_of_getElem? (i := 80) rfl)) (ty := .byte) (by decide) rfl rfl (g := mkF m 24 #[.val (.ref st'), .val (.ref sb), .val .null, .val (.ref v1), .val (.int (2 : Int32))] [(.int (0 : Int32)), (.ref st')]) rfl rfl (hb hby own_d_jdk_42_method_150_code_24)
  have N47 := Fr.snoc X42 N40 abs
  have Z48 : n0 ≤ h45.size := Nat.le_trans Z0 (Keep.of_wr W46).1
  have K49 : Keep h0 h45 [st'] := (Keep.refl h0 [st']).wr W46 (Or.inl (by simp))
  have F50 := KZ.wr W46 (Or.inr (Nat.le_trans hn0 abs))
  have F51 := (Low.refl n0 h0).keep (Keep.of_wr W46) abs
  have F52 := ES.wr W46
  have F53 := FSv.other W46 (Or.inr (slot_ne (a0 := a0) (C := "java/lang/String") (t := (.array .byte)) (t' := .byte) (Or.inr (hw _ (List.mem_of_getElem? (i := 81) rfl))) (Or.inr (hw _ (List.mem_of_getElem? (i := 82) rfl))) (by decide) (by decide) (by decide)))
  have F54 := FSc.same W46
  have F55 := E3.wr W46
  have F56 := F4.other W46 (Or.inl nss.symm)
  have F57 := F5.other W46 (Or.inl nss.symm)
  have F58 := F6.other W46 (Or.inl nss.symm)
  have F59 := A7.other W46 nq12.symm
  refine OGoal.mp (S' := (T41.setTop (mkF m 27 #[.val (.ref st'), .val (.ref sb), .val .null, .val (.ref v1), .val (.int (2 : Int32))] []))) (fun _ k => st44 _ k) ?_
  refine OGoal.mp (S' := (T41.setTop (mkF m 28 #[.val (.ref st'), .val (.ref sb), .val .null, .val (.ref v1), .val (.int (2 : Int32))] [(.ref st')]))) (fun _ k => XS.aloadN X42.here hx rfl (hb hby own_d_jdk_42_method_150_code_27) rfl rfl k) ?_
  refine OGoal.mp (S' := (T41.setTop (mkF m 29 #[.val (.ref st'), .val (.ref sb), .val .null, .val (.ref v1), .val (.int (2 : Int32))] [(.ref v1), (.ref st')]))) (fun _ k => XS.aloadN X42.here hx rfl (hb hby own_d_jdk_42_method_150_code_28) rfl rfl k) ?_
  refine OGoal.mp (S' := (T41.setTop (mkF m 30 #[.val (.ref st'), .val (.ref sb), .val .null, .val (.ref v1), .val (.int (2 : Int32))] [(.int (0 : Int32)), (.ref v1), (.ref st')]))) (fun _ k => XS.iconst X42.here hx rfl (hb hby own_d_jdk_42_method_150_code_29) k) ?_
  refine OGoal.mp (S' := (T41.setTop (mkF m 32 #[.val (.ref st'), .val (.ref sb), .val .null, .val (.ref v1), .val (.int (2 : Int32))] [(.int (2 : Int32)), (.int (0 : Int32)), (.ref v1), (.ref st')]))) (fun _ k => XS.iload X42.here hx rfl (hb hby own_d_jdk_42_method_150_code_30) rfl k) ?_
  refine oCallS (y := (⟨"java/util/Arrays", "copyOfRange", "([BII)[B"⟩ : MethodName)) X42 hx hZ hown (hw _ (List.mem_of_getElem? (i := 187) rfl)) (hw _ (List.mem_of_getElem? (i := 188) rfl)) (hw _ (List.mem_of_getElem? (i := 189) rfl)) (hw _ (List.mem_of_getElem? (i := 190) rfl)) (by decide) (rmCR l Z a0 hw v1 h45 n0 Z48 gf2 F59 hg8) e43 [(.ref v1), (.int (0 : Int32)), (.int (2 : Int32))] [(.ref st')] rfl rfl (by rw [hml]; rfl) (lenOf own_pd___BII__B rfl) 1 (Nat.le_of_eq rfl) (by decide) (by decide) (by decide) (by decide) (hb hby own_d_jdk_42_method_150_code_32) ?_
  intro v61 T62 L63 X64 q65
  obtain ⟨r60, rfl, N66, K67⟩ := q65
  have N68 := Fr.app N47 N66
  have F69 := F52.keep K67
  have F70 := F53.keep K67 nin0
  have F71 := F54.keep K67 nin0
  have K72 := F50.trans K67 (fun x q => nomatch q)
  have Lw73 := F51.ext (oKext K67)
  have K74 : Keep h0 T62.heap [st'] := K49.trans K67 (fun x q => nomatch q)
  have Z75 : n0 ≤ T62.heap.size := Nat.le_trans Z48 K67.1
  show OGoal p e below s _ _ _ (T62.setTop (mkF m 35 #[.val (.ref st'), .val (.ref sb), .val .null, .val (.ref v1), .val (.int (2 : Int32))] [(.ref r60), (.ref st')]))
  obtain ⟨T76, h80, X77, e78, W81, st79⟩ := putF X64 hx hZ hown (host := "") (Or.inl (hw _ (List.mem_of_getElem? (i := 100) rfl))) Via.refl rfl F70 F69 (Or.inr ⟨(hw _ (List.mem_of_getElem? (i := 81) rfl)), rfl, hnm⟩) (hw _ (List.mem_of_getElem? (i := 80) rfl)) (ty := (.array .byte)) (by decide) rfl rfl (g := mkF m 35 #[.val (.ref st'), .val (.ref sb), .val .null, .val (.ref v1), .val (.int (2 : Int32))] [(.ref r60), (.ref st')]) rfl rfl (hb hby own_d_jdk_42_method_150_code_35)
  have N82 := Fr.snoc X77 N68 abs
  have Z83 : n0 ≤ h80.size := Nat.le_trans Z75 (Keep.of_wr W81).1
  have K84 : Keep h0 h80 [st'] := K74.wr W81 (Or.inl (by simp))
  have F85 := F69.wr W81
  have F86 := F70.same W81
  have F87 := F71.other W81 (Or.inr (slot_ne (a0 := a0) (C := "java/lang/String") (t := .byte) (t' := (.array .byte)) (Or.inr (hw _ (List.mem_of_getElem? (i := 82) rfl))) (Or.inr (hw _ (List.mem_of_getElem? (i := 81) rfl))) (by decide) (by decide) (by decide)))
  have F88 := K72.wr W81 (Or.inr (Nat.le_trans hn0 abs))
  have F89 := Lw73.keep (Keep.of_wr W81) abs
  refine OGoal.mp (S' := (T76.setTop (mkF m 38 #[.val (.ref st'), .val (.ref sb), .val .null, .val (.ref v1), .val (.int (2 : Int32))] []))) (fun _ k => st79 _ k) ?_
  refine OGoal.mp (S' := (T76.setTop (mkF m 97 #[.val (.ref st'), .val (.ref sb), .val .null, .val (.ref v1), .val (.int (2 : Int32))] []))) (fun _ k => XS.goto X77.here hx rfl (pc0 := 38) (pc' := 97) rfl (hb hby own_d_jdk_42_method_150_code_38) (by decide) (by decide) k) ?_
  refine oRetV X77 hx hlk hret (hb hby own_d_jdk_42_method_150_code_97) ?_ (by decide) (by decide)
  rw [e78]; exact ⟨rfl, N82, F88, F89⟩
theorem own_d_jdk_42_method_53_code_0 : decode jdk_42_method_53_code 0 = .ok (.aload_n 0, 1) := by decide +kernel
theorem own_d_jdk_42_method_53_code_1 : decode jdk_42_method_53_code 1 = .ok (.aload_n 1, 1) := by decide +kernel
theorem own_d_jdk_42_method_53_code_2 : decode jdk_42_method_53_code 2 = .ok (.aconst_null, 1) := by decide +kernel
theorem own_d_jdk_42_method_53_code_3 : decode jdk_42_method_53_code 3 = .ok (.invokespecial 489, 3) := by decide +kernel
theorem own_pd__Ljava_lang_AbstractStringBuilder_Ljava_lang_Void__V : parseMethodDescriptor "(Ljava/lang/AbstractStringBuilder;Ljava/lang/Void;)V" = some ⟨[(.object "java/lang/AbstractStringBuilder"), (.object "java/lang/Void")], none⟩ := by decide +kernel
theorem own_d_jdk_42_method_53_code_6 : decode jdk_42_method_53_code 6 = .ok (.return_, 1) := by decide +kernel
theorem own_ef_rmSI1 (x0 : Addr) (x1 : Addr) (m : MethodId) : entryFrame m #[(.ref x0), (.ref x1)] 2 = mkF m 0 #[.val (.ref x0), .val (.ref x1)] [] := by first | (simp [entryFrame, mkF, argsToLocals, Value.category]; done) | rfl
set_option maxRecDepth 65536 in
set_option maxHeartbeats 40000000 in
theorem rmSI1 (l : Launch) (Z : State) (a0 : Array Value) (hw : ∀ d ∈ tables_1, d.before a0 Z = true) (st' sb : Addr) (h0 : Heap) (n0 : Nat) (Z0 : n0 ≤ h0.size) (H : Heap) (fx : Addr) (hn0 : H.size ≤ n0) (cs : Int32) (hcs : ¬ cs = 0) (Scs : Sta Z H "java/lang/String" "COMPACT_STRINGS" "Z" (.int cs)) (dg : Addr) (Sdg : Sta Z H "java/lang/Integer" "DigitOnes" "[B" (.ref dg)) (df : Nat → Value) (Adg : OArr Z H dg .byte 100 df) (xd : Int32) (hdf : df (1 : Int32).toNatClampNeg = .int xd) (hxd : -128 ≤ xd.toInt ∧ xd.toInt < 128) (EF : Exa Z H fx "com/example/wildsolve/wildsolve/infer/Fresh") (nfd : dg ≠ fx) (KZ : Keep H h0 [fx]) (hB : Bd Z h0 sb (2 : Int32) n0) (ES : Exa Z h0 st' "java/lang/String") (FSv : Fld Z h0 st' "java/lang/String" "value" "[B" .null) (FSc : Fld Z h0 st' "java/lang/String" "coder" "B" (.int (0 : Int32))) (abs : n0 ≤ st') (nss : st' ≠ sb)  :
    OCon l Z (⟨"java/lang/String", "<init>", "(Ljava/lang/StringBuilder;)V"⟩ : MethodName) jdk_42_method_53_code 2 none ({ frames := 4, cells := 1, slots := 2, locals := 65 } : Room) #[(.ref st'), (.ref sb)] h0 (fun v h L => v = none ∧ Fr n0 L ∧ Keep H h [fx] ∧ Low n0 h0 h) := by
  refine OConK.intro (y := (⟨"java/lang/String", "<init>", "(Ljava/lang/StringBuilder;)V"⟩ : MethodName)) (plainFor_of_name own_pn_java_lang_String) (own_ef_rmSI1 st' sb) ?_
  intro p e s m below meth c s₁ hx hby hml hown hnm hret hlk hZ X0 e0
  show OGoal p e below s _ _ _ (s₁.setTop (mkF m 0 #[.val (.ref st'), .val (.ref sb)] []))
  refine OGoal.mp (S' := (s₁.setTop (mkF m 1 #[.val (.ref st'), .val (.ref sb)] [(.ref st')]))) (fun _ k => XS.aloadN X0.here hx rfl (hb hby own_d_jdk_42_method_53_code_0) rfl rfl k) ?_
  refine OGoal.mp (S' := (s₁.setTop (mkF m 2 #[.val (.ref st'), .val (.ref sb)] [(.ref sb), (.ref st')]))) (fun _ k => XS.aloadN X0.here hx rfl (hb hby own_d_jdk_42_method_53_code_1) rfl rfl k) ?_
  refine OGoal.mp (S' := (s₁.setTop (mkF m 3 #[.val (.ref st'), .val (.ref sb)] [.null, (.ref sb), (.ref st')]))) (fun _ k => XS.aconstNull X0.here hx rfl (hb hby own_d_jdk_42_method_53_code_2) k) ?_
  refine oCallN (y := (⟨"java/lang/String", "<init>", "(Ljava/lang/AbstractStringBuilder;Ljava/lang/Void;)V"⟩ : MethodName)) X0 hx hZ rfl hown (hw _ (List.mem_of_getElem? (i := 169) rfl)) (hw _ (List.mem_of_getElem? (i := 170) rfl)) (hw _ (List.mem_of_getElem? (i := 73) rfl)) (hw _ (List.mem_of_getElem? (i := 171) rfl)) (by decide) (rmSI2 l Z a0 hw st' sb h0 n0 Z0 H fx hn0 cs hcs Scs dg Sdg df Adg xd hdf hxd EF nfd KZ hB ES FSv FSc abs nss) e0 [(.ref sb), .null] [] rfl rfl (by rw [hml]; rfl) (lenOf own_pd__Ljava_lang_AbstractStringBuilder_Ljava_lang_Void__V rfl) 0 (Nat.le_of_eq rfl) (by decide) (by decide) (by decide) (by decide) (hb hby own_d_jdk_42_method_53_code_3) ?_
  intro v1 T2 L3 X4 q5
  obtain ⟨rfl, Nq, r1⟩ := q5
  have Nr := Fr.app (Fr.nil n0) Nq
  show OGoal p e below s _ _ _ (T2.setTop (mkF m 6 #[.val (.ref st'), .val (.ref sb)] []))
  refine oRetV X4 hx hlk hret (hb hby own_d_jdk_42_method_53_code_6) ?_ (by decide) (by decide)
  exact ⟨rfl, Nr, r1⟩
theorem own_d_jdk_67_method_42_code_0 : decode jdk_67_method_42_code 0 = .ok (.new 18, 3) := by decide +kernel
theorem own_d_jdk_67_method_42_code_3 : decode jdk_67_method_42_code 3 = .ok (.dup, 1) := by decide +kernel
theorem own_d_jdk_67_method_42_code_4 : decode jdk_67_method_42_code 4 = .ok (.aload_n 0, 1) := by decide +kernel
theorem own_d_jdk_67_method_42_code_5 : decode jdk_67_method_42_code 5 = .ok (.invokespecial 137, 3) := by decide +kernel
theorem own_pd__Ljava_lang_StringBuilder__V : parseMethodDescriptor "(Ljava/lang/StringBuilder;)V" = some ⟨[(.object "java/lang/StringBuilder")], none⟩ := by decide +kernel
theorem own_d_jdk_67_method_42_code_8 : decode jdk_67_method_42_code 8 = .ok (.areturn, 1) := by decide +kernel
theorem own_ef_rmTS (x0 : Addr) (m : MethodId) : entryFrame m #[(.ref x0)] 1 = mkF m 0 #[.val (.ref x0)] [] := by first | (simp [entryFrame, mkF, argsToLocals, Value.category]; done) | rfl
set_option maxRecDepth 65536 in
set_option maxHeartbeats 40000000 in
theorem rmTS (l : Launch) (Z : State) (a0 : Array Value) (hw : ∀ d ∈ tables_1, d.before a0 Z = true) (sb : Addr) (h0 : Heap) (n0 : Nat) (Z0 : n0 ≤ h0.size) (H : Heap) (fx : Addr) (hn0 : H.size ≤ n0) (cs : Int32) (hcs : ¬ cs = 0) (Scs : Sta Z H "java/lang/String" "COMPACT_STRINGS" "Z" (.int cs)) (dg : Addr) (Sdg : Sta Z H "java/lang/Integer" "DigitOnes" "[B" (.ref dg)) (df : Nat → Value) (Adg : OArr Z H dg .byte 100 df) (xd : Int32) (hdf : df (1 : Int32).toNatClampNeg = .int xd) (hxd : -128 ≤ xd.toInt ∧ xd.toInt < 128) (EF : Exa Z H fx "com/example/wildsolve/wildsolve/infer/Fresh") (nfd : dg ≠ fx) (KZ : Keep H h0 [fx]) (hB : Bd Z h0 sb (2 : Int32) n0)  :
    OCon l Z (⟨"java/lang/StringBuilder", "toString", "()Ljava/lang/String;"⟩ : MethodName) jdk_67_method_42_code 1 (some (.object "java/lang/String")) ({ frames := 5, cells := 2, slots := 6, locals := 79 } : Room) #[(.ref sb)] h0 (fun v h L => ∃ r, v = some (.ref r) ∧ Fr n0 L ∧ Keep H h [fx] ∧ Low n0 h0 h) := by
  refine OConK.intro (y := (⟨"java/lang/StringBuilder", "toString", "()Ljava/lang/String;"⟩ : MethodName)) (plainFor_of_name own_pn_java_lang_StringBuilder) (own_ef_rmTS sb) ?_
  intro p e s m below meth c s₁ hx hby hml hown hnm hret hlk hZ X0 e0
  show OGoal p e below s _ _ _ (s₁.setTop (mkF m 0 #[.val (.ref sb)] []))
  obtain ⟨T1, h5, X2, e3, E6, A7, D8, -, st4⟩ := newO X0 hx hZ hown (hw _ (List.mem_of_getElem? (i := 164) rfl)) (hw _ (List.mem_of_getElem? (i := 80) rfl)) (hw _ (List.mem_of_getElem? (i := 73) rfl)) e0 (g := mkF m 0 #[.val (.ref sb)] []) rfl (hb hby own_d_jdk_67_method_42_code_0) (by decide) (by decide)
  obtain ⟨a9, g10⟩ : ∃ z, z = h0.size := ⟨_, rfl⟩
  rw [← g10] at A7 D8 st4
  have lt11 : sb < a9 := by rw [g10]; exact hB.exa.lt
  have F12 := KZ.ext E6
  have F13 := (Low.refl n0 h0).ext E6
  have F14 := hB.exa.ext E6
  have F15 : Fld Z h5 a9 "java/lang/String" "value" "[B" .null := D8 (Or.inr (hw _ (List.mem_of_getElem? (i := 81) rfl))) (ty := (.array .byte)) (by decide)
  have F16 : Fld Z h5 a9 "java/lang/String" "coder" "B" (.int (0 : Int32)) := D8 (Or.inr (hw _ (List.mem_of_getElem? (i := 82) rfl))) (ty := .byte) (by decide)
  have Z17 : n0 ≤ h5.size := Nat.le_trans Z0 E6.1
  have ab18 : n0 ≤ a9 := Nat.le_trans Z0 (Nat.le_of_eq g10.symm)
  refine OGoal.mp (S' := (T1.setTop (mkF m 3 #[.val (.ref sb)] [(.ref a9)]))) (fun _ k => st4 _ k) ?_
  refine OGoal.mp (S' := (T1.setTop (mkF m 4 #[.val (.ref sb)] [(.ref a9), (.ref a9)]))) (fun _ k => XS.dup X2.here hx rfl (hb hby own_d_jdk_67_method_42_code_3) rfl rfl k) ?_
  refine OGoal.mp (S' := (T1.setTop (mkF m 5 #[.val (.ref sb)] [(.ref sb), (.ref a9), (.ref a9)]))) (fun _ k => XS.aloadN X2.here hx rfl (hb hby own_d_jdk_67_method_42_code_4) rfl rfl k) ?_
  have B19 := hB.ext E6
  refine oCallN (y := (⟨"java/lang/String", "<init>", "(Ljava/lang/StringBuilder;)V"⟩ : MethodName)) X2 hx hZ rfl hown (hw _ (List.mem_of_getElem? (i := 165) rfl)) (hw _ (List.mem_of_getElem? (i := 166) rfl)) (hw _ (List.mem_of_getElem? (i := 73) rfl)) (hw _ (List.mem_of_getElem? (i := 168) rfl)) (by decide) (rmSI1 l Z a0 hw a9 sb h5 n0 Z17 H fx hn0 cs hcs Scs dg Sdg df Adg xd hdf hxd EF nfd F12 B19 A7 F15 F16 ab18 (Nat.ne_of_gt lt11)) e3 [(.ref sb)] [(.ref a9)] rfl rfl (by rw [hml]; rfl) (lenOf own_pd__Ljava_lang_StringBuilder__V rfl) 1 (Nat.le_of_eq rfl) (by decide) (by decide) (by decide) (by decide) (hb hby own_d_jdk_67_method_42_code_5) ?_
  intro v20 T21 L22 X23 q24
  obtain ⟨rfl, Nq, Kq, Sq⟩ := q24
  have Nr := Fr.app (Fr.nil n0) Nq
  show OGoal p e below s _ _ _ (T21.setTop (mkF m 8 #[.val (.ref sb)] [(.ref a9)]))
  refine oRetA X23 hx hlk hret rfl rfl (hb hby own_d_jdk_67_method_42_code_8) ?_ (by decide) (by decide)
  exact ⟨_, rfl, Nr, Kq, ((Low.refl n0 h0).ext E6).trans Sq⟩
theorem own_f35 : ∀ i : Nat, fits .byte (([.int 35] : List Value).getD i (.int 0)) = true
  | 0 => by decide
  | _ + 1 => by rfl
theorem own_d_prog_22_method_4_code_0 : decode prog_22_method_4_code 0 = .ok (.new 18, 3) := by decide +kernel
theorem own_d_prog_22_method_4_code_3 : decode prog_22_method_4_code 3 = .ok (.dup, 1) := by decide +kernel
theorem own_d_prog_22_method_4_code_4 : decode prog_22_method_4_code 4 = .ok (.invokespecial 20, 3) := by decide +kernel
theorem own_pd___V : parseMethodDescriptor "()V" = some ⟨[], none⟩ := by decide +kernel
theorem own_d_prog_22_method_4_code_7 : decode prog_22_method_4_code 7 = .ok (.ldc 21, 2) := by decide +kernel
theorem own_d_prog_22_method_4_code_9 : decode prog_22_method_4_code 9 = .ok (.invokevirtual 23, 3) := by decide +kernel
theorem own_pd__Ljava_lang_String__Ljava_lang_StringBuilder_ : parseMethodDescriptor "(Ljava/lang/String;)Ljava/lang/StringBuilder;" = some ⟨[(.object "java/lang/String")], some (.object "java/lang/StringBuilder")⟩ := by decide +kernel
theorem own_d_prog_22_method_4_code_12 : decode prog_22_method_4_code 12 = .ok (.aload_n 0, 1) := by decide +kernel
theorem own_d_prog_22_method_4_code_13 : decode prog_22_method_4_code 13 = .ok (.dup, 1) := by decide +kernel
theorem own_d_prog_22_method_4_code_14 : decode prog_22_method_4_code 14 = .ok (.getfield 27, 3) := by decide +kernel
theorem own_d_prog_22_method_4_code_17 : decode prog_22_method_4_code 17 = .ok (.iconst 1, 1) := by decide +kernel
theorem own_d_prog_22_method_4_code_18 : decode prog_22_method_4_code 18 = .ok (.iadd, 1) := by decide +kernel
theorem own_d_prog_22_method_4_code_19 : decode prog_22_method_4_code 19 = .ok (.dup_x1, 1) := by decide +kernel
theorem own_d_prog_22_method_4_code_20 : decode prog_22_method_4_code 20 = .ok (.putfield 27, 3) := by decide +kernel
theorem own_d_prog_22_method_4_code_23 : decode prog_22_method_4_code 23 = .ok (.invokevirtual 30, 3) := by decide +kernel
theorem own_pd__I_Ljava_lang_StringBuilder_ : parseMethodDescriptor "(I)Ljava/lang/StringBuilder;" = some ⟨[.int], some (.object "java/lang/StringBuilder")⟩ := by decide +kernel
theorem own_d_prog_22_method_4_code_26 : decode prog_22_method_4_code 26 = .ok (.invokevirtual 33, 3) := by decide +kernel
theorem own_pd___Ljava_lang_String_ : parseMethodDescriptor "()Ljava/lang/String;" = some ⟨[], some (.object "java/lang/String")⟩ := by decide +kernel
theorem own_d_prog_22_method_4_code_29 : decode prog_22_method_4_code 29 = .ok (.areturn, 1) := by decide +kernel
theorem own_pn_com_example_wildsolve_wildsolve_infer_Fresh : plainName "com/example/wildsolve/wildsolve/infer/Fresh" = true := by first | (simp [plainName, overriddenIn]; done) | decide +kernel
theorem own_ef_rmVa (x0 : Addr) (m : MethodId) : entryFrame m #[(.ref x0)] 1 = mkF m 0 #[.val (.ref x0)] [] := by first | (simp [entryFrame, mkF, argsToLocals, Value.category]; done) | rfl
set_option maxRecDepth 65536 in
set_option maxHeartbeats 40000000 in
theorem rmVa (l : Launch) (Z : State) (a0 : Array Value) (hw : ∀ d ∈ tables_1, d.before a0 Z = true) (f : Addr) (h0 : Heap) (n0 : Nat) (Z0 : n0 ≤ h0.size) (kp : Int32) (cs : Int32) (hcs : ¬ cs = 0) (Scs : Sta Z h0 "java/lang/String" "COMPACT_STRINGS" "Z" (.int cs)) (dg : Addr) (Sdg : Sta Z h0 "java/lang/Integer" "DigitOnes" "[B" (.ref dg)) (df : Nat → Value) (Adg : OArr Z h0 dg .byte 100 df) (xd : Int32) (hdf : df (1 : Int32).toNatClampNeg = .int xd) (hxd : -128 ≤ xd.toInt ∧ xd.toInt < 128) (nfd : dg ≠ f) (Ef : Exa Z h0 f "com/example/wildsolve/wildsolve/infer/Fresh") (Fv0 : Fld Z h0 f "com/example/wildsolve/wildsolve/infer/Fresh" "variables" "I" (.int (0 : Int32))) (Fp0 : Fld Z h0 f "com/example/wildsolve/wildsolve/infer/Fresh" "placeholders" "I" (.int kp)) (ab : n0 ≤ f) (hkp : ∀ (b : Addr) (cl : Cell), Z.heap[b]? = some cl → h0[b]? = some cl) (hcw : Jvm.Lit.compactW.before a0 Z = true) (hch : Jvm.Lit.constHeld Z "com/example/wildsolve/wildsolve/infer/Fresh" 21) :
    OConW l Z (⟨"com/example/wildsolve/wildsolve/infer/Fresh", "variable", "()Ljava/lang/String;"⟩ : MethodName) prog_22_method_4_code 1 (some (.object "java/lang/String")) ({ frames := 6, cells := 6, slots := 34, locals := 91 } : Room) #[(.ref f)] h0 (fun v h L => ∃ r, v = some (.ref r) ∧ Fr n0 L ∧ Keep h0 h [f] ∧ Exa Z h f "com/example/wildsolve/wildsolve/infer/Fresh" ∧ Fld Z h f "com/example/wildsolve/wildsolve/infer/Fresh" "placeholders" "I" (.int kp) ∧ Fld Z h f "com/example/wildsolve/wildsolve/infer/Fresh" "variables" "I" (.int (1 : Int32))) := by
  refine OConKW.intro (y := (⟨"com/example/wildsolve/wildsolve/infer/Fresh", "variable", "()Ljava/lang/String;"⟩ : MethodName)) (plainFor_of_name own_pn_com_example_wildsolve_wildsolve_infer_Fresh) (own_ef_rmVa f) ?_
  intro p e s m below meth c s₁ hx hby hml hown hnm hret hlk hZ hI hsh hS0 X0 e0
  have hfn : f < h0.size := Ef.lt
  show OGoalW p e below s _ _ _ (s₁.setTop (mkF m 0 #[.val (.ref f)] []))
  obtain ⟨T1, h5, X2, e3, E6, A7, D8, -, st4⟩ := newO X0 hx hZ hown (hw _ (List.mem_of_getElem? (i := 59) rfl)) (hw _ (List.mem_of_getElem? (i := 60) rfl)) (hw _ (List.mem_of_getElem? (i := 61) rfl)) e0 (g := mkF m 0 #[.val (.ref f)] []) rfl (hb hby own_d_prog_22_method_4_code_0) (by decide) (by decide)
  obtain ⟨a9, g10⟩ : ∃ z, z = h0.size := ⟨_, rfl⟩
  rw [← g10] at A7 D8 st4
  have lt11 : f < a9 := by rw [g10]; exact Ef.lt
  have fr12 : h0.size ≤ a9 := by rw [g10]; exact (Keep.refl h0 [f]).1
  have K13 : Keep h0 h5 [f] := (Keep.refl h0 [f]).ext E6
  have F14 := Ef.ext E6
  have F15 := Fv0.ext E6
  have F16 := Fp0.ext E6
  have F17 : Fld Z h5 a9 "java/lang/AbstractStringBuilder" "value" "[B" .null := D8 (Or.inl (hw _ (List.mem_of_getElem? (i := 76) rfl))) (ty := (.array .byte)) (by decide)
  have F18 : Fld Z h5 a9 "java/lang/AbstractStringBuilder" "coder" "B" (.int (0 : Int32)) := D8 (Or.inl (hw _ (List.mem_of_getElem? (i := 78) rfl))) (ty := .byte) (by decide)
  have F19 : Fld Z h5 a9 "java/lang/AbstractStringBuilder" "count" "I" (.int (0 : Int32)) := D8 (Or.inl (hw _ (List.mem_of_getElem? (i := 109) rfl))) (ty := .int) (by decide)
  have Z20 : n0 ≤ h5.size := Nat.le_trans Z0 E6.1
  have ab21 : n0 ≤ a9 := Nat.le_trans Z0 (Nat.le_of_eq g10.symm)
  refine OGoalW.mp (S' := (T1.setTop (mkF m 3 #[.val (.ref f)] [(.ref a9)]))) (fun _ k => st4 _ k) ?_
  refine OGoalW.mp (S' := (T1.setTop (mkF m 4 #[.val (.ref f)] [(.ref a9), (.ref a9)]))) (fun _ k => XS.dup X2.here hx rfl (hb hby own_d_prog_22_method_4_code_3) rfl rfl k) ?_
  refine oCallNW (y := (⟨"java/lang/StringBuilder", "<init>", "()V"⟩ : MethodName)) X2 hx hZ rfl hown (hw _ (List.mem_of_getElem? (i := 62) rfl)) (hw _ (List.mem_of_getElem? (i := 63) rfl)) (hw _ (List.mem_of_getElem? (i := 61) rfl)) (hw _ (List.mem_of_getElem? (i := 64) rfl)) (by decide) (rmSBI l Z a0 hw a9 h5 h0.size K13.1 h0 f (Nat.le_refl _) cs hcs Scs dg Sdg df Adg xd hdf hxd Ef nfd K13 A7 F17 F18 F19 fr12) e3 [] [(.ref a9)] rfl rfl (by rw [hml]; rfl) (lenOf own_pd___V rfl) 1 (Nat.le_of_eq rfl) (by decide) (by decide) (by decide) (by decide) (hb hby own_d_prog_22_method_4_code_4) ?_
  intro v22 T23 L24 X25 q26
  obtain ⟨rfl, N27, K28, Lw29, B30⟩ := q26
  have N31 := Fr.app (Fr.nil n0) (Fr.weak Z0 N27)
  have Nb32 := Fr.app (Fr.nil h0.size) N27
  have F33 := Lw29.exa hfn F14
  have F34 := Lw29.fld hfn F15
  have F35 := Lw29.fld hfn F16
  have Z36 : n0 ≤ T23.heap.size := Nat.le_trans Z20 Lw29.1
  show OGoalW p e below s _ _ _ (T23.setTop (mkF m 7 #[.val (.ref f)] [(.ref a9)]))
  obtain ⟨sa37, T38, h39, k40, sb41, kc42, X43, e44, E45, hS46, hk47, hZ, hown, E48, F49, F50, A51, la52, lb53, IB54, LT55, st56⟩ := ldcSVL X25 hx hZ hown (hw _ (List.mem_of_getElem? (i := 79) rfl)) (fun d hd => by simp only [Bundle.stringAtoms, List.mem_cons, List.not_mem_nil, or_false] at hd; rcases hd with rfl | rfl | rfl | rfl | rfl | rfl | rfl; exact hw _ (List.mem_of_getElem? (i := 73) rfl); exact hw _ (List.mem_of_getElem? (i := 80) rfl); exact hw _ (List.mem_of_getElem? (i := 74) rfl); exact hw _ (List.mem_of_getElem? (i := 81) rfl); exact hw _ (List.mem_of_getElem? (i := 82) rfl); exact hw _ (List.mem_of_getElem? (i := 83) rfl); exact hw _ (List.mem_of_getElem? (i := 84) rfl)) rfl hS0 (Nat.le_trans (Nat.le_trans (Nat.le_of_eq (congrArg Array.size hsh)) E6.1) Lw29.1) (fun y hy => by rw [hsh]; exact Nb32 y hy) (fun b cl q => by rw [hsh]; exact hkp b cl q) (Ts := []) ⟨#[], by simp [hI], fun q hq => by simp at hq⟩ (by simp) hch hcw (vs := [.int 35]) (z := 1) ⟨by decide, by decide⟩ (by decide) (by decide) (g := mkF m 7 #[.val (.ref f)] [(.ref a9)]) rfl (hb hby own_d_prog_22_method_4_code_7) (n := 4) (by decide) (by decide) (by decide) (by decide)
  have K57 : Keep h0 h39 [f] := K28.ext E45
  have F58 := F33.ext E45
  have F59 := F34.ext E45
  have F60 := F35.ext E45
  have F61 := B30.exa.ext E45
  have B62 := B30.ext E45
  have Z63 : n0 ≤ h39.size := Nat.le_trans Z36 E45.1
  have A64 := OArr.of_arv A51
  refine OGoalW.mp (S' := (T38.setTop (mkF m 9 #[.val (.ref f)] [(.ref sa37), (.ref a9)]))) (fun _ k => st56 _ k) ?_
  refine oCallVW (y := (⟨"java/lang/StringBuilder", "append", "(Ljava/lang/String;)Ljava/lang/StringBuilder;"⟩ : MethodName)) (z := (⟨"java/lang/StringBuilder", "append", "(Ljava/lang/String;)Ljava/lang/StringBuilder;"⟩ : MethodName)) X43 hx hZ hown (hw _ (List.mem_of_getElem? (i := 85) rfl)) (hw _ (List.mem_of_getElem? (i := 86) rfl)) (hw _ (List.mem_of_getElem? (i := 88) rfl)) (hw _ (List.mem_of_getElem? (i := 87) rfl)) (hw _ (List.mem_of_getElem? (i := 61) rfl)) (hw _ (List.mem_of_getElem? (i := 89) rfl)) (by decide) (rmSA l Z a0 hw a9 sa37 h39 h0.size K57.1 h0 f (Nat.le_refl _) cs hcs Scs dg Sdg df Adg xd hdf hxd Ef nfd K57 B62 sb41 _ E48 F50 F49 A64 own_f35) e44 F61 [(.ref sa37)] [] rfl rfl (by rw [hml]; rfl) (notFace_of_selects (args := #[]) (mvT hZ (hw _ (List.mem_of_getElem? (i := 88) rfl)))) (lenOf own_pd__Ljava_lang_String__Ljava_lang_StringBuilder_ rfl) 0 (Nat.le_of_eq rfl) (by decide) (by decide) (by decide) (by decide) (hb hby own_d_prog_22_method_4_code_9) ?_
  intro v65 T66 L67 X68 q69
  obtain ⟨rfl, N70, K71, Lw72, B73⟩ := q69
  have N74 := Fr.app N31 (Fr.weak Z0 N70)
  have F75 := Lw72.exa hfn F58
  have F76 := Lw72.fld hfn F59
  have F77 := Lw72.fld hfn F60
  have Z78 : n0 ≤ T66.heap.size := Nat.le_trans Z63 Lw72.1
  show OGoalW p e below s _ _ _ (T66.setTop (mkF m 12 #[.val (.ref f)] [(.ref a9)]))
  refine OGoalW.mp (S' := (T66.setTop (mkF m 13 #[.val (.ref f)] [(.ref f), (.ref a9)]))) (fun _ k => XS.aloadN X68.here hx rfl (hb hby own_d_prog_22_method_4_code_12) rfl rfl k) ?_
  refine OGoalW.mp (S' := (T66.setTop (mkF m 14 #[.val (.ref f)] [(.ref f), (.ref f), (.ref a9)]))) (fun _ k => XS.dup X68.here hx rfl (hb hby own_d_prog_22_method_4_code_13) rfl rfl k) ?_
  obtain ⟨T79, X80, e81, st82⟩ := getF X68 hx hZ hown (host := "") (Or.inl (hw _ (List.mem_of_getElem? (i := 135) rfl))) Via.refl rfl F76 (g := mkF m 14 #[.val (.ref f)] [(.ref f), (.ref f), (.ref a9)]) rfl rfl (hb hby own_d_prog_22_method_4_code_14)
  refine OGoalW.mp (S' := (T79.setTop (mkF m 17 #[.val (.ref f)] [(.int (0 : Int32)), (.ref f), (.ref a9)]))) (fun _ k => st82 _ k) ?_
  refine OGoalW.mp (S' := (T79.setTop (mkF m 18 #[.val (.ref f)] [(.int (1 : Int32)), (.int (0 : Int32)), (.ref f), (.ref a9)]))) (fun _ k => XS.iconst X80.here hx rfl (hb hby own_d_prog_22_method_4_code_17) k) ?_
  refine OGoalW.mp (S' := (T79.setTop (mkF m 19 #[.val (.ref f)] [(.int ((0 : Int32) + (1 : Int32))), (.ref f), (.ref a9)]))) (fun _ k => XS.iadd X80.here hx rfl (hb hby own_d_prog_22_method_4_code_18) rfl k) ?_
  rw [show ((0 : Int32) + (1 : Int32)) = (1 : Int32) by decide]
  show OGoalW p e below s _ _ _ (T79.setTop (mkF m 19 #[.val (.ref f)] [(.int (1 : Int32)), (.ref f), (.ref a9)]))
  refine OGoalW.mp (S' := (T79.setTop (mkF m 20 #[.val (.ref f)] [(.int (1 : Int32)), (.ref f), (.int (1 : Int32)), (.ref a9)]))) (fun _ k => XT.dupX1 X80.here hx rfl (hb hby own_d_prog_22_method_4_code_19) rfl rfl rfl k) ?_
  obtain ⟨T83, h87, X84, e85, W88, st86⟩ := putF X80 hx hZ hown (host := "") (Or.inl (hw _ (List.mem_of_getElem? (i := 135) rfl))) Via.refl e81 F76 F75 (Or.inl (hw _ (List.mem_of_getElem? (i := 136) rfl))) (hw _ (List.mem_of_getElem? (i := 1) rfl)) (ty := .int) (by decide) rfl rfl (g := mkF m 20 #[.val (.ref f)] [(.int (1 : Int32)), (.ref f), (.int (1 : Int32)), (.ref a9)]) rfl rfl (hb hby own_d_prog_22_method_4_code_20)
  have N89 := Fr.snoc X84 N74 ab
  have Z90 : n0 ≤ h87.size := Nat.le_trans Z78 (Keep.of_wr W88).1
  have K91 : Keep h0 h87 [f] := K71.wr W88 (Or.inl (by simp))
  have F92 := F75.wr W88
  have F93 := F76.same W88
  have F94 := F77.other W88 (Or.inr (slot_ne (a0 := a0) (C := "com/example/wildsolve/wildsolve/infer/Fresh") (t := .int) (t' := .int) (Or.inl (hw _ (List.mem_of_getElem? (i := 22) rfl))) (Or.inl (hw _ (List.mem_of_getElem? (i := 136) rfl))) (by decide) (by decide) (by decide)))
  have B95 := B73.keep (Keep.of_wr W88) F75 (hw _ (List.mem_of_getElem? (i := 1) rfl)) (Nat.ne_of_gt lt11)
  refine OGoalW.mp (S' := (T83.setTop (mkF m 23 #[.val (.ref f)] [(.int (1 : Int32)), (.ref a9)]))) (fun _ k => st86 _ k) ?_
  refine oCallVW (y := (⟨"java/lang/StringBuilder", "append", "(I)Ljava/lang/StringBuilder;"⟩ : MethodName)) (z := (⟨"java/lang/StringBuilder", "append", "(I)Ljava/lang/StringBuilder;"⟩ : MethodName)) X84 hx hZ hown (hw _ (List.mem_of_getElem? (i := 137) rfl)) (hw _ (List.mem_of_getElem? (i := 138) rfl)) (hw _ (List.mem_of_getElem? (i := 140) rfl)) (hw _ (List.mem_of_getElem? (i := 139) rfl)) (hw _ (List.mem_of_getElem? (i := 61) rfl)) (hw _ (List.mem_of_getElem? (i := 141) rfl)) (by decide) (rmSAI l Z a0 hw a9 h87 h0.size K91.1 h0 f (Nat.le_refl _) cs hcs Scs dg Sdg df Adg xd hdf hxd Ef nfd K91 B95) e85 B95.exa [(.int (1 : Int32))] [] rfl rfl (by rw [hml]; rfl) (notFace_of_selects (args := #[]) (mvT hZ (hw _ (List.mem_of_getElem? (i := 140) rfl)))) (lenOf own_pd__I_Ljava_lang_StringBuilder_ rfl) 0 (Nat.le_of_eq rfl) (by decide) (by decide) (by decide) (by decide) (hb hby own_d_prog_22_method_4_code_23) ?_
  intro v96 T97 L98 X99 q100
  obtain ⟨rfl, N101, K102, Lw103, B104⟩ := q100
  have N105 := Fr.app N89 (Fr.weak Z0 N101)
  have F106 := Lw103.exa hfn F92
  have F107 := Lw103.fld hfn F93
  have F108 := Lw103.fld hfn F94
  have Z109 : n0 ≤ T97.heap.size := Nat.le_trans Z90 Lw103.1
  show OGoalW p e below s _ _ _ (T97.setTop (mkF m 26 #[.val (.ref f)] [(.ref a9)]))
  refine oCallVW (y := (⟨"java/lang/StringBuilder", "toString", "()Ljava/lang/String;"⟩ : MethodName)) (z := (⟨"java/lang/StringBuilder", "toString", "()Ljava/lang/String;"⟩ : MethodName)) X99 hx hZ hown (hw _ (List.mem_of_getElem? (i := 159) rfl)) (hw _ (List.mem_of_getElem? (i := 160) rfl)) (hw _ (List.mem_of_getElem? (i := 162) rfl)) (hw _ (List.mem_of_getElem? (i := 161) rfl)) (hw _ (List.mem_of_getElem? (i := 61) rfl)) (hw _ (List.mem_of_getElem? (i := 163) rfl)) (by decide) (rmTS l Z a0 hw a9 T97.heap h0.size K102.1 h0 f (Nat.le_refl _) cs hcs Scs dg Sdg df Adg xd hdf hxd Ef nfd K102 B104) rfl B104.exa [] [] rfl rfl (by rw [hml]; rfl) (notFace_of_selects (args := #[]) (mvT hZ (hw _ (List.mem_of_getElem? (i := 162) rfl)))) (lenOf own_pd___Ljava_lang_String_ rfl) 0 (Nat.le_of_eq rfl) (by decide) (by decide) (by decide) (by decide) (hb hby own_d_prog_22_method_4_code_26) ?_
  intro v111 T112 L113 X114 q115
  obtain ⟨r110, rfl, N116, K117, Lw118⟩ := q115
  have N119 := Fr.app N105 (Fr.weak Z0 N116)
  have F120 := Lw118.exa hfn F106
  have F121 := Lw118.fld hfn F107
  have F122 := Lw118.fld hfn F108
  have Z123 : n0 ≤ T112.heap.size := Nat.le_trans Z109 Lw118.1
  show OGoalW p e below s _ _ _ (T112.setTop (mkF m 29 #[.val (.ref f)] [(.ref r110)]))
  refine oRetAW X114 hS46 (Nat.le_trans (Nat.le_trans (Nat.le_trans (Nat.le_trans (Nat.le_trans hk47 Lw72.1) (Keep.of_wr W88).1) Lw103.1) Lw118.1) (Nat.le_of_eq (congrArg Array.size rfl).symm)) hx hlk hret rfl rfl (hb hby own_d_prog_22_method_4_code_29) ?_ (by decide) (by decide)
  exact ⟨_, rfl, N119, K117, F120, F122, F121⟩
theorem own_d_jdk_30_method_1_code_0 : decode jdk_30_method_1_code 0 = .ok (.aload_n 0, 1) := by decide +kernel
theorem own_d_jdk_30_method_1_code_1 : decode jdk_30_method_1_code 1 = .ok (.invokespecial 1, 3) := by decide +kernel
theorem own_d_jdk_30_method_1_code_4 : decode jdk_30_method_1_code 4 = .ok (.return_, 1) := by decide +kernel
theorem own_pn_java_lang_Record : plainName "java/lang/Record" = true := by first | (simp [plainName, overriddenIn]; done) | decide +kernel
theorem own_ef_rmRec (x0 : Addr) (m : MethodId) : entryFrame m #[(.ref x0)] 1 = mkF m 0 #[.val (.ref x0)] [] := by first | (simp [entryFrame, mkF, argsToLocals, Value.category]; done) | rfl
set_option maxRecDepth 65536 in
set_option maxHeartbeats 40000000 in
theorem rmRec (l : Launch) (Z : State) (a0 : Array Value) (hw : ∀ d ∈ tables_1, d.before a0 Z = true) (a : Addr) (h0 : Heap) (n0 : Nat) (Z0 : n0 ≤ h0.size)  :
    OCon l Z (⟨"java/lang/Record", "<init>", "()V"⟩ : MethodName) jdk_30_method_1_code 1 none ({ frames := 1, cells := 0, slots := 0, locals := 12 } : Room) #[(.ref a)] h0 (fun v h L => v = none ∧ Fr n0 L ∧ h = h0) := by
  refine OConK.intro (y := (⟨"java/lang/Record", "<init>", "()V"⟩ : MethodName)) (plainFor_of_name own_pn_java_lang_Record) (own_ef_rmRec a) ?_
  intro p e s m below meth c s₁ hx hby hml hown hnm hret hlk hZ X0 e0
  show OGoal p e below s _ _ _ (s₁.setTop (mkF m 0 #[.val (.ref a)] []))
  refine OGoal.mp (S' := (s₁.setTop (mkF m 1 #[.val (.ref a)] [(.ref a)]))) (fun _ k => XS.aloadN X0.here hx rfl (hb hby own_d_jdk_30_method_1_code_0) rfl rfl k) ?_
  obtain ⟨T1, X2, e3, st4⟩ := initO X0 hx hZ hown (hw _ (List.mem_of_getElem? (i := 31) rfl)) (hw _ (List.mem_of_getElem? (i := 7) rfl)) (hw _ (List.mem_of_getElem? (i := 8) rfl)) e0 (g := mkF m 1 #[.val (.ref a)] [(.ref a)]) rfl (by rw [hml]; rfl) rfl (hb hby own_d_jdk_30_method_1_code_1) (by decide) (W := 0) (by show 2 * 0 + _ ≤ _; exact Nat.le_of_eq rfl) (by decide)
  refine OGoal.mp (S' := (T1.setTop (mkF m 4 #[.val (.ref a)] []))) (fun _ k => st4 _ k) ?_
  refine oRetV X2 hx hlk hret (hb hby own_d_jdk_30_method_1_code_4) ?_ (by decide) (by decide)
  exact ⟨rfl, (Fr.nil n0), e3⟩
theorem own_d_prog_141_method_1_code_0 : decode prog_141_method_1_code 0 = .ok (.aload_n 0, 1) := by decide +kernel
theorem own_d_prog_141_method_1_code_1 : decode prog_141_method_1_code 1 = .ok (.invokespecial 1, 3) := by decide +kernel
theorem own_d_prog_141_method_1_code_4 : decode prog_141_method_1_code 4 = .ok (.aload_n 0, 1) := by decide +kernel
theorem own_d_prog_141_method_1_code_5 : decode prog_141_method_1_code 5 = .ok (.iload_n 1, 1) := by decide +kernel
theorem own_d_prog_141_method_1_code_6 : decode prog_141_method_1_code 6 = .ok (.putfield 7, 3) := by decide +kernel
theorem own_d_prog_141_method_1_code_9 : decode prog_141_method_1_code 9 = .ok (.aload_n 0, 1) := by decide +kernel
theorem own_d_prog_141_method_1_code_10 : decode prog_141_method_1_code 10 = .ok (.iload_n 2, 1) := by decide +kernel
theorem own_d_prog_141_method_1_code_11 : decode prog_141_method_1_code 11 = .ok (.putfield 13, 3) := by decide +kernel
theorem own_d_prog_141_method_1_code_14 : decode prog_141_method_1_code 14 = .ok (.return_, 1) := by decide +kernel
theorem own_pn_com_example_wildsolve_wildsolve_solver_Placeholder : plainName "com/example/wildsolve/wildsolve/solver/Placeholder" = true := by first | (simp [plainName, overriddenIn]; done) | decide +kernel
theorem own_ef_rmPI0 (x0 : Addr) (x1 : Int32) (x2 : Int32) (m : MethodId) : entryFrame m #[(.ref x0), (.int x1), (.int x2)] 3 = mkF m 0 #[.val (.ref x0), .val (.int x1), .val (.int x2)] [] := by first | (simp [entryFrame, mkF, argsToLocals, Value.category]; done) | rfl
set_option maxRecDepth 65536 in
set_option maxHeartbeats 40000000 in
theorem rmPI0 (l : Launch) (Z : State) (a0 : Array Value) (hw : ∀ d ∈ tables_1, d.before a0 Z = true) (a : Addr) (x1 : Int32) (h0 : Heap) (n0 : Nat) (Z0 : n0 ≤ h0.size) (E : Exa Z h0 a "com/example/wildsolve/wildsolve/solver/Placeholder") (Fi : Fld Z h0 a "com/example/wildsolve/wildsolve/solver/Placeholder" "id" "I" (.int (0 : Int32))) (Fw : Fld Z h0 a "com/example/wildsolve/wildsolve/solver/Placeholder" "wildcard" "Z" (.int (0 : Int32))) (ab : n0 ≤ a) :
    OCon l Z (⟨"com/example/wildsolve/wildsolve/solver/Placeholder", "<init>", "(IZ)V"⟩ : MethodName) prog_141_method_1_code 3 none ({ frames := 2, cells := 0, slots := 0, locals := 24 } : Room) #[(.ref a), (.int x1), (.int (0 : Int32))] h0 (fun v h L => v = none ∧ Fr n0 L ∧ Keep h0 h [a] ∧ Exa Z h a "com/example/wildsolve/wildsolve/solver/Placeholder" ∧ Fld Z h a "com/example/wildsolve/wildsolve/solver/Placeholder" "id" "I" (.int x1) ∧ Fld Z h a "com/example/wildsolve/wildsolve/solver/Placeholder" "wildcard" "Z" (.int (0 : Int32))) := by
  refine OConK.intro (y := (⟨"com/example/wildsolve/wildsolve/solver/Placeholder", "<init>", "(IZ)V"⟩ : MethodName)) (plainFor_of_name own_pn_com_example_wildsolve_wildsolve_solver_Placeholder) (own_ef_rmPI0 a x1 (0 : Int32)) ?_
  intro p e s m below meth c s₁ hx hby hml hown hnm hret hlk hZ X0 e0
  show OGoal p e below s _ _ _ (s₁.setTop (mkF m 0 #[.val (.ref a), .val (.int x1), .val (.int (0 : Int32))] []))
  refine OGoal.mp (S' := (s₁.setTop (mkF m 1 #[.val (.ref a), .val (.int x1), .val (.int (0 : Int32))] [(.ref a)]))) (fun _ k => XS.aloadN X0.here hx rfl (hb hby own_d_prog_141_method_1_code_0) rfl rfl k) ?_
  refine oCallN (y := (⟨"java/lang/Record", "<init>", "()V"⟩ : MethodName)) X0 hx hZ rfl hown (hw _ (List.mem_of_getElem? (i := 26) rfl)) (hw _ (List.mem_of_getElem? (i := 27) rfl)) (hw _ (List.mem_of_getElem? (i := 29) rfl)) (hw _ (List.mem_of_getElem? (i := 30) rfl)) (by decide) (rmRec l Z a0 hw a h0 n0 Z0) e0 [] [] rfl rfl (by rw [hml]; rfl) (lenOf own_pd___V rfl) 0 (Nat.le_of_eq rfl) (by decide) (by decide) (by decide) (by decide) (hb hby own_d_prog_141_method_1_code_1) ?_
  intro v1 T2 L3 X4 q5
  obtain ⟨rfl, N6, e7⟩ := q5
  have N8 := Fr.app (Fr.nil n0) N6
  show OGoal p e below s _ _ _ (T2.setTop (mkF m 4 #[.val (.ref a), .val (.int x1), .val (.int (0 : Int32))] []))
  refine OGoal.mp (S' := (T2.setTop (mkF m 5 #[.val (.ref a), .val (.int x1), .val (.int (0 : Int32))] [(.ref a)]))) (fun _ k => XS.aloadN X4.here hx rfl (hb hby own_d_prog_141_method_1_code_4) rfl rfl k) ?_
  refine OGoal.mp (S' := (T2.setTop (mkF m 6 #[.val (.ref a), .val (.int x1), .val (.int (0 : Int32))] [(.int x1), (.ref a)]))) (fun _ k => XS.iloadN X4.here hx rfl (hb hby own_d_prog_141_method_1_code_5) rfl k) ?_
  obtain ⟨T9, h13, X10, e11, W14, st12⟩ := putF X4 hx hZ hown (host := "") (Or.inl (hw _ (List.mem_of_getElem? (i := 32) rfl))) Via.refl e7 Fi E (Or.inr ⟨(hw _ (List.mem_of_getElem? (i := 33) rfl)), rfl, hnm⟩) (hw _ (List.mem_of_getElem? (i := 19) rfl)) (ty := .int) (by decide) rfl rfl (g := mkF m 6 #[.val (.ref a), .val (.int x1), .val (.int (0 : Int32))] [(.int x1), (.ref a)]) rfl rfl (hb hby own_d_prog_141_method_1_code_6)
  have N15 := Fr.snoc X10 N8 ab
  have Z16 : n0 ≤ h13.size := Nat.le_trans Z0 (Keep.of_wr W14).1
  have K17 : Keep h0 h13 [a] := (Keep.refl h0 [a]).wr W14 (Or.inl (by simp))
  have F18 := E.wr W14
  have F19 := Fi.same W14
  have F20 := Fw.other W14 (Or.inr (slot_ne (a0 := a0) (C := "com/example/wildsolve/wildsolve/solver/Placeholder") (t := .boolean) (t' := .int) (Or.inr (hw _ (List.mem_of_getElem? (i := 35) rfl))) (Or.inr (hw _ (List.mem_of_getElem? (i := 33) rfl))) (by decide) (by decide) (by decide)))
  refine OGoal.mp (S' := (T9.setTop (mkF m 9 #[.val (.ref a), .val (.int x1), .val (.int (0 : Int32))] []))) (fun _ k => st12 _ k) ?_
  refine OGoal.mp (S' := (T9.setTop (mkF m 10 #[.val (.ref a), .val (.int x1), .val (.int (0 : Int32))] [(.ref a)]))) (fun _ k => XS.aloadN X10.here hx rfl (hb hby own_d_prog_141_method_1_code_9) rfl rfl k) ?_
  refine OGoal.mp (S' := (T9.setTop (mkF m 11 #[.val (.ref a), .val (.int x1), .val (.int (0 : Int32))] [(.int (0 : Int32)), (.ref a)]))) (fun _ k => XS.iloadN X10.here hx rfl (hb hby own_d_prog_141_method_1_code_10) rfl k) ?_
  obtain ⟨T21, h25, X22, e23, W26, st24⟩ := putF X10 hx hZ hown (host := "") (Or.inl (hw _ (List.mem_of_getElem? (i := 34) rfl))) Via.refl e11 F20 F18 (Or.inr ⟨(hw _ (List.mem_of_getElem? (i := 35) rfl)), rfl, hnm⟩) (hw _ (List.mem_of_getElem? (i := 19) rfl)) (ty := .boolean) (by decide) rfl rfl (g := mkF m 11 #[.val (.ref a), .val (.int x1), .val (.int (0 : Int32))] [(.int (0 : Int32)), (.ref a)]) rfl rfl (hb hby own_d_prog_141_method_1_code_11)
  have N27 := Fr.snoc X22 N15 ab
  have Z28 : n0 ≤ h25.size := Nat.le_trans Z16 (Keep.of_wr W26).1
  have K29 : Keep h0 h25 [a] := K17.wr W26 (Or.inl (by simp))
  have F30 := F18.wr W26
  have F31 := F19.other W26 (Or.inr (slot_ne (a0 := a0) (C := "com/example/wildsolve/wildsolve/solver/Placeholder") (t := .int) (t' := .boolean) (Or.inr (hw _ (List.mem_of_getElem? (i := 33) rfl))) (Or.inr (hw _ (List.mem_of_getElem? (i := 35) rfl))) (by decide) (by decide) (by decide)))
  have F32 := F20.same W26
  refine OGoal.mp (S' := (T21.setTop (mkF m 14 #[.val (.ref a), .val (.int x1), .val (.int (0 : Int32))] []))) (fun _ k => st24 _ k) ?_
  refine oRetV X22 hx hlk hret (hb hby own_d_prog_141_method_1_code_14) ?_ (by decide) (by decide)
  rw [e23]; exact ⟨rfl, N27, K29, F30, F31, F32⟩
theorem own_ef_rmPI1 (x0 : Addr) (x1 : Int32) (x2 : Int32) (m : MethodId) : entryFrame m #[(.ref x0), (.int x1), (.int x2)] 3 = mkF m 0 #[.val (.ref x0), .val (.int x1), .val (.int x2)] [] := by first | (simp [entryFrame, mkF, argsToLocals, Value.category]; done) | rfl
set_option maxRecDepth 65536 in
set_option maxHeartbeats 40000000 in
theorem rmPI1 (l : Launch) (Z : State) (a0 : Array Value) (hw : ∀ d ∈ tables_1, d.before a0 Z = true) (a : Addr) (x1 : Int32) (h0 : Heap) (n0 : Nat) (Z0 : n0 ≤ h0.size) (E : Exa Z h0 a "com/example/wildsolve/wildsolve/solver/Placeholder") (Fi : Fld Z h0 a "com/example/wildsolve/wildsolve/solver/Placeholder" "id" "I" (.int (0 : Int32))) (Fw : Fld Z h0 a "com/example/wildsolve/wildsolve/solver/Placeholder" "wildcard" "Z" (.int (0 : Int32))) (ab : n0 ≤ a) :
    OCon l Z (⟨"com/example/wildsolve/wildsolve/solver/Placeholder", "<init>", "(IZ)V"⟩ : MethodName) prog_141_method_1_code 3 none ({ frames := 2, cells := 0, slots := 0, locals := 24 } : Room) #[(.ref a), (.int x1), (.int (1 : Int32))] h0 (fun v h L => v = none ∧ Fr n0 L ∧ Keep h0 h [a] ∧ Exa Z h a "com/example/wildsolve/wildsolve/solver/Placeholder" ∧ Fld Z h a "com/example/wildsolve/wildsolve/solver/Placeholder" "id" "I" (.int x1) ∧ Fld Z h a "com/example/wildsolve/wildsolve/solver/Placeholder" "wildcard" "Z" (.int (1 : Int32))) := by
  refine OConK.intro (y := (⟨"com/example/wildsolve/wildsolve/solver/Placeholder", "<init>", "(IZ)V"⟩ : MethodName)) (plainFor_of_name own_pn_com_example_wildsolve_wildsolve_solver_Placeholder) (own_ef_rmPI1 a x1 (1 : Int32)) ?_
  intro p e s m below meth c s₁ hx hby hml hown hnm hret hlk hZ X0 e0
  show OGoal p e below s _ _ _ (s₁.setTop (mkF m 0 #[.val (.ref a), .val (.int x1), .val (.int (1 : Int32))] []))
  refine OGoal.mp (S' := (s₁.setTop (mkF m 1 #[.val (.ref a), .val (.int x1), .val (.int (1 : Int32))] [(.ref a)]))) (fun _ k => XS.aloadN X0.here hx rfl (hb hby own_d_prog_141_method_1_code_0) rfl rfl k) ?_
  refine oCallN (y := (⟨"java/lang/Record", "<init>", "()V"⟩ : MethodName)) X0 hx hZ rfl hown (hw _ (List.mem_of_getElem? (i := 26) rfl)) (hw _ (List.mem_of_getElem? (i := 27) rfl)) (hw _ (List.mem_of_getElem? (i := 29) rfl)) (hw _ (List.mem_of_getElem? (i := 30) rfl)) (by decide) (rmRec l Z a0 hw a h0 n0 Z0) e0 [] [] rfl rfl (by rw [hml]; rfl) (lenOf own_pd___V rfl) 0 (Nat.le_of_eq rfl) (by decide) (by decide) (by decide) (by decide) (hb hby own_d_prog_141_method_1_code_1) ?_
  intro v1 T2 L3 X4 q5
  obtain ⟨rfl, N6, e7⟩ := q5
  have N8 := Fr.app (Fr.nil n0) N6
  show OGoal p e below s _ _ _ (T2.setTop (mkF m 4 #[.val (.ref a), .val (.int x1), .val (.int (1 : Int32))] []))
  refine OGoal.mp (S' := (T2.setTop (mkF m 5 #[.val (.ref a), .val (.int x1), .val (.int (1 : Int32))] [(.ref a)]))) (fun _ k => XS.aloadN X4.here hx rfl (hb hby own_d_prog_141_method_1_code_4) rfl rfl k) ?_
  refine OGoal.mp (S' := (T2.setTop (mkF m 6 #[.val (.ref a), .val (.int x1), .val (.int (1 : Int32))] [(.int x1), (.ref a)]))) (fun _ k => XS.iloadN X4.here hx rfl (hb hby own_d_prog_141_method_1_code_5) rfl k) ?_
  obtain ⟨T9, h13, X10, e11, W14, st12⟩ := putF X4 hx hZ hown (host := "") (Or.inl (hw _ (List.mem_of_getElem? (i := 32) rfl))) Via.refl e7 Fi E (Or.inr ⟨(hw _ (List.mem_of_getElem? (i := 33) rfl)), rfl, hnm⟩) (hw _ (List.mem_of_getElem? (i := 19) rfl)) (ty := .int) (by decide) rfl rfl (g := mkF m 6 #[.val (.ref a), .val (.int x1), .val (.int (1 : Int32))] [(.int x1), (.ref a)]) rfl rfl (hb hby own_d_prog_141_method_1_code_6)
  have N15 := Fr.snoc X10 N8 ab
  have Z16 : n0 ≤ h13.size := Nat.le_trans Z0 (Keep.of_wr W14).1
  have K17 : Keep h0 h13 [a] := (Keep.refl h0 [a]).wr W14 (Or.inl (by simp))
  have F18 := E.wr W14
  have F19 := Fi.same W14
  have F20 := Fw.other W14 (Or.inr (slot_ne (a0 := a0) (C := "com/example/wildsolve/wildsolve/solver/Placeholder") (t := .boolean) (t' := .int) (Or.inr (hw _ (List.mem_of_getElem? (i := 35) rfl))) (Or.inr (hw _ (List.mem_of_getElem? (i := 33) rfl))) (by decide) (by decide) (by decide)))
  refine OGoal.mp (S' := (T9.setTop (mkF m 9 #[.val (.ref a), .val (.int x1), .val (.int (1 : Int32))] []))) (fun _ k => st12 _ k) ?_
  refine OGoal.mp (S' := (T9.setTop (mkF m 10 #[.val (.ref a), .val (.int x1), .val (.int (1 : Int32))] [(.ref a)]))) (fun _ k => XS.aloadN X10.here hx rfl (hb hby own_d_prog_141_method_1_code_9) rfl rfl k) ?_
  refine OGoal.mp (S' := (T9.setTop (mkF m 11 #[.val (.ref a), .val (.int x1), .val (.int (1 : Int32))] [(.int (1 : Int32)), (.ref a)]))) (fun _ k => XS.iloadN X10.here hx rfl (hb hby own_d_prog_141_method_1_code_10) rfl k) ?_
  obtain ⟨T21, h25, X22, e23, W26, st24⟩ := putF X10 hx hZ hown (host := "") (Or.inl (hw _ (List.mem_of_getElem? (i := 34) rfl))) Via.refl e11 F20 F18 (Or.inr ⟨(hw _ (List.mem_of_getElem? (i := 35) rfl)), rfl, hnm⟩) (hw _ (List.mem_of_getElem? (i := 19) rfl)) (ty := .boolean) (by decide) rfl rfl (g := mkF m 11 #[.val (.ref a), .val (.int x1), .val (.int (1 : Int32))] [(.int (1 : Int32)), (.ref a)]) rfl rfl (hb hby own_d_prog_141_method_1_code_11)
  have N27 := Fr.snoc X22 N15 ab
  have Z28 : n0 ≤ h25.size := Nat.le_trans Z16 (Keep.of_wr W26).1
  have K29 : Keep h0 h25 [a] := K17.wr W26 (Or.inl (by simp))
  have F30 := F18.wr W26
  have F31 := F19.other W26 (Or.inr (slot_ne (a0 := a0) (C := "com/example/wildsolve/wildsolve/solver/Placeholder") (t := .int) (t' := .boolean) (Or.inr (hw _ (List.mem_of_getElem? (i := 33) rfl))) (Or.inr (hw _ (List.mem_of_getElem? (i := 35) rfl))) (by decide) (by decide) (by decide)))
  have F32 := F20.same W26
  refine OGoal.mp (S' := (T21.setTop (mkF m 14 #[.val (.ref a), .val (.int x1), .val (.int (1 : Int32))] []))) (fun _ k => st24 _ k) ?_
  refine oRetV X22 hx hlk hret (hb hby own_d_prog_141_method_1_code_14) ?_ (by decide) (by decide)
  rw [e23]; exact ⟨rfl, N27, K29, F30, F31, F32⟩
theorem own_d_prog_22_method_2_code_0 : decode prog_22_method_2_code 0 = .ok (.new 7, 3) := by decide +kernel
theorem own_d_prog_22_method_2_code_3 : decode prog_22_method_2_code 3 = .ok (.dup, 1) := by decide +kernel
theorem own_d_prog_22_method_2_code_4 : decode prog_22_method_2_code 4 = .ok (.aload_n 0, 1) := by decide +kernel
theorem own_d_prog_22_method_2_code_5 : decode prog_22_method_2_code 5 = .ok (.dup, 1) := by decide +kernel
theorem own_d_prog_22_method_2_code_6 : decode prog_22_method_2_code 6 = .ok (.getfield 9, 3) := by decide +kernel
theorem own_d_prog_22_method_2_code_9 : decode prog_22_method_2_code 9 = .ok (.iconst 1, 1) := by decide +kernel
theorem own_d_prog_22_method_2_code_10 : decode prog_22_method_2_code 10 = .ok (.iadd, 1) := by decide +kernel
theorem own_d_prog_22_method_2_code_11 : decode prog_22_method_2_code 11 = .ok (.dup_x1, 1) := by decide +kernel
theorem own_d_prog_22_method_2_code_12 : decode prog_22_method_2_code 12 = .ok (.putfield 9, 3) := by decide +kernel
theorem own_d_prog_22_method_2_code_15 : decode prog_22_method_2_code 15 = .ok (.iconst 0, 1) := by decide +kernel
theorem own_d_prog_22_method_2_code_16 : decode prog_22_method_2_code 16 = .ok (.invokespecial 15, 3) := by decide +kernel
theorem own_pd__IZ_V : parseMethodDescriptor "(IZ)V" = some ⟨[.int, .boolean], none⟩ := by decide +kernel
theorem own_d_prog_22_method_2_code_19 : decode prog_22_method_2_code 19 = .ok (.areturn, 1) := by decide +kernel
theorem own_ef_rmO0 (x0 : Addr) (m : MethodId) : entryFrame m #[(.ref x0)] 1 = mkF m 0 #[.val (.ref x0)] [] := by first | (simp [entryFrame, mkF, argsToLocals, Value.category]; done) | rfl
set_option maxRecDepth 65536 in
set_option maxHeartbeats 40000000 in
theorem rmO0 (l : Launch) (Z : State) (a0 : Array Value) (hw : ∀ d ∈ tables_1, d.before a0 Z = true) (f : Addr) (h0 : Heap) (n0 : Nat) (Z0 : n0 ≤ h0.size) (k1 k2 z1 : Int32) (hk2 : k1 + (1 : Int32) = k2) (Ef : Exa Z h0 f "com/example/wildsolve/wildsolve/infer/Fresh") (Fp : Fld Z h0 f "com/example/wildsolve/wildsolve/infer/Fresh" "placeholders" "I" (.int k1)) (Fv : Fld Z h0 f "com/example/wildsolve/wildsolve/infer/Fresh" "variables" "I" (.int z1)) (ab : n0 ≤ f) :
    OCon l Z (⟨"com/example/wildsolve/wildsolve/infer/Fresh", "ordinary", "()Lcom/example/wildsolve/wildsolve/solver/Placeholder;"⟩ : MethodName) prog_22_method_2_code 1 (some (.object "com/example/wildsolve/wildsolve/solver/Placeholder")) ({ frames := 3, cells := 1, slots := 2, locals := 39 } : Room) #[(.ref f)] h0 (fun v h L => ∃ r, v = some (.ref r) ∧ Fr n0 L ∧ Keep h0 h [f] ∧ h0.size ≤ r ∧ Exa Z h r "com/example/wildsolve/wildsolve/solver/Placeholder" ∧ Fld Z h r "com/example/wildsolve/wildsolve/solver/Placeholder" "id" "I" (.int k2) ∧ Fld Z h r "com/example/wildsolve/wildsolve/solver/Placeholder" "wildcard" "Z" (.int (0 : Int32)) ∧ Exa Z h f "com/example/wildsolve/wildsolve/infer/Fresh" ∧ Fld Z h f "com/example/wildsolve/wildsolve/infer/Fresh" "placeholders" "I" (.int k2) ∧ Fld Z h f "com/example/wildsolve/wildsolve/infer/Fresh" "variables" "I" (.int z1)) := by
  refine OConK.intro (y := (⟨"com/example/wildsolve/wildsolve/infer/Fresh", "ordinary", "()Lcom/example/wildsolve/wildsolve/solver/Placeholder;"⟩ : MethodName)) (plainFor_of_name own_pn_com_example_wildsolve_wildsolve_infer_Fresh) (own_ef_rmO0 f) ?_
  intro p e s m below meth c s₁ hx hby hml hown hnm hret hlk hZ X0 e0
  show OGoal p e below s _ _ _ (s₁.setTop (mkF m 0 #[.val (.ref f)] []))
  obtain ⟨T1, h5, X2, e3, E6, A7, D8, -, st4⟩ := newO X0 hx hZ hown (hw _ (List.mem_of_getElem? (i := 18) rfl)) (hw _ (List.mem_of_getElem? (i := 19) rfl)) (hw _ (List.mem_of_getElem? (i := 20) rfl)) e0 (g := mkF m 0 #[.val (.ref f)] []) rfl (hb hby own_d_prog_22_method_2_code_0) (by decide) (by decide)
  obtain ⟨a9, g10⟩ : ∃ z, z = h0.size := ⟨_, rfl⟩
  rw [← g10] at A7 D8 st4
  have lt11 : f < a9 := by rw [g10]; exact Ef.lt
  have fr12 : h0.size ≤ a9 := by rw [g10]; exact (Keep.refl h0 [f]).1
  have K13 : Keep h0 h5 [f] := (Keep.refl h0 [f]).ext E6
  have F14 := Ef.ext E6
  have F15 := Fp.ext E6
  have F16 := Fv.ext E6
  have F17 : Fld Z h5 a9 "com/example/wildsolve/wildsolve/solver/Placeholder" "id" "I" (.int (0 : Int32)) := D8 (Or.inr (hw _ (List.mem_of_getElem? (i := 33) rfl))) (ty := .int) (by decide)
  have F18 : Fld Z h5 a9 "com/example/wildsolve/wildsolve/solver/Placeholder" "wildcard" "Z" (.int (0 : Int32)) := D8 (Or.inr (hw _ (List.mem_of_getElem? (i := 35) rfl))) (ty := .boolean) (by decide)
  have Z19 : n0 ≤ h5.size := Nat.le_trans Z0 E6.1
  have ab20 : n0 ≤ a9 := Nat.le_trans Z0 (Nat.le_of_eq g10.symm)
  refine OGoal.mp (S' := (T1.setTop (mkF m 3 #[.val (.ref f)] [(.ref a9)]))) (fun _ k => st4 _ k) ?_
  refine OGoal.mp (S' := (T1.setTop (mkF m 4 #[.val (.ref f)] [(.ref a9), (.ref a9)]))) (fun _ k => XS.dup X2.here hx rfl (hb hby own_d_prog_22_method_2_code_3) rfl rfl k) ?_
  refine OGoal.mp (S' := (T1.setTop (mkF m 5 #[.val (.ref f)] [(.ref f), (.ref a9), (.ref a9)]))) (fun _ k => XS.aloadN X2.here hx rfl (hb hby own_d_prog_22_method_2_code_4) rfl rfl k) ?_
  refine OGoal.mp (S' := (T1.setTop (mkF m 6 #[.val (.ref f)] [(.ref f), (.ref f), (.ref a9), (.ref a9)]))) (fun _ k => XS.dup X2.here hx rfl (hb hby own_d_prog_22_method_2_code_5) rfl rfl k) ?_
  obtain ⟨T21, X22, e23, st24⟩ := getF X2 hx hZ hown (host := "") (Or.inl (hw _ (List.mem_of_getElem? (i := 21) rfl))) Via.refl e3 F15 (g := mkF m 6 #[.val (.ref f)] [(.ref f), (.ref f), (.ref a9), (.ref a9)]) rfl rfl (hb hby own_d_prog_22_method_2_code_6)
  refine OGoal.mp (S' := (T21.setTop (mkF m 9 #[.val (.ref f)] [(.int k1), (.ref f), (.ref a9), (.ref a9)]))) (fun _ k => st24 _ k) ?_
  refine OGoal.mp (S' := (T21.setTop (mkF m 10 #[.val (.ref f)] [(.int (1 : Int32)), (.int k1), (.ref f), (.ref a9), (.ref a9)]))) (fun _ k => XS.iconst X22.here hx rfl (hb hby own_d_prog_22_method_2_code_9) k) ?_
  refine OGoal.mp (S' := (T21.setTop (mkF m 11 #[.val (.ref f)] [(.int (k1 + (1 : Int32))), (.ref f), (.ref a9), (.ref a9)]))) (fun _ k => XS.iadd X22.here hx rfl (hb hby own_d_prog_22_method_2_code_10) rfl k) ?_
  rw [hk2]
  show OGoal p e below s _ _ _ (T21.setTop (mkF m 11 #[.val (.ref f)] [(.int k2), (.ref f), (.ref a9), (.ref a9)]))
  refine OGoal.mp (S' := (T21.setTop (mkF m 12 #[.val (.ref f)] [(.int k2), (.ref f), (.int k2), (.ref a9), (.ref a9)]))) (fun _ k => XT.dupX1 X22.here hx rfl (hb hby own_d_prog_22_method_2_code_11) rfl rfl rfl k) ?_
  obtain ⟨T25, h29, X26, e27, W30, st28⟩ := putF X22 hx hZ hown (host := "") (Or.inl (hw _ (List.mem_of_getElem? (i := 21) rfl))) Via.refl e23 F15 F14 (Or.inl (hw _ (List.mem_of_getElem? (i := 22) rfl))) (hw _ (List.mem_of_getElem? (i := 1) rfl)) (ty := .int) (by decide) rfl rfl (g := mkF m 12 #[.val (.ref f)] [(.int k2), (.ref f), (.int k2), (.ref a9), (.ref a9)]) rfl rfl (hb hby own_d_prog_22_method_2_code_12)
  have N31 := Fr.snoc X26 (Fr.nil n0) ab
  have Z32 : n0 ≤ h29.size := Nat.le_trans Z19 (Keep.of_wr W30).1
  have K33 : Keep h0 h29 [f] := K13.wr W30 (Or.inl (by simp))
  have F34 := F14.wr W30
  have F35 := F15.same W30
  have F36 := F16.other W30 (Or.inr (slot_ne (a0 := a0) (C := "com/example/wildsolve/wildsolve/infer/Fresh") (t := .int) (t' := .int) (Or.inl (hw _ (List.mem_of_getElem? (i := 136) rfl))) (Or.inl (hw _ (List.mem_of_getElem? (i := 22) rfl))) (by decide) (by decide) (by decide)))
  have F37 := A7.wr W30
  have F38 := F17.other W30 (Or.inl (Nat.ne_of_gt lt11))
  have F39 := F18.other W30 (Or.inl (Nat.ne_of_gt lt11))
  refine OGoal.mp (S' := (T25.setTop (mkF m 15 #[.val (.ref f)] [(.int k2), (.ref a9), (.ref a9)]))) (fun _ k => st28 _ k) ?_
  refine OGoal.mp (S' := (T25.setTop (mkF m 16 #[.val (.ref f)] [(.int (0 : Int32)), (.int k2), (.ref a9), (.ref a9)]))) (fun _ k => XS.iconst X26.here hx rfl (hb hby own_d_prog_22_method_2_code_15) k) ?_
  refine oCallN (y := (⟨"com/example/wildsolve/wildsolve/solver/Placeholder", "<init>", "(IZ)V"⟩ : MethodName)) X26 hx hZ rfl hown (hw _ (List.mem_of_getElem? (i := 23) rfl)) (hw _ (List.mem_of_getElem? (i := 24) rfl)) (hw _ (List.mem_of_getElem? (i := 20) rfl)) (hw _ (List.mem_of_getElem? (i := 25) rfl)) (by decide) (rmPI0 l Z a0 hw a9 k2 h29 n0 Z32 F37 F38 F39 ab20) e27 [(.int k2), (.int (0 : Int32))] [(.ref a9)] rfl rfl (by rw [hml]; rfl) (lenOf own_pd__IZ_V rfl) 1 (Nat.le_of_eq rfl) (by decide) (by decide) (by decide) (by decide) (hb hby own_d_prog_22_method_2_code_16) ?_
  intro v40 T41 L42 X43 q44
  obtain ⟨rfl, N45, K46, E47, F48, F49⟩ := q44
  have N50 := Fr.app N31 N45
  have F51 := F34.keep K46
  have F52 := F35.keep K46 (ninS (Nat.ne_of_lt lt11) nin0)
  have F53 := F36.keep K46 (ninS (Nat.ne_of_lt lt11) nin0)
  have K54 : Keep h0 T41.heap [f] := K33.trans K46 (allS (Or.inr fr12) all0)
  show OGoal p e below s _ _ _ (T41.setTop (mkF m 19 #[.val (.ref f)] [(.ref a9)]))
  refine oRetA X43 hx hlk hret rfl rfl (hb hby own_d_prog_22_method_2_code_19) ?_ (by decide) (by decide)
  exact ⟨a9, rfl, N50, K54, fr12, E47, F48, F49, F51, F52, F53⟩
theorem own_d_prog_22_method_3_code_0 : decode prog_22_method_3_code 0 = .ok (.new 7, 3) := by decide +kernel
theorem own_d_prog_22_method_3_code_3 : decode prog_22_method_3_code 3 = .ok (.dup, 1) := by decide +kernel
theorem own_d_prog_22_method_3_code_4 : decode prog_22_method_3_code 4 = .ok (.aload_n 0, 1) := by decide +kernel
theorem own_d_prog_22_method_3_code_5 : decode prog_22_method_3_code 5 = .ok (.dup, 1) := by decide +kernel
theorem own_d_prog_22_method_3_code_6 : decode prog_22_method_3_code 6 = .ok (.getfield 9, 3) := by decide +kernel
theorem own_d_prog_22_method_3_code_9 : decode prog_22_method_3_code 9 = .ok (.iconst 1, 1) := by decide +kernel
theorem own_d_prog_22_method_3_code_10 : decode prog_22_method_3_code 10 = .ok (.iadd, 1) := by decide +kernel
theorem own_d_prog_22_method_3_code_11 : decode prog_22_method_3_code 11 = .ok (.dup_x1, 1) := by decide +kernel
theorem own_d_prog_22_method_3_code_12 : decode prog_22_method_3_code 12 = .ok (.putfield 9, 3) := by decide +kernel
theorem own_d_prog_22_method_3_code_15 : decode prog_22_method_3_code 15 = .ok (.iconst 1, 1) := by decide +kernel
theorem own_d_prog_22_method_3_code_16 : decode prog_22_method_3_code 16 = .ok (.invokespecial 15, 3) := by decide +kernel
theorem own_d_prog_22_method_3_code_19 : decode prog_22_method_3_code 19 = .ok (.areturn, 1) := by decide +kernel
theorem own_ef_rmO1 (x0 : Addr) (m : MethodId) : entryFrame m #[(.ref x0)] 1 = mkF m 0 #[.val (.ref x0)] [] := by first | (simp [entryFrame, mkF, argsToLocals, Value.category]; done) | rfl
set_option maxRecDepth 65536 in
set_option maxHeartbeats 40000000 in
theorem rmO1 (l : Launch) (Z : State) (a0 : Array Value) (hw : ∀ d ∈ tables_1, d.before a0 Z = true) (f : Addr) (h0 : Heap) (n0 : Nat) (Z0 : n0 ≤ h0.size) (k1 k2 z1 : Int32) (hk2 : k1 + (1 : Int32) = k2) (Ef : Exa Z h0 f "com/example/wildsolve/wildsolve/infer/Fresh") (Fp : Fld Z h0 f "com/example/wildsolve/wildsolve/infer/Fresh" "placeholders" "I" (.int k1)) (Fv : Fld Z h0 f "com/example/wildsolve/wildsolve/infer/Fresh" "variables" "I" (.int z1)) (ab : n0 ≤ f) :
    OCon l Z (⟨"com/example/wildsolve/wildsolve/infer/Fresh", "wildcard", "()Lcom/example/wildsolve/wildsolve/solver/Placeholder;"⟩ : MethodName) prog_22_method_3_code 1 (some (.object "com/example/wildsolve/wildsolve/solver/Placeholder")) ({ frames := 3, cells := 1, slots := 2, locals := 39 } : Room) #[(.ref f)] h0 (fun v h L => ∃ r, v = some (.ref r) ∧ Fr n0 L ∧ Keep h0 h [f] ∧ h0.size ≤ r ∧ Exa Z h r "com/example/wildsolve/wildsolve/solver/Placeholder" ∧ Fld Z h r "com/example/wildsolve/wildsolve/solver/Placeholder" "id" "I" (.int k2) ∧ Fld Z h r "com/example/wildsolve/wildsolve/solver/Placeholder" "wildcard" "Z" (.int (1 : Int32)) ∧ Exa Z h f "com/example/wildsolve/wildsolve/infer/Fresh" ∧ Fld Z h f "com/example/wildsolve/wildsolve/infer/Fresh" "placeholders" "I" (.int k2) ∧ Fld Z h f "com/example/wildsolve/wildsolve/infer/Fresh" "variables" "I" (.int z1)) := by
  refine OConK.intro (y := (⟨"com/example/wildsolve/wildsolve/infer/Fresh", "wildcard", "()Lcom/example/wildsolve/wildsolve/solver/Placeholder;"⟩ : MethodName)) (plainFor_of_name own_pn_com_example_wildsolve_wildsolve_infer_Fresh) (own_ef_rmO1 f) ?_
  intro p e s m below meth c s₁ hx hby hml hown hnm hret hlk hZ X0 e0
  show OGoal p e below s _ _ _ (s₁.setTop (mkF m 0 #[.val (.ref f)] []))
  obtain ⟨T1, h5, X2, e3, E6, A7, D8, -, st4⟩ := newO X0 hx hZ hown (hw _ (List.mem_of_getElem? (i := 18) rfl)) (hw _ (List.mem_of_getElem? (i := 19) rfl)) (hw _ (List.mem_of_getElem? (i := 20) rfl)) e0 (g := mkF m 0 #[.val (.ref f)] []) rfl (hb hby own_d_prog_22_method_3_code_0) (by decide) (by decide)
  obtain ⟨a9, g10⟩ : ∃ z, z = h0.size := ⟨_, rfl⟩
  rw [← g10] at A7 D8 st4
  have lt11 : f < a9 := by rw [g10]; exact Ef.lt
  have fr12 : h0.size ≤ a9 := by rw [g10]; exact (Keep.refl h0 [f]).1
  have K13 : Keep h0 h5 [f] := (Keep.refl h0 [f]).ext E6
  have F14 := Ef.ext E6
  have F15 := Fp.ext E6
  have F16 := Fv.ext E6
  have F17 : Fld Z h5 a9 "com/example/wildsolve/wildsolve/solver/Placeholder" "id" "I" (.int (0 : Int32)) := D8 (Or.inr (hw _ (List.mem_of_getElem? (i := 33) rfl))) (ty := .int) (by decide)
  have F18 : Fld Z h5 a9 "com/example/wildsolve/wildsolve/solver/Placeholder" "wildcard" "Z" (.int (0 : Int32)) := D8 (Or.inr (hw _ (List.mem_of_getElem? (i := 35) rfl))) (ty := .boolean) (by decide)
  have Z19 : n0 ≤ h5.size := Nat.le_trans Z0 E6.1
  have ab20 : n0 ≤ a9 := Nat.le_trans Z0 (Nat.le_of_eq g10.symm)
  refine OGoal.mp (S' := (T1.setTop (mkF m 3 #[.val (.ref f)] [(.ref a9)]))) (fun _ k => st4 _ k) ?_
  refine OGoal.mp (S' := (T1.setTop (mkF m 4 #[.val (.ref f)] [(.ref a9), (.ref a9)]))) (fun _ k => XS.dup X2.here hx rfl (hb hby own_d_prog_22_method_3_code_3) rfl rfl k) ?_
  refine OGoal.mp (S' := (T1.setTop (mkF m 5 #[.val (.ref f)] [(.ref f), (.ref a9), (.ref a9)]))) (fun _ k => XS.aloadN X2.here hx rfl (hb hby own_d_prog_22_method_3_code_4) rfl rfl k) ?_
  refine OGoal.mp (S' := (T1.setTop (mkF m 6 #[.val (.ref f)] [(.ref f), (.ref f), (.ref a9), (.ref a9)]))) (fun _ k => XS.dup X2.here hx rfl (hb hby own_d_prog_22_method_3_code_5) rfl rfl k) ?_
  obtain ⟨T21, X22, e23, st24⟩ := getF X2 hx hZ hown (host := "") (Or.inl (hw _ (List.mem_of_getElem? (i := 21) rfl))) Via.refl e3 F15 (g := mkF m 6 #[.val (.ref f)] [(.ref f), (.ref f), (.ref a9), (.ref a9)]) rfl rfl (hb hby own_d_prog_22_method_3_code_6)
  refine OGoal.mp (S' := (T21.setTop (mkF m 9 #[.val (.ref f)] [(.int k1), (.ref f), (.ref a9), (.ref a9)]))) (fun _ k => st24 _ k) ?_
  refine OGoal.mp (S' := (T21.setTop (mkF m 10 #[.val (.ref f)] [(.int (1 : Int32)), (.int k1), (.ref f), (.ref a9), (.ref a9)]))) (fun _ k => XS.iconst X22.here hx rfl (hb hby own_d_prog_22_method_3_code_9) k) ?_
  refine OGoal.mp (S' := (T21.setTop (mkF m 11 #[.val (.ref f)] [(.int (k1 + (1 : Int32))), (.ref f), (.ref a9), (.ref a9)]))) (fun _ k => XS.iadd X22.here hx rfl (hb hby own_d_prog_22_method_3_code_10) rfl k) ?_
  rw [hk2]
  show OGoal p e below s _ _ _ (T21.setTop (mkF m 11 #[.val (.ref f)] [(.int k2), (.ref f), (.ref a9), (.ref a9)]))
  refine OGoal.mp (S' := (T21.setTop (mkF m 12 #[.val (.ref f)] [(.int k2), (.ref f), (.int k2), (.ref a9), (.ref a9)]))) (fun _ k => XT.dupX1 X22.here hx rfl (hb hby own_d_prog_22_method_3_code_11) rfl rfl rfl k) ?_
  obtain ⟨T25, h29, X26, e27, W30, st28⟩ := putF X22 hx hZ hown (host := "") (Or.inl (hw _ (List.mem_of_getElem? (i := 21) rfl))) Via.refl e23 F15 F14 (Or.inl (hw _ (List.mem_of_getElem? (i := 22) rfl))) (hw _ (List.mem_of_getElem? (i := 1) rfl)) (ty := .int) (by decide) rfl rfl (g := mkF m 12 #[.val (.ref f)] [(.int k2), (.ref f), (.int k2), (.ref a9), (.ref a9)]) rfl rfl (hb hby own_d_prog_22_method_3_code_12)
  have N31 := Fr.snoc X26 (Fr.nil n0) ab
  have Z32 : n0 ≤ h29.size := Nat.le_trans Z19 (Keep.of_wr W30).1
  have K33 : Keep h0 h29 [f] := K13.wr W30 (Or.inl (by simp))
  have F34 := F14.wr W30
  have F35 := F15.same W30
  have F36 := F16.other W30 (Or.inr (slot_ne (a0 := a0) (C := "com/example/wildsolve/wildsolve/infer/Fresh") (t := .int) (t' := .int) (Or.inl (hw _ (List.mem_of_getElem? (i := 136) rfl))) (Or.inl (hw _ (List.mem_of_getElem? (i := 22) rfl))) (by decide) (by decide) (by decide)))
  have F37 := A7.wr W30
  have F38 := F17.other W30 (Or.inl (Nat.ne_of_gt lt11))
  have F39 := F18.other W30 (Or.inl (Nat.ne_of_gt lt11))
  refine OGoal.mp (S' := (T25.setTop (mkF m 15 #[.val (.ref f)] [(.int k2), (.ref a9), (.ref a9)]))) (fun _ k => st28 _ k) ?_
  refine OGoal.mp (S' := (T25.setTop (mkF m 16 #[.val (.ref f)] [(.int (1 : Int32)), (.int k2), (.ref a9), (.ref a9)]))) (fun _ k => XS.iconst X26.here hx rfl (hb hby own_d_prog_22_method_3_code_15) k) ?_
  refine oCallN (y := (⟨"com/example/wildsolve/wildsolve/solver/Placeholder", "<init>", "(IZ)V"⟩ : MethodName)) X26 hx hZ rfl hown (hw _ (List.mem_of_getElem? (i := 23) rfl)) (hw _ (List.mem_of_getElem? (i := 24) rfl)) (hw _ (List.mem_of_getElem? (i := 20) rfl)) (hw _ (List.mem_of_getElem? (i := 25) rfl)) (by decide) (rmPI1 l Z a0 hw a9 k2 h29 n0 Z32 F37 F38 F39 ab20) e27 [(.int k2), (.int (1 : Int32))] [(.ref a9)] rfl rfl (by rw [hml]; rfl) (lenOf own_pd__IZ_V rfl) 1 (Nat.le_of_eq rfl) (by decide) (by decide) (by decide) (by decide) (hb hby own_d_prog_22_method_3_code_16) ?_
  intro v40 T41 L42 X43 q44
  obtain ⟨rfl, N45, K46, E47, F48, F49⟩ := q44
  have N50 := Fr.app N31 N45
  have F51 := F34.keep K46
  have F52 := F35.keep K46 (ninS (Nat.ne_of_lt lt11) nin0)
  have F53 := F36.keep K46 (ninS (Nat.ne_of_lt lt11) nin0)
  have K54 : Keep h0 T41.heap [f] := K33.trans K46 (allS (Or.inr fr12) all0)
  show OGoal p e below s _ _ _ (T41.setTop (mkF m 19 #[.val (.ref f)] [(.ref a9)]))
  refine oRetA X43 hx hlk hret rfl rfl (hb hby own_d_prog_22_method_3_code_19) ?_ (by decide) (by decide)
  exact ⟨a9, rfl, N50, K54, fr12, E47, F48, F49, F51, F52, F53⟩
theorem own_d_method_3_code_0 : decode method_3_code 0 = .ok (.iload_n 1, 1) := by decide +kernel
theorem own_d_method_3_code_1 : decode method_3_code 1 = .ok (.ifCond .eq 10, 3) := by decide +kernel
theorem own_d_method_3_code_11 : decode method_3_code 11 = .ok (.aload_n 0, 1) := by decide +kernel
theorem own_d_method_3_code_12 : decode method_3_code 12 = .ok (.invokevirtual 28, 3) := by decide +kernel
theorem own_pd___Lcom_example_wildsolve_wildsolve_solver_Placeholder_ : parseMethodDescriptor "()Lcom/example/wildsolve/wildsolve/solver/Placeholder;" = some ⟨[], some (.object "com/example/wildsolve/wildsolve/solver/Placeholder")⟩ := by decide +kernel
theorem own_d_method_3_code_15 : decode method_3_code 15 = .ok (.areturn, 1) := by decide +kernel
theorem own_pn_com_example_wildsolve_wildsolve_infer_FreshOrdinaryPinLaw : plainName "com/example/wildsolve/wildsolve/infer/FreshOrdinaryPinLaw" = true := by first | (simp [plainName, overriddenIn]; done) | decide +kernel
theorem own_ef_rmSt0 (x0 : Addr) (x1 : Int32) (m : MethodId) : entryFrame m #[(.ref x0), (.int x1)] 2 = mkF m 0 #[.val (.ref x0), .val (.int x1)] [] := by first | (simp [entryFrame, mkF, argsToLocals, Value.category]; done) | rfl
set_option maxRecDepth 65536 in
set_option maxHeartbeats 40000000 in
theorem rmSt0 (l : Launch) (Z : State) (a0 : Array Value) (hw : ∀ d ∈ tables_1, d.before a0 Z = true) (f : Addr) (h0 : Heap) (n0 : Nat) (Z0 : n0 ≤ h0.size) (k1 k2 z1 : Int32) (hk2 : k1 + (1 : Int32) = k2) (Ef : Exa Z h0 f "com/example/wildsolve/wildsolve/infer/Fresh") (Fp : Fld Z h0 f "com/example/wildsolve/wildsolve/infer/Fresh" "placeholders" "I" (.int k1)) (Fv : Fld Z h0 f "com/example/wildsolve/wildsolve/infer/Fresh" "variables" "I" (.int z1)) (ab : n0 ≤ f) :
    OCon l Z (⟨"com/example/wildsolve/wildsolve/infer/FreshOrdinaryPinLaw", "step", "(Lcom/example/wildsolve/wildsolve/infer/Fresh;Z)Lcom/example/wildsolve/wildsolve/solver/Placeholder;"⟩ : MethodName) method_3_code 2 (some (.object "com/example/wildsolve/wildsolve/solver/Placeholder")) ({ frames := 4, cells := 1, slots := 2, locals := 51 } : Room) #[(.ref f), (.int (0 : Int32))] h0 (fun v h L => ∃ r, v = some (.ref r) ∧ Fr n0 L ∧ Keep h0 h [f] ∧ h0.size ≤ r ∧ Exa Z h r "com/example/wildsolve/wildsolve/solver/Placeholder" ∧ Fld Z h r "com/example/wildsolve/wildsolve/solver/Placeholder" "id" "I" (.int k2) ∧ Fld Z h r "com/example/wildsolve/wildsolve/solver/Placeholder" "wildcard" "Z" (.int (1 : Int32)) ∧ Exa Z h f "com/example/wildsolve/wildsolve/infer/Fresh" ∧ Fld Z h f "com/example/wildsolve/wildsolve/infer/Fresh" "placeholders" "I" (.int k2) ∧ Fld Z h f "com/example/wildsolve/wildsolve/infer/Fresh" "variables" "I" (.int z1)) := by
  refine OConK.intro (y := (⟨"com/example/wildsolve/wildsolve/infer/FreshOrdinaryPinLaw", "step", "(Lcom/example/wildsolve/wildsolve/infer/Fresh;Z)Lcom/example/wildsolve/wildsolve/solver/Placeholder;"⟩ : MethodName)) (plainFor_of_name own_pn_com_example_wildsolve_wildsolve_infer_FreshOrdinaryPinLaw) (own_ef_rmSt0 f (0 : Int32)) ?_
  intro p e s m below meth c s₁ hx hby hml hown hnm hret hlk hZ X0 e0
  show OGoal p e below s _ _ _ (s₁.setTop (mkF m 0 #[.val (.ref f), .val (.int (0 : Int32))] []))
  refine OGoal.mp (S' := (s₁.setTop (mkF m 1 #[.val (.ref f), .val (.int (0 : Int32))] [(.int (0 : Int32))]))) (fun _ k => XS.iloadN X0.here hx rfl (hb hby own_d_method_3_code_0) rfl k) ?_
  refine OGoal.mp (S' := (s₁.setTop (mkF m 11 #[.val (.ref f), .val (.int (0 : Int32))] []))) (fun _ k => XS.ifYes X0.here hx rfl (pc0 := 1) (pc' := 11) rfl (hb hby own_d_method_3_code_1) rfl (XT.i0_eq_t (by decide)) (by decide) (by decide) k) ?_
  refine OGoal.mp (S' := (s₁.setTop (mkF m 12 #[.val (.ref f), .val (.int (0 : Int32))] [(.ref f)]))) (fun _ k => XS.aloadN X0.here hx rfl (hb hby own_d_method_3_code_11) rfl rfl k) ?_
  refine oCallV (y := (⟨"com/example/wildsolve/wildsolve/infer/Fresh", "wildcard", "()Lcom/example/wildsolve/wildsolve/solver/Placeholder;"⟩ : MethodName)) (z := (⟨"com/example/wildsolve/wildsolve/infer/Fresh", "wildcard", "()Lcom/example/wildsolve/wildsolve/solver/Placeholder;"⟩ : MethodName)) X0 hx hZ hown (hw _ (List.mem_of_getElem? (i := 13) rfl)) (hw _ (List.mem_of_getElem? (i := 14) rfl)) (hw _ (List.mem_of_getElem? (i := 16) rfl)) (hw _ (List.mem_of_getElem? (i := 15) rfl)) (hw _ (List.mem_of_getElem? (i := 2) rfl)) (hw _ (List.mem_of_getElem? (i := 17) rfl)) (by decide) (rmO1 l Z a0 hw f h0 n0 Z0 k1 k2 z1 hk2 Ef Fp Fv ab) e0 Ef [] [] rfl rfl (by rw [hml]; rfl) (notFace_of_selects (args := #[]) (mvT hZ (hw _ (List.mem_of_getElem? (i := 16) rfl)))) (lenOf own_pd___Lcom_example_wildsolve_wildsolve_solver_Placeholder_ rfl) 0 (Nat.le_of_eq rfl) (by decide) (by decide) (by decide) (by decide) (hb hby own_d_method_3_code_12) ?_
  intro v2 T3 L4 X5 q6
  obtain ⟨r1, rfl, Nq, rr⟩ := q6
  have Nr := Fr.app (Fr.nil n0) Nq
  show OGoal p e below s _ _ _ (T3.setTop (mkF m 15 #[.val (.ref f), .val (.int (0 : Int32))] [(.ref r1)]))
  refine oRetA X5 hx hlk hret rfl rfl (hb hby own_d_method_3_code_15) ?_ (by decide) (by decide)
  exact ⟨_, rfl, Nr, rr⟩
theorem own_d_method_3_code_4 : decode method_3_code 4 = .ok (.aload_n 0, 1) := by decide +kernel
theorem own_d_method_3_code_5 : decode method_3_code 5 = .ok (.invokevirtual 24, 3) := by decide +kernel
theorem own_d_method_3_code_8 : decode method_3_code 8 = .ok (.goto 7, 3) := by decide +kernel
theorem own_ef_rmSt1 (x0 : Addr) (x1 : Int32) (m : MethodId) : entryFrame m #[(.ref x0), (.int x1)] 2 = mkF m 0 #[.val (.ref x0), .val (.int x1)] [] := by first | (simp [entryFrame, mkF, argsToLocals, Value.category]; done) | rfl
set_option maxRecDepth 65536 in
set_option maxHeartbeats 40000000 in
theorem rmSt1 (l : Launch) (Z : State) (a0 : Array Value) (hw : ∀ d ∈ tables_1, d.before a0 Z = true) (f : Addr) (h0 : Heap) (n0 : Nat) (Z0 : n0 ≤ h0.size) (k1 k2 z1 : Int32) (hk2 : k1 + (1 : Int32) = k2) (Ef : Exa Z h0 f "com/example/wildsolve/wildsolve/infer/Fresh") (Fp : Fld Z h0 f "com/example/wildsolve/wildsolve/infer/Fresh" "placeholders" "I" (.int k1)) (Fv : Fld Z h0 f "com/example/wildsolve/wildsolve/infer/Fresh" "variables" "I" (.int z1)) (ab : n0 ≤ f) :
    OCon l Z (⟨"com/example/wildsolve/wildsolve/infer/FreshOrdinaryPinLaw", "step", "(Lcom/example/wildsolve/wildsolve/infer/Fresh;Z)Lcom/example/wildsolve/wildsolve/solver/Placeholder;"⟩ : MethodName) method_3_code 2 (some (.object "com/example/wildsolve/wildsolve/solver/Placeholder")) ({ frames := 4, cells := 1, slots := 2, locals := 51 } : Room) #[(.ref f), (.int (1 : Int32))] h0 (fun v h L => ∃ r, v = some (.ref r) ∧ Fr n0 L ∧ Keep h0 h [f] ∧ h0.size ≤ r ∧ Exa Z h r "com/example/wildsolve/wildsolve/solver/Placeholder" ∧ Fld Z h r "com/example/wildsolve/wildsolve/solver/Placeholder" "id" "I" (.int k2) ∧ Fld Z h r "com/example/wildsolve/wildsolve/solver/Placeholder" "wildcard" "Z" (.int (0 : Int32)) ∧ Exa Z h f "com/example/wildsolve/wildsolve/infer/Fresh" ∧ Fld Z h f "com/example/wildsolve/wildsolve/infer/Fresh" "placeholders" "I" (.int k2) ∧ Fld Z h f "com/example/wildsolve/wildsolve/infer/Fresh" "variables" "I" (.int z1)) := by
  refine OConK.intro (y := (⟨"com/example/wildsolve/wildsolve/infer/FreshOrdinaryPinLaw", "step", "(Lcom/example/wildsolve/wildsolve/infer/Fresh;Z)Lcom/example/wildsolve/wildsolve/solver/Placeholder;"⟩ : MethodName)) (plainFor_of_name own_pn_com_example_wildsolve_wildsolve_infer_FreshOrdinaryPinLaw) (own_ef_rmSt1 f (1 : Int32)) ?_
  intro p e s m below meth c s₁ hx hby hml hown hnm hret hlk hZ X0 e0
  show OGoal p e below s _ _ _ (s₁.setTop (mkF m 0 #[.val (.ref f), .val (.int (1 : Int32))] []))
  refine OGoal.mp (S' := (s₁.setTop (mkF m 1 #[.val (.ref f), .val (.int (1 : Int32))] [(.int (1 : Int32))]))) (fun _ k => XS.iloadN X0.here hx rfl (hb hby own_d_method_3_code_0) rfl k) ?_
  refine OGoal.mp (S' := (s₁.setTop (mkF m 4 #[.val (.ref f), .val (.int (1 : Int32))] []))) (fun _ k => XS.ifNo X0.here hx rfl (hb hby own_d_method_3_code_1) rfl (XT.i0_eq_f (by decide)) k) ?_
  refine OGoal.mp (S' := (s₁.setTop (mkF m 5 #[.val (.ref f), .val (.int (1 : Int32))] [(.ref f)]))) (fun _ k => XS.aloadN X0.here hx rfl (hb hby own_d_method_3_code_4) rfl rfl k) ?_
  refine oCallV (y := (⟨"com/example/wildsolve/wildsolve/infer/Fresh", "ordinary", "()Lcom/example/wildsolve/wildsolve/solver/Placeholder;"⟩ : MethodName)) (z := (⟨"com/example/wildsolve/wildsolve/infer/Fresh", "ordinary", "()Lcom/example/wildsolve/wildsolve/solver/Placeholder;"⟩ : MethodName)) X0 hx hZ hown (hw _ (List.mem_of_getElem? (i := 49) rfl)) (hw _ (List.mem_of_getElem? (i := 50) rfl)) (hw _ (List.mem_of_getElem? (i := 52) rfl)) (hw _ (List.mem_of_getElem? (i := 51) rfl)) (hw _ (List.mem_of_getElem? (i := 2) rfl)) (hw _ (List.mem_of_getElem? (i := 53) rfl)) (by decide) (rmO0 l Z a0 hw f h0 n0 Z0 k1 k2 z1 hk2 Ef Fp Fv ab) e0 Ef [] [] rfl rfl (by rw [hml]; rfl) (notFace_of_selects (args := #[]) (mvT hZ (hw _ (List.mem_of_getElem? (i := 52) rfl)))) (lenOf own_pd___Lcom_example_wildsolve_wildsolve_solver_Placeholder_ rfl) 0 (Nat.le_of_eq rfl) (by decide) (by decide) (by decide) (by decide) (hb hby own_d_method_3_code_5) ?_
  intro v2 T3 L4 X5 q6
  obtain ⟨r1, rfl, Nq, rr⟩ := q6
  have Nr := Fr.app (Fr.nil n0) Nq
  show OGoal p e below s _ _ _ (T3.setTop (mkF m 8 #[.val (.ref f), .val (.int (1 : Int32))] [(.ref r1)]))
  refine OGoal.mp (S' := (T3.setTop (mkF m 15 #[.val (.ref f), .val (.int (1 : Int32))] [(.ref r1)]))) (fun _ k => XS.goto X5.here hx rfl (pc0 := 8) (pc' := 15) rfl (hb hby own_d_method_3_code_8) (by decide) (by decide) k) ?_
  refine oRetA X5 hx hlk hret rfl rfl (hb hby own_d_method_3_code_15) ?_ (by decide) (by decide)
  exact ⟨_, rfl, Nr, rr⟩
theorem own_d_prog_141_method_5_code_0 : decode prog_141_method_5_code 0 = .ok (.aload_n 0, 1) := by decide +kernel
theorem own_d_prog_141_method_5_code_1 : decode prog_141_method_5_code 1 = .ok (.getfield 7, 3) := by decide +kernel
theorem own_d_prog_141_method_5_code_4 : decode prog_141_method_5_code 4 = .ok (.ireturn, 1) := by decide +kernel
theorem own_ef_rmId (x0 : Addr) (m : MethodId) : entryFrame m #[(.ref x0)] 1 = mkF m 0 #[.val (.ref x0)] [] := by first | (simp [entryFrame, mkF, argsToLocals, Value.category]; done) | rfl
set_option maxRecDepth 65536 in
set_option maxHeartbeats 40000000 in
theorem rmId (l : Launch) (Z : State) (a0 : Array Value) (hw : ∀ d ∈ tables_1, d.before a0 Z = true) (a : Addr) (h0 : Heap) (n0 : Nat) (Z0 : n0 ≤ h0.size) (x1 : Int32) (Fi : Fld Z h0 a "com/example/wildsolve/wildsolve/solver/Placeholder" "id" "I" (.int x1)) :
    OCon l Z (⟨"com/example/wildsolve/wildsolve/solver/Placeholder", "id", "()I"⟩ : MethodName) prog_141_method_5_code 1 (some .int) ({ frames := 0, cells := 0, slots := 0, locals := 0 } : Room) #[(.ref a)] h0 (fun v h L => v = some (.int x1) ∧ Fr n0 L ∧ h = h0) := by
  refine OConK.intro (y := (⟨"com/example/wildsolve/wildsolve/solver/Placeholder", "id", "()I"⟩ : MethodName)) (plainFor_of_name own_pn_com_example_wildsolve_wildsolve_solver_Placeholder) (own_ef_rmId a) ?_
  intro p e s m below meth c s₁ hx hby hml hown hnm hret hlk hZ X0 e0
  show OGoal p e below s _ _ _ (s₁.setTop (mkF m 0 #[.val (.ref a)] []))
  refine OGoal.mp (S' := (s₁.setTop (mkF m 1 #[.val (.ref a)] [(.ref a)]))) (fun _ k => XS.aloadN X0.here hx rfl (hb hby own_d_prog_141_method_5_code_0) rfl rfl k) ?_
  obtain ⟨T1, X2, e3, st4⟩ := getF X0 hx hZ hown (host := "") (Or.inl (hw _ (List.mem_of_getElem? (i := 32) rfl))) Via.refl e0 Fi (g := mkF m 1 #[.val (.ref a)] [(.ref a)]) rfl rfl (hb hby own_d_prog_141_method_5_code_1)
  refine OGoal.mp (S' := (T1.setTop (mkF m 4 #[.val (.ref a)] [(.int x1)]))) (fun _ k => st4 _ k) ?_
  refine oRetI X2 hx hlk hret (hb hby own_d_prog_141_method_5_code_4) ?_ (by decide) (by decide)
  exact ⟨rfl, (Fr.nil n0), e3⟩
theorem own_d_prog_141_method_6_code_0 : decode prog_141_method_6_code 0 = .ok (.aload_n 0, 1) := by decide +kernel
theorem own_d_prog_141_method_6_code_1 : decode prog_141_method_6_code 1 = .ok (.getfield 13, 3) := by decide +kernel
theorem own_d_prog_141_method_6_code_4 : decode prog_141_method_6_code 4 = .ok (.ireturn, 1) := by decide +kernel
theorem own_ef_rmWc0 (x0 : Addr) (m : MethodId) : entryFrame m #[(.ref x0)] 1 = mkF m 0 #[.val (.ref x0)] [] := by first | (simp [entryFrame, mkF, argsToLocals, Value.category]; done) | rfl
set_option maxRecDepth 65536 in
set_option maxHeartbeats 40000000 in
theorem rmWc0 (l : Launch) (Z : State) (a0 : Array Value) (hw : ∀ d ∈ tables_1, d.before a0 Z = true) (a : Addr) (h0 : Heap) (n0 : Nat) (Z0 : n0 ≤ h0.size) (Fw : Fld Z h0 a "com/example/wildsolve/wildsolve/solver/Placeholder" "wildcard" "Z" (.int (0 : Int32))) :
    OCon l Z (⟨"com/example/wildsolve/wildsolve/solver/Placeholder", "wildcard", "()Z"⟩ : MethodName) prog_141_method_6_code 1 (some .boolean) ({ frames := 0, cells := 0, slots := 0, locals := 0 } : Room) #[(.ref a)] h0 (fun v h L => v = some (.int (0 : Int32)) ∧ Fr n0 L ∧ h = h0) := by
  refine OConK.intro (y := (⟨"com/example/wildsolve/wildsolve/solver/Placeholder", "wildcard", "()Z"⟩ : MethodName)) (plainFor_of_name own_pn_com_example_wildsolve_wildsolve_solver_Placeholder) (own_ef_rmWc0 a) ?_
  intro p e s m below meth c s₁ hx hby hml hown hnm hret hlk hZ X0 e0
  show OGoal p e below s _ _ _ (s₁.setTop (mkF m 0 #[.val (.ref a)] []))
  refine OGoal.mp (S' := (s₁.setTop (mkF m 1 #[.val (.ref a)] [(.ref a)]))) (fun _ k => XS.aloadN X0.here hx rfl (hb hby own_d_prog_141_method_6_code_0) rfl rfl k) ?_
  obtain ⟨T1, X2, e3, st4⟩ := getF X0 hx hZ hown (host := "") (Or.inl (hw _ (List.mem_of_getElem? (i := 34) rfl))) Via.refl e0 Fw (g := mkF m 1 #[.val (.ref a)] [(.ref a)]) rfl rfl (hb hby own_d_prog_141_method_6_code_1)
  refine OGoal.mp (S' := (T1.setTop (mkF m 4 #[.val (.ref a)] [(.int (0 : Int32))]))) (fun _ k => st4 _ k) ?_
  refine oRetZ X2 hx hlk hret (Or.inl rfl) (hb hby own_d_prog_141_method_6_code_4) ?_ (by decide) (by decide)
  exact ⟨rfl, (Fr.nil n0), e3⟩
theorem own_ef_rmWc1 (x0 : Addr) (m : MethodId) : entryFrame m #[(.ref x0)] 1 = mkF m 0 #[.val (.ref x0)] [] := by first | (simp [entryFrame, mkF, argsToLocals, Value.category]; done) | rfl
set_option maxRecDepth 65536 in
set_option maxHeartbeats 40000000 in
theorem rmWc1 (l : Launch) (Z : State) (a0 : Array Value) (hw : ∀ d ∈ tables_1, d.before a0 Z = true) (a : Addr) (h0 : Heap) (n0 : Nat) (Z0 : n0 ≤ h0.size) (Fw : Fld Z h0 a "com/example/wildsolve/wildsolve/solver/Placeholder" "wildcard" "Z" (.int (1 : Int32))) :
    OCon l Z (⟨"com/example/wildsolve/wildsolve/solver/Placeholder", "wildcard", "()Z"⟩ : MethodName) prog_141_method_6_code 1 (some .boolean) ({ frames := 0, cells := 0, slots := 0, locals := 0 } : Room) #[(.ref a)] h0 (fun v h L => v = some (.int (1 : Int32)) ∧ Fr n0 L ∧ h = h0) := by
  refine OConK.intro (y := (⟨"com/example/wildsolve/wildsolve/solver/Placeholder", "wildcard", "()Z"⟩ : MethodName)) (plainFor_of_name own_pn_com_example_wildsolve_wildsolve_solver_Placeholder) (own_ef_rmWc1 a) ?_
  intro p e s m below meth c s₁ hx hby hml hown hnm hret hlk hZ X0 e0
  show OGoal p e below s _ _ _ (s₁.setTop (mkF m 0 #[.val (.ref a)] []))
  refine OGoal.mp (S' := (s₁.setTop (mkF m 1 #[.val (.ref a)] [(.ref a)]))) (fun _ k => XS.aloadN X0.here hx rfl (hb hby own_d_prog_141_method_6_code_0) rfl rfl k) ?_
  obtain ⟨T1, X2, e3, st4⟩ := getF X0 hx hZ hown (host := "") (Or.inl (hw _ (List.mem_of_getElem? (i := 34) rfl))) Via.refl e0 Fw (g := mkF m 1 #[.val (.ref a)] [(.ref a)]) rfl rfl (hb hby own_d_prog_141_method_6_code_1)
  refine OGoal.mp (S' := (T1.setTop (mkF m 4 #[.val (.ref a)] [(.int (1 : Int32))]))) (fun _ k => st4 _ k) ?_
  refine oRetZ X2 hx hlk hret (Or.inr rfl) (hb hby own_d_prog_141_method_6_code_4) ?_ (by decide) (by decide)
  exact ⟨rfl, (Fr.nil n0), e3⟩
theorem own_d_method_4_code_0 : decode method_4_code 0 = .ok (.aload_n 0, 1) := by decide +kernel
theorem own_d_method_4_code_1 : decode method_4_code 1 = .ok (.invokevirtual 31, 3) := by decide +kernel
theorem own_d_method_4_code_4 : decode method_4_code 4 = .ok (.iload_n 1, 1) := by decide +kernel
theorem own_d_method_4_code_5 : decode method_4_code 5 = .ok (.if_icmp .ne 23, 3) := by decide +kernel
theorem own_d_method_4_code_8 : decode method_4_code 8 = .ok (.aload_n 0, 1) := by decide +kernel
theorem own_d_method_4_code_9 : decode method_4_code 9 = .ok (.invokevirtual 37, 3) := by decide +kernel
theorem own_d_method_4_code_12 : decode method_4_code 12 = .ok (.iload_n 2, 1) := by decide +kernel
theorem own_d_method_4_code_13 : decode method_4_code 13 = .ok (.ifCond .ne 7, 3) := by decide +kernel
theorem own_d_method_4_code_16 : decode method_4_code 16 = .ok (.iconst 1, 1) := by decide +kernel
theorem own_d_method_4_code_17 : decode method_4_code 17 = .ok (.goto 4, 3) := by decide +kernel
theorem own_d_method_4_code_21 : decode method_4_code 21 = .ok (.if_icmp .ne 7, 3) := by decide +kernel
theorem own_d_method_4_code_24 : decode method_4_code 24 = .ok (.iconst 1, 1) := by decide +kernel
theorem own_d_method_4_code_25 : decode method_4_code 25 = .ok (.goto 4, 3) := by decide +kernel
theorem own_d_method_4_code_29 : decode method_4_code 29 = .ok (.ireturn, 1) := by decide +kernel
theorem own_ef_rmCk10 (x0 : Addr) (x1 : Int32) (x2 : Int32) (m : MethodId) : entryFrame m #[(.ref x0), (.int x1), (.int x2)] 3 = mkF m 0 #[.val (.ref x0), .val (.int x1), .val (.int x2)] [] := by first | (simp [entryFrame, mkF, argsToLocals, Value.category]; done) | rfl
set_option maxRecDepth 65536 in
set_option maxHeartbeats 40000000 in
theorem rmCk10 (l : Launch) (Z : State) (a0 : Array Value) (hw : ∀ d ∈ tables_1, d.before a0 Z = true) (a : Addr) (h0 : Heap) (n0 : Nat) (Z0 : n0 ≤ h0.size) (E : Exa Z h0 a "com/example/wildsolve/wildsolve/solver/Placeholder") (Fi : Fld Z h0 a "com/example/wildsolve/wildsolve/solver/Placeholder" "id" "I" (.int (1 : Int32))) (Fw : Fld Z h0 a "com/example/wildsolve/wildsolve/solver/Placeholder" "wildcard" "Z" (.int (1 : Int32))) :
    OCon l Z (⟨"com/example/wildsolve/wildsolve/infer/FreshOrdinaryPinLaw", "check", "(Lcom/example/wildsolve/wildsolve/solver/Placeholder;IZ)Z"⟩ : MethodName) method_4_code 3 (some .boolean) ({ frames := 1, cells := 0, slots := 0, locals := 12 } : Room) #[(.ref a), (.int (1 : Int32)), (.int (0 : Int32))] h0 (fun v h L => v = some (.int (1 : Int32)) ∧ Fr n0 L ∧ h = h0) := by
  refine OConK.intro (y := (⟨"com/example/wildsolve/wildsolve/infer/FreshOrdinaryPinLaw", "check", "(Lcom/example/wildsolve/wildsolve/solver/Placeholder;IZ)Z"⟩ : MethodName)) (plainFor_of_name own_pn_com_example_wildsolve_wildsolve_infer_FreshOrdinaryPinLaw) (own_ef_rmCk10 a (1 : Int32) (0 : Int32)) ?_
  intro p e s m below meth c s₁ hx hby hml hown hnm hret hlk hZ X0 e0
  show OGoal p e below s _ _ _ (s₁.setTop (mkF m 0 #[.val (.ref a), .val (.int (1 : Int32)), .val (.int (0 : Int32))] []))
  refine OGoal.mp (S' := (s₁.setTop (mkF m 1 #[.val (.ref a), .val (.int (1 : Int32)), .val (.int (0 : Int32))] [(.ref a)]))) (fun _ k => XS.aloadN X0.here hx rfl (hb hby own_d_method_4_code_0) rfl rfl k) ?_
  refine oCallV (y := (⟨"com/example/wildsolve/wildsolve/solver/Placeholder", "id", "()I"⟩ : MethodName)) (z := (⟨"com/example/wildsolve/wildsolve/solver/Placeholder", "id", "()I"⟩ : MethodName)) X0 hx hZ hown (hw _ (List.mem_of_getElem? (i := 39) rfl)) (hw _ (List.mem_of_getElem? (i := 40) rfl)) (hw _ (List.mem_of_getElem? (i := 42) rfl)) (hw _ (List.mem_of_getElem? (i := 41) rfl)) (hw _ (List.mem_of_getElem? (i := 20) rfl)) (hw _ (List.mem_of_getElem? (i := 43) rfl)) (by decide) (rmId l Z a0 hw a h0 n0 Z0 (1 : Int32) Fi) e0 E [] [] rfl rfl (by rw [hml]; rfl) (notFace_of_selects (args := #[]) (mvT hZ (hw _ (List.mem_of_getElem? (i := 42) rfl)))) (lenOf own_pd___I rfl) 0 (Nat.le_of_eq rfl) (by decide) (by decide) (by decide) (by decide) (hb hby own_d_method_4_code_1) ?_
  intro v1 T2 L3 X4 q5
  obtain ⟨rfl, N6, e7⟩ := q5
  have N8 := Fr.app (Fr.nil n0) N6
  show OGoal p e below s _ _ _ (T2.setTop (mkF m 4 #[.val (.ref a), .val (.int (1 : Int32)), .val (.int (0 : Int32))] [(.int (1 : Int32))]))
  refine OGoal.mp (S' := (T2.setTop (mkF m 5 #[.val (.ref a), .val (.int (1 : Int32)), .val (.int (0 : Int32))] [(.int (1 : Int32)), (.int (1 : Int32))]))) (fun _ k => XS.iloadN X4.here hx rfl (hb hby own_d_method_4_code_4) rfl k) ?_
  refine OGoal.mp (S' := (T2.setTop (mkF m 8 #[.val (.ref a), .val (.int (1 : Int32)), .val (.int (0 : Int32))] []))) (fun _ k => XS.icmpNo X4.here hx rfl (hb hby own_d_method_4_code_5) rfl (XT.ii_ne_f (by decide)) k) ?_
  refine OGoal.mp (S' := (T2.setTop (mkF m 9 #[.val (.ref a), .val (.int (1 : Int32)), .val (.int (0 : Int32))] [(.ref a)]))) (fun _ k => XS.aloadN X4.here hx rfl (hb hby own_d_method_4_code_8) rfl rfl k) ?_
  refine oCallV (y := (⟨"com/example/wildsolve/wildsolve/solver/Placeholder", "wildcard", "()Z"⟩ : MethodName)) (z := (⟨"com/example/wildsolve/wildsolve/solver/Placeholder", "wildcard", "()Z"⟩ : MethodName)) X4 hx hZ hown (hw _ (List.mem_of_getElem? (i := 44) rfl)) (hw _ (List.mem_of_getElem? (i := 45) rfl)) (hw _ (List.mem_of_getElem? (i := 47) rfl)) (hw _ (List.mem_of_getElem? (i := 46) rfl)) (hw _ (List.mem_of_getElem? (i := 20) rfl)) (hw _ (List.mem_of_getElem? (i := 48) rfl)) (by decide) (rmWc1 l Z a0 hw a h0 n0 Z0 Fw) e7 E [] [] rfl rfl (by rw [hml]; rfl) (notFace_of_selects (args := #[]) (mvT hZ (hw _ (List.mem_of_getElem? (i := 47) rfl)))) (lenOf own_pd___Z rfl) 0 (Nat.le_of_eq rfl) (by decide) (by decide) (by decide) (by decide) (hb hby own_d_method_4_code_9) ?_
  intro v9 T10 L11 X12 q13
  obtain ⟨rfl, N14, e15⟩ := q13
  have N16 := Fr.app N8 N14
  show OGoal p e below s _ _ _ (T10.setTop (mkF m 12 #[.val (.ref a), .val (.int (1 : Int32)), .val (.int (0 : Int32))] [(.int (1 : Int32))]))
  refine OGoal.mp (S' := (T10.setTop (mkF m 13 #[.val (.ref a), .val (.int (1 : Int32)), .val (.int (0 : Int32))] [(.int (0 : Int32)), (.int (1 : Int32))]))) (fun _ k => XS.iloadN X12.here hx rfl (hb hby own_d_method_4_code_12) rfl k) ?_
  refine OGoal.mp (S' := (T10.setTop (mkF m 16 #[.val (.ref a), .val (.int (1 : Int32)), .val (.int (0 : Int32))] [(.int (1 : Int32))]))) (fun _ k => XS.ifNo X12.here hx rfl (hb hby own_d_method_4_code_13) rfl (XT.i0_ne_f (by decide)) k) ?_
  refine OGoal.mp (S' := (T10.setTop (mkF m 17 #[.val (.ref a), .val (.int (1 : Int32)), .val (.int (0 : Int32))] [(.int (1 : Int32)), (.int (1 : Int32))]))) (fun _ k => XS.iconst X12.here hx rfl (hb hby own_d_method_4_code_16) k) ?_
  refine OGoal.mp (S' := (T10.setTop (mkF m 21 #[.val (.ref a), .val (.int (1 : Int32)), .val (.int (0 : Int32))] [(.int (1 : Int32)), (.int (1 : Int32))]))) (fun _ k => XS.goto X12.here hx rfl (pc0 := 17) (pc' := 21) rfl (hb hby own_d_method_4_code_17) (by decide) (by decide) k) ?_
  refine OGoal.mp (S' := (T10.setTop (mkF m 24 #[.val (.ref a), .val (.int (1 : Int32)), .val (.int (0 : Int32))] []))) (fun _ k => XS.icmpNo X12.here hx rfl (hb hby own_d_method_4_code_21) rfl (XT.ii_ne_f (by decide)) k) ?_
  refine OGoal.mp (S' := (T10.setTop (mkF m 25 #[.val (.ref a), .val (.int (1 : Int32)), .val (.int (0 : Int32))] [(.int (1 : Int32))]))) (fun _ k => XS.iconst X12.here hx rfl (hb hby own_d_method_4_code_24) k) ?_
  refine OGoal.mp (S' := (T10.setTop (mkF m 29 #[.val (.ref a), .val (.int (1 : Int32)), .val (.int (0 : Int32))] [(.int (1 : Int32))]))) (fun _ k => XS.goto X12.here hx rfl (pc0 := 25) (pc' := 29) rfl (hb hby own_d_method_4_code_25) (by decide) (by decide) k) ?_
  refine oRetZ X12 hx hlk hret (Or.inr rfl) (hb hby own_d_method_4_code_29) ?_ (by decide) (by decide)
  exact ⟨rfl, N16, e15⟩
theorem own_d_method_4_code_20 : decode method_4_code 20 = .ok (.iconst 0, 1) := by decide +kernel
theorem own_ef_rmCk11 (x0 : Addr) (x1 : Int32) (x2 : Int32) (m : MethodId) : entryFrame m #[(.ref x0), (.int x1), (.int x2)] 3 = mkF m 0 #[.val (.ref x0), .val (.int x1), .val (.int x2)] [] := by first | (simp [entryFrame, mkF, argsToLocals, Value.category]; done) | rfl
set_option maxRecDepth 65536 in
set_option maxHeartbeats 40000000 in
theorem rmCk11 (l : Launch) (Z : State) (a0 : Array Value) (hw : ∀ d ∈ tables_1, d.before a0 Z = true) (a : Addr) (h0 : Heap) (n0 : Nat) (Z0 : n0 ≤ h0.size) (E : Exa Z h0 a "com/example/wildsolve/wildsolve/solver/Placeholder") (Fi : Fld Z h0 a "com/example/wildsolve/wildsolve/solver/Placeholder" "id" "I" (.int (1 : Int32))) (Fw : Fld Z h0 a "com/example/wildsolve/wildsolve/solver/Placeholder" "wildcard" "Z" (.int (0 : Int32))) :
    OCon l Z (⟨"com/example/wildsolve/wildsolve/infer/FreshOrdinaryPinLaw", "check", "(Lcom/example/wildsolve/wildsolve/solver/Placeholder;IZ)Z"⟩ : MethodName) method_4_code 3 (some .boolean) ({ frames := 1, cells := 0, slots := 0, locals := 12 } : Room) #[(.ref a), (.int (1 : Int32)), (.int (1 : Int32))] h0 (fun v h L => v = some (.int (1 : Int32)) ∧ Fr n0 L ∧ h = h0) := by
  refine OConK.intro (y := (⟨"com/example/wildsolve/wildsolve/infer/FreshOrdinaryPinLaw", "check", "(Lcom/example/wildsolve/wildsolve/solver/Placeholder;IZ)Z"⟩ : MethodName)) (plainFor_of_name own_pn_com_example_wildsolve_wildsolve_infer_FreshOrdinaryPinLaw) (own_ef_rmCk11 a (1 : Int32) (1 : Int32)) ?_
  intro p e s m below meth c s₁ hx hby hml hown hnm hret hlk hZ X0 e0
  show OGoal p e below s _ _ _ (s₁.setTop (mkF m 0 #[.val (.ref a), .val (.int (1 : Int32)), .val (.int (1 : Int32))] []))
  refine OGoal.mp (S' := (s₁.setTop (mkF m 1 #[.val (.ref a), .val (.int (1 : Int32)), .val (.int (1 : Int32))] [(.ref a)]))) (fun _ k => XS.aloadN X0.here hx rfl (hb hby own_d_method_4_code_0) rfl rfl k) ?_
  refine oCallV (y := (⟨"com/example/wildsolve/wildsolve/solver/Placeholder", "id", "()I"⟩ : MethodName)) (z := (⟨"com/example/wildsolve/wildsolve/solver/Placeholder", "id", "()I"⟩ : MethodName)) X0 hx hZ hown (hw _ (List.mem_of_getElem? (i := 39) rfl)) (hw _ (List.mem_of_getElem? (i := 40) rfl)) (hw _ (List.mem_of_getElem? (i := 42) rfl)) (hw _ (List.mem_of_getElem? (i := 41) rfl)) (hw _ (List.mem_of_getElem? (i := 20) rfl)) (hw _ (List.mem_of_getElem? (i := 43) rfl)) (by decide) (rmId l Z a0 hw a h0 n0 Z0 (1 : Int32) Fi) e0 E [] [] rfl rfl (by rw [hml]; rfl) (notFace_of_selects (args := #[]) (mvT hZ (hw _ (List.mem_of_getElem? (i := 42) rfl)))) (lenOf own_pd___I rfl) 0 (Nat.le_of_eq rfl) (by decide) (by decide) (by decide) (by decide) (hb hby own_d_method_4_code_1) ?_
  intro v1 T2 L3 X4 q5
  obtain ⟨rfl, N6, e7⟩ := q5
  have N8 := Fr.app (Fr.nil n0) N6
  show OGoal p e below s _ _ _ (T2.setTop (mkF m 4 #[.val (.ref a), .val (.int (1 : Int32)), .val (.int (1 : Int32))] [(.int (1 : Int32))]))
  refine OGoal.mp (S' := (T2.setTop (mkF m 5 #[.val (.ref a), .val (.int (1 : Int32)), .val (.int (1 : Int32))] [(.int (1 : Int32)), (.int (1 : Int32))]))) (fun _ k => XS.iloadN X4.here hx rfl (hb hby own_d_method_4_code_4) rfl k) ?_
  refine OGoal.mp (S' := (T2.setTop (mkF m 8 #[.val (.ref a), .val (.int (1 : Int32)), .val (.int (1 : Int32))] []))) (fun _ k => XS.icmpNo X4.here hx rfl (hb hby own_d_method_4_code_5) rfl (XT.ii_ne_f (by decide)) k) ?_
  refine OGoal.mp (S' := (T2.setTop (mkF m 9 #[.val (.ref a), .val (.int (1 : Int32)), .val (.int (1 : Int32))] [(.ref a)]))) (fun _ k => XS.aloadN X4.here hx rfl (hb hby own_d_method_4_code_8) rfl rfl k) ?_
  refine oCallV (y := (⟨"com/example/wildsolve/wildsolve/solver/Placeholder", "wildcard", "()Z"⟩ : MethodName)) (z := (⟨"com/example/wildsolve/wildsolve/solver/Placeholder", "wildcard", "()Z"⟩ : MethodName)) X4 hx hZ hown (hw _ (List.mem_of_getElem? (i := 44) rfl)) (hw _ (List.mem_of_getElem? (i := 45) rfl)) (hw _ (List.mem_of_getElem? (i := 47) rfl)) (hw _ (List.mem_of_getElem? (i := 46) rfl)) (hw _ (List.mem_of_getElem? (i := 20) rfl)) (hw _ (List.mem_of_getElem? (i := 48) rfl)) (by decide) (rmWc0 l Z a0 hw a h0 n0 Z0 Fw) e7 E [] [] rfl rfl (by rw [hml]; rfl) (notFace_of_selects (args := #[]) (mvT hZ (hw _ (List.mem_of_getElem? (i := 47) rfl)))) (lenOf own_pd___Z rfl) 0 (Nat.le_of_eq rfl) (by decide) (by decide) (by decide) (by decide) (hb hby own_d_method_4_code_9) ?_
  intro v9 T10 L11 X12 q13
  obtain ⟨rfl, N14, e15⟩ := q13
  have N16 := Fr.app N8 N14
  show OGoal p e below s _ _ _ (T10.setTop (mkF m 12 #[.val (.ref a), .val (.int (1 : Int32)), .val (.int (1 : Int32))] [(.int (0 : Int32))]))
  refine OGoal.mp (S' := (T10.setTop (mkF m 13 #[.val (.ref a), .val (.int (1 : Int32)), .val (.int (1 : Int32))] [(.int (1 : Int32)), (.int (0 : Int32))]))) (fun _ k => XS.iloadN X12.here hx rfl (hb hby own_d_method_4_code_12) rfl k) ?_
  refine OGoal.mp (S' := (T10.setTop (mkF m 20 #[.val (.ref a), .val (.int (1 : Int32)), .val (.int (1 : Int32))] [(.int (0 : Int32))]))) (fun _ k => XS.ifYes X12.here hx rfl (pc0 := 13) (pc' := 20) rfl (hb hby own_d_method_4_code_13) rfl (XT.i0_ne_t (by decide)) (by decide) (by decide) k) ?_
  refine OGoal.mp (S' := (T10.setTop (mkF m 21 #[.val (.ref a), .val (.int (1 : Int32)), .val (.int (1 : Int32))] [(.int (0 : Int32)), (.int (0 : Int32))]))) (fun _ k => XS.iconst X12.here hx rfl (hb hby own_d_method_4_code_20) k) ?_
  refine OGoal.mp (S' := (T10.setTop (mkF m 24 #[.val (.ref a), .val (.int (1 : Int32)), .val (.int (1 : Int32))] []))) (fun _ k => XS.icmpNo X12.here hx rfl (hb hby own_d_method_4_code_21) rfl (XT.ii_ne_f (by decide)) k) ?_
  refine OGoal.mp (S' := (T10.setTop (mkF m 25 #[.val (.ref a), .val (.int (1 : Int32)), .val (.int (1 : Int32))] [(.int (1 : Int32))]))) (fun _ k => XS.iconst X12.here hx rfl (hb hby own_d_method_4_code_24) k) ?_
  refine OGoal.mp (S' := (T10.setTop (mkF m 29 #[.val (.ref a), .val (.int (1 : Int32)), .val (.int (1 : Int32))] [(.int (1 : Int32))]))) (fun _ k => XS.goto X12.here hx rfl (pc0 := 25) (pc' := 29) rfl (hb hby own_d_method_4_code_25) (by decide) (by decide) k) ?_
  refine oRetZ X12 hx hlk hret (Or.inr rfl) (hb hby own_d_method_4_code_29) ?_ (by decide) (by decide)
  exact ⟨rfl, N16, e15⟩
theorem own_ef_rmCk20 (x0 : Addr) (x1 : Int32) (x2 : Int32) (m : MethodId) : entryFrame m #[(.ref x0), (.int x1), (.int x2)] 3 = mkF m 0 #[.val (.ref x0), .val (.int x1), .val (.int x2)] [] := by first | (simp [entryFrame, mkF, argsToLocals, Value.category]; done) | rfl
set_option maxRecDepth 65536 in
set_option maxHeartbeats 40000000 in
theorem rmCk20 (l : Launch) (Z : State) (a0 : Array Value) (hw : ∀ d ∈ tables_1, d.before a0 Z = true) (a : Addr) (h0 : Heap) (n0 : Nat) (Z0 : n0 ≤ h0.size) (E : Exa Z h0 a "com/example/wildsolve/wildsolve/solver/Placeholder") (Fi : Fld Z h0 a "com/example/wildsolve/wildsolve/solver/Placeholder" "id" "I" (.int (2 : Int32))) (Fw : Fld Z h0 a "com/example/wildsolve/wildsolve/solver/Placeholder" "wildcard" "Z" (.int (1 : Int32))) :
    OCon l Z (⟨"com/example/wildsolve/wildsolve/infer/FreshOrdinaryPinLaw", "check", "(Lcom/example/wildsolve/wildsolve/solver/Placeholder;IZ)Z"⟩ : MethodName) method_4_code 3 (some .boolean) ({ frames := 1, cells := 0, slots := 0, locals := 12 } : Room) #[(.ref a), (.int (2 : Int32)), (.int (0 : Int32))] h0 (fun v h L => v = some (.int (1 : Int32)) ∧ Fr n0 L ∧ h = h0) := by
  refine OConK.intro (y := (⟨"com/example/wildsolve/wildsolve/infer/FreshOrdinaryPinLaw", "check", "(Lcom/example/wildsolve/wildsolve/solver/Placeholder;IZ)Z"⟩ : MethodName)) (plainFor_of_name own_pn_com_example_wildsolve_wildsolve_infer_FreshOrdinaryPinLaw) (own_ef_rmCk20 a (2 : Int32) (0 : Int32)) ?_
  intro p e s m below meth c s₁ hx hby hml hown hnm hret hlk hZ X0 e0
  show OGoal p e below s _ _ _ (s₁.setTop (mkF m 0 #[.val (.ref a), .val (.int (2 : Int32)), .val (.int (0 : Int32))] []))
  refine OGoal.mp (S' := (s₁.setTop (mkF m 1 #[.val (.ref a), .val (.int (2 : Int32)), .val (.int (0 : Int32))] [(.ref a)]))) (fun _ k => XS.aloadN X0.here hx rfl (hb hby own_d_method_4_code_0) rfl rfl k) ?_
  refine oCallV (y := (⟨"com/example/wildsolve/wildsolve/solver/Placeholder", "id", "()I"⟩ : MethodName)) (z := (⟨"com/example/wildsolve/wildsolve/solver/Placeholder", "id", "()I"⟩ : MethodName)) X0 hx hZ hown (hw _ (List.mem_of_getElem? (i := 39) rfl)) (hw _ (List.mem_of_getElem? (i := 40) rfl)) (hw _ (List.mem_of_getElem? (i := 42) rfl)) (hw _ (List.mem_of_getElem? (i := 41) rfl)) (hw _ (List.mem_of_getElem? (i := 20) rfl)) (hw _ (List.mem_of_getElem? (i := 43) rfl)) (by decide) (rmId l Z a0 hw a h0 n0 Z0 (2 : Int32) Fi) e0 E [] [] rfl rfl (by rw [hml]; rfl) (notFace_of_selects (args := #[]) (mvT hZ (hw _ (List.mem_of_getElem? (i := 42) rfl)))) (lenOf own_pd___I rfl) 0 (Nat.le_of_eq rfl) (by decide) (by decide) (by decide) (by decide) (hb hby own_d_method_4_code_1) ?_
  intro v1 T2 L3 X4 q5
  obtain ⟨rfl, N6, e7⟩ := q5
  have N8 := Fr.app (Fr.nil n0) N6
  show OGoal p e below s _ _ _ (T2.setTop (mkF m 4 #[.val (.ref a), .val (.int (2 : Int32)), .val (.int (0 : Int32))] [(.int (2 : Int32))]))
  refine OGoal.mp (S' := (T2.setTop (mkF m 5 #[.val (.ref a), .val (.int (2 : Int32)), .val (.int (0 : Int32))] [(.int (2 : Int32)), (.int (2 : Int32))]))) (fun _ k => XS.iloadN X4.here hx rfl (hb hby own_d_method_4_code_4) rfl k) ?_
  refine OGoal.mp (S' := (T2.setTop (mkF m 8 #[.val (.ref a), .val (.int (2 : Int32)), .val (.int (0 : Int32))] []))) (fun _ k => XS.icmpNo X4.here hx rfl (hb hby own_d_method_4_code_5) rfl (XT.ii_ne_f (by decide)) k) ?_
  refine OGoal.mp (S' := (T2.setTop (mkF m 9 #[.val (.ref a), .val (.int (2 : Int32)), .val (.int (0 : Int32))] [(.ref a)]))) (fun _ k => XS.aloadN X4.here hx rfl (hb hby own_d_method_4_code_8) rfl rfl k) ?_
  refine oCallV (y := (⟨"com/example/wildsolve/wildsolve/solver/Placeholder", "wildcard", "()Z"⟩ : MethodName)) (z := (⟨"com/example/wildsolve/wildsolve/solver/Placeholder", "wildcard", "()Z"⟩ : MethodName)) X4 hx hZ hown (hw _ (List.mem_of_getElem? (i := 44) rfl)) (hw _ (List.mem_of_getElem? (i := 45) rfl)) (hw _ (List.mem_of_getElem? (i := 47) rfl)) (hw _ (List.mem_of_getElem? (i := 46) rfl)) (hw _ (List.mem_of_getElem? (i := 20) rfl)) (hw _ (List.mem_of_getElem? (i := 48) rfl)) (by decide) (rmWc1 l Z a0 hw a h0 n0 Z0 Fw) e7 E [] [] rfl rfl (by rw [hml]; rfl) (notFace_of_selects (args := #[]) (mvT hZ (hw _ (List.mem_of_getElem? (i := 47) rfl)))) (lenOf own_pd___Z rfl) 0 (Nat.le_of_eq rfl) (by decide) (by decide) (by decide) (by decide) (hb hby own_d_method_4_code_9) ?_
  intro v9 T10 L11 X12 q13
  obtain ⟨rfl, N14, e15⟩ := q13
  have N16 := Fr.app N8 N14
  show OGoal p e below s _ _ _ (T10.setTop (mkF m 12 #[.val (.ref a), .val (.int (2 : Int32)), .val (.int (0 : Int32))] [(.int (1 : Int32))]))
  refine OGoal.mp (S' := (T10.setTop (mkF m 13 #[.val (.ref a), .val (.int (2 : Int32)), .val (.int (0 : Int32))] [(.int (0 : Int32)), (.int (1 : Int32))]))) (fun _ k => XS.iloadN X12.here hx rfl (hb hby own_d_method_4_code_12) rfl k) ?_
  refine OGoal.mp (S' := (T10.setTop (mkF m 16 #[.val (.ref a), .val (.int (2 : Int32)), .val (.int (0 : Int32))] [(.int (1 : Int32))]))) (fun _ k => XS.ifNo X12.here hx rfl (hb hby own_d_method_4_code_13) rfl (XT.i0_ne_f (by decide)) k) ?_
  refine OGoal.mp (S' := (T10.setTop (mkF m 17 #[.val (.ref a), .val (.int (2 : Int32)), .val (.int (0 : Int32))] [(.int (1 : Int32)), (.int (1 : Int32))]))) (fun _ k => XS.iconst X12.here hx rfl (hb hby own_d_method_4_code_16) k) ?_
  refine OGoal.mp (S' := (T10.setTop (mkF m 21 #[.val (.ref a), .val (.int (2 : Int32)), .val (.int (0 : Int32))] [(.int (1 : Int32)), (.int (1 : Int32))]))) (fun _ k => XS.goto X12.here hx rfl (pc0 := 17) (pc' := 21) rfl (hb hby own_d_method_4_code_17) (by decide) (by decide) k) ?_
  refine OGoal.mp (S' := (T10.setTop (mkF m 24 #[.val (.ref a), .val (.int (2 : Int32)), .val (.int (0 : Int32))] []))) (fun _ k => XS.icmpNo X12.here hx rfl (hb hby own_d_method_4_code_21) rfl (XT.ii_ne_f (by decide)) k) ?_
  refine OGoal.mp (S' := (T10.setTop (mkF m 25 #[.val (.ref a), .val (.int (2 : Int32)), .val (.int (0 : Int32))] [(.int (1 : Int32))]))) (fun _ k => XS.iconst X12.here hx rfl (hb hby own_d_method_4_code_24) k) ?_
  refine OGoal.mp (S' := (T10.setTop (mkF m 29 #[.val (.ref a), .val (.int (2 : Int32)), .val (.int (0 : Int32))] [(.int (1 : Int32))]))) (fun _ k => XS.goto X12.here hx rfl (pc0 := 25) (pc' := 29) rfl (hb hby own_d_method_4_code_25) (by decide) (by decide) k) ?_
  refine oRetZ X12 hx hlk hret (Or.inr rfl) (hb hby own_d_method_4_code_29) ?_ (by decide) (by decide)
  exact ⟨rfl, N16, e15⟩
theorem own_ef_rmCk21 (x0 : Addr) (x1 : Int32) (x2 : Int32) (m : MethodId) : entryFrame m #[(.ref x0), (.int x1), (.int x2)] 3 = mkF m 0 #[.val (.ref x0), .val (.int x1), .val (.int x2)] [] := by first | (simp [entryFrame, mkF, argsToLocals, Value.category]; done) | rfl
set_option maxRecDepth 65536 in
set_option maxHeartbeats 40000000 in
theorem rmCk21 (l : Launch) (Z : State) (a0 : Array Value) (hw : ∀ d ∈ tables_1, d.before a0 Z = true) (a : Addr) (h0 : Heap) (n0 : Nat) (Z0 : n0 ≤ h0.size) (E : Exa Z h0 a "com/example/wildsolve/wildsolve/solver/Placeholder") (Fi : Fld Z h0 a "com/example/wildsolve/wildsolve/solver/Placeholder" "id" "I" (.int (2 : Int32))) (Fw : Fld Z h0 a "com/example/wildsolve/wildsolve/solver/Placeholder" "wildcard" "Z" (.int (0 : Int32))) :
    OCon l Z (⟨"com/example/wildsolve/wildsolve/infer/FreshOrdinaryPinLaw", "check", "(Lcom/example/wildsolve/wildsolve/solver/Placeholder;IZ)Z"⟩ : MethodName) method_4_code 3 (some .boolean) ({ frames := 1, cells := 0, slots := 0, locals := 12 } : Room) #[(.ref a), (.int (2 : Int32)), (.int (1 : Int32))] h0 (fun v h L => v = some (.int (1 : Int32)) ∧ Fr n0 L ∧ h = h0) := by
  refine OConK.intro (y := (⟨"com/example/wildsolve/wildsolve/infer/FreshOrdinaryPinLaw", "check", "(Lcom/example/wildsolve/wildsolve/solver/Placeholder;IZ)Z"⟩ : MethodName)) (plainFor_of_name own_pn_com_example_wildsolve_wildsolve_infer_FreshOrdinaryPinLaw) (own_ef_rmCk21 a (2 : Int32) (1 : Int32)) ?_
  intro p e s m below meth c s₁ hx hby hml hown hnm hret hlk hZ X0 e0
  show OGoal p e below s _ _ _ (s₁.setTop (mkF m 0 #[.val (.ref a), .val (.int (2 : Int32)), .val (.int (1 : Int32))] []))
  refine OGoal.mp (S' := (s₁.setTop (mkF m 1 #[.val (.ref a), .val (.int (2 : Int32)), .val (.int (1 : Int32))] [(.ref a)]))) (fun _ k => XS.aloadN X0.here hx rfl (hb hby own_d_method_4_code_0) rfl rfl k) ?_
  refine oCallV (y := (⟨"com/example/wildsolve/wildsolve/solver/Placeholder", "id", "()I"⟩ : MethodName)) (z := (⟨"com/example/wildsolve/wildsolve/solver/Placeholder", "id", "()I"⟩ : MethodName)) X0 hx hZ hown (hw _ (List.mem_of_getElem? (i := 39) rfl)) (hw _ (List.mem_of_getElem? (i := 40) rfl)) (hw _ (List.mem_of_getElem? (i := 42) rfl)) (hw _ (List.mem_of_getElem? (i := 41) rfl)) (hw _ (List.mem_of_getElem? (i := 20) rfl)) (hw _ (List.mem_of_getElem? (i := 43) rfl)) (by decide) (rmId l Z a0 hw a h0 n0 Z0 (2 : Int32) Fi) e0 E [] [] rfl rfl (by rw [hml]; rfl) (notFace_of_selects (args := #[]) (mvT hZ (hw _ (List.mem_of_getElem? (i := 42) rfl)))) (lenOf own_pd___I rfl) 0 (Nat.le_of_eq rfl) (by decide) (by decide) (by decide) (by decide) (hb hby own_d_method_4_code_1) ?_
  intro v1 T2 L3 X4 q5
  obtain ⟨rfl, N6, e7⟩ := q5
  have N8 := Fr.app (Fr.nil n0) N6
  show OGoal p e below s _ _ _ (T2.setTop (mkF m 4 #[.val (.ref a), .val (.int (2 : Int32)), .val (.int (1 : Int32))] [(.int (2 : Int32))]))
  refine OGoal.mp (S' := (T2.setTop (mkF m 5 #[.val (.ref a), .val (.int (2 : Int32)), .val (.int (1 : Int32))] [(.int (2 : Int32)), (.int (2 : Int32))]))) (fun _ k => XS.iloadN X4.here hx rfl (hb hby own_d_method_4_code_4) rfl k) ?_
  refine OGoal.mp (S' := (T2.setTop (mkF m 8 #[.val (.ref a), .val (.int (2 : Int32)), .val (.int (1 : Int32))] []))) (fun _ k => XS.icmpNo X4.here hx rfl (hb hby own_d_method_4_code_5) rfl (XT.ii_ne_f (by decide)) k) ?_
  refine OGoal.mp (S' := (T2.setTop (mkF m 9 #[.val (.ref a), .val (.int (2 : Int32)), .val (.int (1 : Int32))] [(.ref a)]))) (fun _ k => XS.aloadN X4.here hx rfl (hb hby own_d_method_4_code_8) rfl rfl k) ?_
  refine oCallV (y := (⟨"com/example/wildsolve/wildsolve/solver/Placeholder", "wildcard", "()Z"⟩ : MethodName)) (z := (⟨"com/example/wildsolve/wildsolve/solver/Placeholder", "wildcard", "()Z"⟩ : MethodName)) X4 hx hZ hown (hw _ (List.mem_of_getElem? (i := 44) rfl)) (hw _ (List.mem_of_getElem? (i := 45) rfl)) (hw _ (List.mem_of_getElem? (i := 47) rfl)) (hw _ (List.mem_of_getElem? (i := 46) rfl)) (hw _ (List.mem_of_getElem? (i := 20) rfl)) (hw _ (List.mem_of_getElem? (i := 48) rfl)) (by decide) (rmWc0 l Z a0 hw a h0 n0 Z0 Fw) e7 E [] [] rfl rfl (by rw [hml]; rfl) (notFace_of_selects (args := #[]) (mvT hZ (hw _ (List.mem_of_getElem? (i := 47) rfl)))) (lenOf own_pd___Z rfl) 0 (Nat.le_of_eq rfl) (by decide) (by decide) (by decide) (by decide) (hb hby own_d_method_4_code_9) ?_
  intro v9 T10 L11 X12 q13
  obtain ⟨rfl, N14, e15⟩ := q13
  have N16 := Fr.app N8 N14
  show OGoal p e below s _ _ _ (T10.setTop (mkF m 12 #[.val (.ref a), .val (.int (2 : Int32)), .val (.int (1 : Int32))] [(.int (0 : Int32))]))
  refine OGoal.mp (S' := (T10.setTop (mkF m 13 #[.val (.ref a), .val (.int (2 : Int32)), .val (.int (1 : Int32))] [(.int (1 : Int32)), (.int (0 : Int32))]))) (fun _ k => XS.iloadN X12.here hx rfl (hb hby own_d_method_4_code_12) rfl k) ?_
  refine OGoal.mp (S' := (T10.setTop (mkF m 20 #[.val (.ref a), .val (.int (2 : Int32)), .val (.int (1 : Int32))] [(.int (0 : Int32))]))) (fun _ k => XS.ifYes X12.here hx rfl (pc0 := 13) (pc' := 20) rfl (hb hby own_d_method_4_code_13) rfl (XT.i0_ne_t (by decide)) (by decide) (by decide) k) ?_
  refine OGoal.mp (S' := (T10.setTop (mkF m 21 #[.val (.ref a), .val (.int (2 : Int32)), .val (.int (1 : Int32))] [(.int (0 : Int32)), (.int (0 : Int32))]))) (fun _ k => XS.iconst X12.here hx rfl (hb hby own_d_method_4_code_20) k) ?_
  refine OGoal.mp (S' := (T10.setTop (mkF m 24 #[.val (.ref a), .val (.int (2 : Int32)), .val (.int (1 : Int32))] []))) (fun _ k => XS.icmpNo X12.here hx rfl (hb hby own_d_method_4_code_21) rfl (XT.ii_ne_f (by decide)) k) ?_
  refine OGoal.mp (S' := (T10.setTop (mkF m 25 #[.val (.ref a), .val (.int (2 : Int32)), .val (.int (1 : Int32))] [(.int (1 : Int32))]))) (fun _ k => XS.iconst X12.here hx rfl (hb hby own_d_method_4_code_24) k) ?_
  refine OGoal.mp (S' := (T10.setTop (mkF m 29 #[.val (.ref a), .val (.int (2 : Int32)), .val (.int (1 : Int32))] [(.int (1 : Int32))]))) (fun _ k => XS.goto X12.here hx rfl (pc0 := 25) (pc' := 29) rfl (hb hby own_d_method_4_code_25) (by decide) (by decide) k) ?_
  refine oRetZ X12 hx hlk hret (Or.inr rfl) (hb hby own_d_method_4_code_29) ?_ (by decide) (by decide)
  exact ⟨rfl, N16, e15⟩
theorem own_ef_rmCk30 (x0 : Addr) (x1 : Int32) (x2 : Int32) (m : MethodId) : entryFrame m #[(.ref x0), (.int x1), (.int x2)] 3 = mkF m 0 #[.val (.ref x0), .val (.int x1), .val (.int x2)] [] := by first | (simp [entryFrame, mkF, argsToLocals, Value.category]; done) | rfl
set_option maxRecDepth 65536 in
set_option maxHeartbeats 40000000 in
theorem rmCk30 (l : Launch) (Z : State) (a0 : Array Value) (hw : ∀ d ∈ tables_1, d.before a0 Z = true) (a : Addr) (h0 : Heap) (n0 : Nat) (Z0 : n0 ≤ h0.size) (E : Exa Z h0 a "com/example/wildsolve/wildsolve/solver/Placeholder") (Fi : Fld Z h0 a "com/example/wildsolve/wildsolve/solver/Placeholder" "id" "I" (.int (3 : Int32))) (Fw : Fld Z h0 a "com/example/wildsolve/wildsolve/solver/Placeholder" "wildcard" "Z" (.int (1 : Int32))) :
    OCon l Z (⟨"com/example/wildsolve/wildsolve/infer/FreshOrdinaryPinLaw", "check", "(Lcom/example/wildsolve/wildsolve/solver/Placeholder;IZ)Z"⟩ : MethodName) method_4_code 3 (some .boolean) ({ frames := 1, cells := 0, slots := 0, locals := 12 } : Room) #[(.ref a), (.int (3 : Int32)), (.int (0 : Int32))] h0 (fun v h L => v = some (.int (1 : Int32)) ∧ Fr n0 L ∧ h = h0) := by
  refine OConK.intro (y := (⟨"com/example/wildsolve/wildsolve/infer/FreshOrdinaryPinLaw", "check", "(Lcom/example/wildsolve/wildsolve/solver/Placeholder;IZ)Z"⟩ : MethodName)) (plainFor_of_name own_pn_com_example_wildsolve_wildsolve_infer_FreshOrdinaryPinLaw) (own_ef_rmCk30 a (3 : Int32) (0 : Int32)) ?_
  intro p e s m below meth c s₁ hx hby hml hown hnm hret hlk hZ X0 e0
  show OGoal p e below s _ _ _ (s₁.setTop (mkF m 0 #[.val (.ref a), .val (.int (3 : Int32)), .val (.int (0 : Int32))] []))
  refine OGoal.mp (S' := (s₁.setTop (mkF m 1 #[.val (.ref a), .val (.int (3 : Int32)), .val (.int (0 : Int32))] [(.ref a)]))) (fun _ k => XS.aloadN X0.here hx rfl (hb hby own_d_method_4_code_0) rfl rfl k) ?_
  refine oCallV (y := (⟨"com/example/wildsolve/wildsolve/solver/Placeholder", "id", "()I"⟩ : MethodName)) (z := (⟨"com/example/wildsolve/wildsolve/solver/Placeholder", "id", "()I"⟩ : MethodName)) X0 hx hZ hown (hw _ (List.mem_of_getElem? (i := 39) rfl)) (hw _ (List.mem_of_getElem? (i := 40) rfl)) (hw _ (List.mem_of_getElem? (i := 42) rfl)) (hw _ (List.mem_of_getElem? (i := 41) rfl)) (hw _ (List.mem_of_getElem? (i := 20) rfl)) (hw _ (List.mem_of_getElem? (i := 43) rfl)) (by decide) (rmId l Z a0 hw a h0 n0 Z0 (3 : Int32) Fi) e0 E [] [] rfl rfl (by rw [hml]; rfl) (notFace_of_selects (args := #[]) (mvT hZ (hw _ (List.mem_of_getElem? (i := 42) rfl)))) (lenOf own_pd___I rfl) 0 (Nat.le_of_eq rfl) (by decide) (by decide) (by decide) (by decide) (hb hby own_d_method_4_code_1) ?_
  intro v1 T2 L3 X4 q5
  obtain ⟨rfl, N6, e7⟩ := q5
  have N8 := Fr.app (Fr.nil n0) N6
  show OGoal p e below s _ _ _ (T2.setTop (mkF m 4 #[.val (.ref a), .val (.int (3 : Int32)), .val (.int (0 : Int32))] [(.int (3 : Int32))]))
  refine OGoal.mp (S' := (T2.setTop (mkF m 5 #[.val (.ref a), .val (.int (3 : Int32)), .val (.int (0 : Int32))] [(.int (3 : Int32)), (.int (3 : Int32))]))) (fun _ k => XS.iloadN X4.here hx rfl (hb hby own_d_method_4_code_4) rfl k) ?_
  refine OGoal.mp (S' := (T2.setTop (mkF m 8 #[.val (.ref a), .val (.int (3 : Int32)), .val (.int (0 : Int32))] []))) (fun _ k => XS.icmpNo X4.here hx rfl (hb hby own_d_method_4_code_5) rfl (XT.ii_ne_f (by decide)) k) ?_
  refine OGoal.mp (S' := (T2.setTop (mkF m 9 #[.val (.ref a), .val (.int (3 : Int32)), .val (.int (0 : Int32))] [(.ref a)]))) (fun _ k => XS.aloadN X4.here hx rfl (hb hby own_d_method_4_code_8) rfl rfl k) ?_
  refine oCallV (y := (⟨"com/example/wildsolve/wildsolve/solver/Placeholder", "wildcard", "()Z"⟩ : MethodName)) (z := (⟨"com/example/wildsolve/wildsolve/solver/Placeholder", "wildcard", "()Z"⟩ : MethodName)) X4 hx hZ hown (hw _ (List.mem_of_getElem? (i := 44) rfl)) (hw _ (List.mem_of_getElem? (i := 45) rfl)) (hw _ (List.mem_of_getElem? (i := 47) rfl)) (hw _ (List.mem_of_getElem? (i := 46) rfl)) (hw _ (List.mem_of_getElem? (i := 20) rfl)) (hw _ (List.mem_of_getElem? (i := 48) rfl)) (by decide) (rmWc1 l Z a0 hw a h0 n0 Z0 Fw) e7 E [] [] rfl rfl (by rw [hml]; rfl) (notFace_of_selects (args := #[]) (mvT hZ (hw _ (List.mem_of_getElem? (i := 47) rfl)))) (lenOf own_pd___Z rfl) 0 (Nat.le_of_eq rfl) (by decide) (by decide) (by decide) (by decide) (hb hby own_d_method_4_code_9) ?_
  intro v9 T10 L11 X12 q13
  obtain ⟨rfl, N14, e15⟩ := q13
  have N16 := Fr.app N8 N14
  show OGoal p e below s _ _ _ (T10.setTop (mkF m 12 #[.val (.ref a), .val (.int (3 : Int32)), .val (.int (0 : Int32))] [(.int (1 : Int32))]))
  refine OGoal.mp (S' := (T10.setTop (mkF m 13 #[.val (.ref a), .val (.int (3 : Int32)), .val (.int (0 : Int32))] [(.int (0 : Int32)), (.int (1 : Int32))]))) (fun _ k => XS.iloadN X12.here hx rfl (hb hby own_d_method_4_code_12) rfl k) ?_
  refine OGoal.mp (S' := (T10.setTop (mkF m 16 #[.val (.ref a), .val (.int (3 : Int32)), .val (.int (0 : Int32))] [(.int (1 : Int32))]))) (fun _ k => XS.ifNo X12.here hx rfl (hb hby own_d_method_4_code_13) rfl (XT.i0_ne_f (by decide)) k) ?_
  refine OGoal.mp (S' := (T10.setTop (mkF m 17 #[.val (.ref a), .val (.int (3 : Int32)), .val (.int (0 : Int32))] [(.int (1 : Int32)), (.int (1 : Int32))]))) (fun _ k => XS.iconst X12.here hx rfl (hb hby own_d_method_4_code_16) k) ?_
  refine OGoal.mp (S' := (T10.setTop (mkF m 21 #[.val (.ref a), .val (.int (3 : Int32)), .val (.int (0 : Int32))] [(.int (1 : Int32)), (.int (1 : Int32))]))) (fun _ k => XS.goto X12.here hx rfl (pc0 := 17) (pc' := 21) rfl (hb hby own_d_method_4_code_17) (by decide) (by decide) k) ?_
  refine OGoal.mp (S' := (T10.setTop (mkF m 24 #[.val (.ref a), .val (.int (3 : Int32)), .val (.int (0 : Int32))] []))) (fun _ k => XS.icmpNo X12.here hx rfl (hb hby own_d_method_4_code_21) rfl (XT.ii_ne_f (by decide)) k) ?_
  refine OGoal.mp (S' := (T10.setTop (mkF m 25 #[.val (.ref a), .val (.int (3 : Int32)), .val (.int (0 : Int32))] [(.int (1 : Int32))]))) (fun _ k => XS.iconst X12.here hx rfl (hb hby own_d_method_4_code_24) k) ?_
  refine OGoal.mp (S' := (T10.setTop (mkF m 29 #[.val (.ref a), .val (.int (3 : Int32)), .val (.int (0 : Int32))] [(.int (1 : Int32))]))) (fun _ k => XS.goto X12.here hx rfl (pc0 := 25) (pc' := 29) rfl (hb hby own_d_method_4_code_25) (by decide) (by decide) k) ?_
  refine oRetZ X12 hx hlk hret (Or.inr rfl) (hb hby own_d_method_4_code_29) ?_ (by decide) (by decide)
  exact ⟨rfl, N16, e15⟩
theorem own_ef_rmCk31 (x0 : Addr) (x1 : Int32) (x2 : Int32) (m : MethodId) : entryFrame m #[(.ref x0), (.int x1), (.int x2)] 3 = mkF m 0 #[.val (.ref x0), .val (.int x1), .val (.int x2)] [] := by first | (simp [entryFrame, mkF, argsToLocals, Value.category]; done) | rfl
set_option maxRecDepth 65536 in
set_option maxHeartbeats 40000000 in
theorem rmCk31 (l : Launch) (Z : State) (a0 : Array Value) (hw : ∀ d ∈ tables_1, d.before a0 Z = true) (a : Addr) (h0 : Heap) (n0 : Nat) (Z0 : n0 ≤ h0.size) (E : Exa Z h0 a "com/example/wildsolve/wildsolve/solver/Placeholder") (Fi : Fld Z h0 a "com/example/wildsolve/wildsolve/solver/Placeholder" "id" "I" (.int (3 : Int32))) (Fw : Fld Z h0 a "com/example/wildsolve/wildsolve/solver/Placeholder" "wildcard" "Z" (.int (0 : Int32))) :
    OCon l Z (⟨"com/example/wildsolve/wildsolve/infer/FreshOrdinaryPinLaw", "check", "(Lcom/example/wildsolve/wildsolve/solver/Placeholder;IZ)Z"⟩ : MethodName) method_4_code 3 (some .boolean) ({ frames := 1, cells := 0, slots := 0, locals := 12 } : Room) #[(.ref a), (.int (3 : Int32)), (.int (1 : Int32))] h0 (fun v h L => v = some (.int (1 : Int32)) ∧ Fr n0 L ∧ h = h0) := by
  refine OConK.intro (y := (⟨"com/example/wildsolve/wildsolve/infer/FreshOrdinaryPinLaw", "check", "(Lcom/example/wildsolve/wildsolve/solver/Placeholder;IZ)Z"⟩ : MethodName)) (plainFor_of_name own_pn_com_example_wildsolve_wildsolve_infer_FreshOrdinaryPinLaw) (own_ef_rmCk31 a (3 : Int32) (1 : Int32)) ?_
  intro p e s m below meth c s₁ hx hby hml hown hnm hret hlk hZ X0 e0
  show OGoal p e below s _ _ _ (s₁.setTop (mkF m 0 #[.val (.ref a), .val (.int (3 : Int32)), .val (.int (1 : Int32))] []))
  refine OGoal.mp (S' := (s₁.setTop (mkF m 1 #[.val (.ref a), .val (.int (3 : Int32)), .val (.int (1 : Int32))] [(.ref a)]))) (fun _ k => XS.aloadN X0.here hx rfl (hb hby own_d_method_4_code_0) rfl rfl k) ?_
  refine oCallV (y := (⟨"com/example/wildsolve/wildsolve/solver/Placeholder", "id", "()I"⟩ : MethodName)) (z := (⟨"com/example/wildsolve/wildsolve/solver/Placeholder", "id", "()I"⟩ : MethodName)) X0 hx hZ hown (hw _ (List.mem_of_getElem? (i := 39) rfl)) (hw _ (List.mem_of_getElem? (i := 40) rfl)) (hw _ (List.mem_of_getElem? (i := 42) rfl)) (hw _ (List.mem_of_getElem? (i := 41) rfl)) (hw _ (List.mem_of_getElem? (i := 20) rfl)) (hw _ (List.mem_of_getElem? (i := 43) rfl)) (by decide) (rmId l Z a0 hw a h0 n0 Z0 (3 : Int32) Fi) e0 E [] [] rfl rfl (by rw [hml]; rfl) (notFace_of_selects (args := #[]) (mvT hZ (hw _ (List.mem_of_getElem? (i := 42) rfl)))) (lenOf own_pd___I rfl) 0 (Nat.le_of_eq rfl) (by decide) (by decide) (by decide) (by decide) (hb hby own_d_method_4_code_1) ?_
  intro v1 T2 L3 X4 q5
  obtain ⟨rfl, N6, e7⟩ := q5
  have N8 := Fr.app (Fr.nil n0) N6
  show OGoal p e below s _ _ _ (T2.setTop (mkF m 4 #[.val (.ref a), .val (.int (3 : Int32)), .val (.int (1 : Int32))] [(.int (3 : Int32))]))
  refine OGoal.mp (S' := (T2.setTop (mkF m 5 #[.val (.ref a), .val (.int (3 : Int32)), .val (.int (1 : Int32))] [(.int (3 : Int32)), (.int (3 : Int32))]))) (fun _ k => XS.iloadN X4.here hx rfl (hb hby own_d_method_4_code_4) rfl k) ?_
  refine OGoal.mp (S' := (T2.setTop (mkF m 8 #[.val (.ref a), .val (.int (3 : Int32)), .val (.int (1 : Int32))] []))) (fun _ k => XS.icmpNo X4.here hx rfl (hb hby own_d_method_4_code_5) rfl (XT.ii_ne_f (by decide)) k) ?_
  refine OGoal.mp (S' := (T2.setTop (mkF m 9 #[.val (.ref a), .val (.int (3 : Int32)), .val (.int (1 : Int32))] [(.ref a)]))) (fun _ k => XS.aloadN X4.here hx rfl (hb hby own_d_method_4_code_8) rfl rfl k) ?_
  refine oCallV (y := (⟨"com/example/wildsolve/wildsolve/solver/Placeholder", "wildcard", "()Z"⟩ : MethodName)) (z := (⟨"com/example/wildsolve/wildsolve/solver/Placeholder", "wildcard", "()Z"⟩ : MethodName)) X4 hx hZ hown (hw _ (List.mem_of_getElem? (i := 44) rfl)) (hw _ (List.mem_of_getElem? (i := 45) rfl)) (hw _ (List.mem_of_getElem? (i := 47) rfl)) (hw _ (List.mem_of_getElem? (i := 46) rfl)) (hw _ (List.mem_of_getElem? (i := 20) rfl)) (hw _ (List.mem_of_getElem? (i := 48) rfl)) (by decide) (rmWc0 l Z a0 hw a h0 n0 Z0 Fw) e7 E [] [] rfl rfl (by rw [hml]; rfl) (notFace_of_selects (args := #[]) (mvT hZ (hw _ (List.mem_of_getElem? (i := 47) rfl)))) (lenOf own_pd___Z rfl) 0 (Nat.le_of_eq rfl) (by decide) (by decide) (by decide) (by decide) (hb hby own_d_method_4_code_9) ?_
  intro v9 T10 L11 X12 q13
  obtain ⟨rfl, N14, e15⟩ := q13
  have N16 := Fr.app N8 N14
  show OGoal p e below s _ _ _ (T10.setTop (mkF m 12 #[.val (.ref a), .val (.int (3 : Int32)), .val (.int (1 : Int32))] [(.int (0 : Int32))]))
  refine OGoal.mp (S' := (T10.setTop (mkF m 13 #[.val (.ref a), .val (.int (3 : Int32)), .val (.int (1 : Int32))] [(.int (1 : Int32)), (.int (0 : Int32))]))) (fun _ k => XS.iloadN X12.here hx rfl (hb hby own_d_method_4_code_12) rfl k) ?_
  refine OGoal.mp (S' := (T10.setTop (mkF m 20 #[.val (.ref a), .val (.int (3 : Int32)), .val (.int (1 : Int32))] [(.int (0 : Int32))]))) (fun _ k => XS.ifYes X12.here hx rfl (pc0 := 13) (pc' := 20) rfl (hb hby own_d_method_4_code_13) rfl (XT.i0_ne_t (by decide)) (by decide) (by decide) k) ?_
  refine OGoal.mp (S' := (T10.setTop (mkF m 21 #[.val (.ref a), .val (.int (3 : Int32)), .val (.int (1 : Int32))] [(.int (0 : Int32)), (.int (0 : Int32))]))) (fun _ k => XS.iconst X12.here hx rfl (hb hby own_d_method_4_code_20) k) ?_
  refine OGoal.mp (S' := (T10.setTop (mkF m 24 #[.val (.ref a), .val (.int (3 : Int32)), .val (.int (1 : Int32))] []))) (fun _ k => XS.icmpNo X12.here hx rfl (hb hby own_d_method_4_code_21) rfl (XT.ii_ne_f (by decide)) k) ?_
  refine OGoal.mp (S' := (T10.setTop (mkF m 25 #[.val (.ref a), .val (.int (3 : Int32)), .val (.int (1 : Int32))] [(.int (1 : Int32))]))) (fun _ k => XS.iconst X12.here hx rfl (hb hby own_d_method_4_code_24) k) ?_
  refine OGoal.mp (S' := (T10.setTop (mkF m 29 #[.val (.ref a), .val (.int (3 : Int32)), .val (.int (1 : Int32))] [(.int (1 : Int32))]))) (fun _ k => XS.goto X12.here hx rfl (pc0 := 25) (pc' := 29) rfl (hb hby own_d_method_4_code_25) (by decide) (by decide) k) ?_
  refine oRetZ X12 hx hlk hret (Or.inr rfl) (hb hby own_d_method_4_code_29) ?_ (by decide) (by decide)
  exact ⟨rfl, N16, e15⟩
theorem own_d_prog_22_method_1_code_0 : decode prog_22_method_1_code 0 = .ok (.aload_n 0, 1) := by decide +kernel
theorem own_d_prog_22_method_1_code_1 : decode prog_22_method_1_code 1 = .ok (.invokespecial 1, 3) := by decide +kernel
theorem own_d_prog_22_method_1_code_4 : decode prog_22_method_1_code 4 = .ok (.return_, 1) := by decide +kernel
theorem own_ef_rmFI (x0 : Addr) (m : MethodId) : entryFrame m #[(.ref x0)] 1 = mkF m 0 #[.val (.ref x0)] [] := by first | (simp [entryFrame, mkF, argsToLocals, Value.category]; done) | rfl
set_option maxRecDepth 65536 in
set_option maxHeartbeats 40000000 in
theorem rmFI (l : Launch) (Z : State) (a0 : Array Value) (hw : ∀ d ∈ tables_1, d.before a0 Z = true) (a : Addr) (h0 : Heap) (n0 : Nat) (Z0 : n0 ≤ h0.size)  :
    OCon l Z (⟨"com/example/wildsolve/wildsolve/infer/Fresh", "<init>", "()V"⟩ : MethodName) prog_22_method_1_code 1 none ({ frames := 1, cells := 0, slots := 0, locals := 12 } : Room) #[(.ref a)] h0 (fun v h L => v = none ∧ Fr n0 L ∧ h = h0) := by
  refine OConK.intro (y := (⟨"com/example/wildsolve/wildsolve/infer/Fresh", "<init>", "()V"⟩ : MethodName)) (plainFor_of_name own_pn_com_example_wildsolve_wildsolve_infer_Fresh) (own_ef_rmFI a) ?_
  intro p e s m below meth c s₁ hx hby hml hown hnm hret hlk hZ X0 e0
  show OGoal p e below s _ _ _ (s₁.setTop (mkF m 0 #[.val (.ref a)] []))
  refine OGoal.mp (S' := (s₁.setTop (mkF m 1 #[.val (.ref a)] [(.ref a)]))) (fun _ k => XS.aloadN X0.here hx rfl (hb hby own_d_prog_22_method_1_code_0) rfl rfl k) ?_
  obtain ⟨T1, X2, e3, st4⟩ := initO X0 hx hZ hown (hw _ (List.mem_of_getElem? (i := 6) rfl)) (hw _ (List.mem_of_getElem? (i := 7) rfl)) (hw _ (List.mem_of_getElem? (i := 8) rfl)) e0 (g := mkF m 1 #[.val (.ref a)] [(.ref a)]) rfl (by rw [hml]; rfl) rfl (hb hby own_d_prog_22_method_1_code_1) (by decide) (W := 0) (by show 2 * 0 + _ ≤ _; exact Nat.le_of_eq rfl) (by decide)
  refine OGoal.mp (S' := (T1.setTop (mkF m 4 #[.val (.ref a)] []))) (fun _ k => st4 _ k) ?_
  refine oRetV X2 hx hlk hret (hb hby own_d_prog_22_method_1_code_4) ?_ (by decide) (by decide)
  exact ⟨rfl, (Fr.nil n0), e3⟩
theorem own_pd__Lcom_example_wildsolve_wildsolve_infer_Fresh_Z_Lcom_example_wildsolve_wildsolve_solver_Placeholder_ : parseMethodDescriptor "(Lcom/example/wildsolve/wildsolve/infer/Fresh;Z)Lcom/example/wildsolve/wildsolve/solver/Placeholder;" = some ⟨[(.object "com/example/wildsolve/wildsolve/infer/Fresh"), .boolean], some (.object "com/example/wildsolve/wildsolve/solver/Placeholder")⟩ := by decide +kernel
theorem own_pd__Lcom_example_wildsolve_wildsolve_solver_Placeholder_IZ_Z : parseMethodDescriptor "(Lcom/example/wildsolve/wildsolve/solver/Placeholder;IZ)Z" = some ⟨[(.object "com/example/wildsolve/wildsolve/solver/Placeholder"), .int, .boolean], some .boolean⟩ := by decide +kernel
theorem own_ef_rm0 (x0 : Int32) (m : MethodId) : entryFrame m #[(.int x0)] maxLocals = mkF m 0 #[.val (.int x0), .unset, .unset, .unset, .unset, .unset, .unset, .unset, .unset] [] := by first | (simp [entryFrame, mkF, argsToLocals, Value.category, maxLocals]; done) | rfl
set_option maxRecDepth 65536 in
set_option maxHeartbeats 40000000 in
theorem rm0 (l : Launch) (Z : State) (a0 : Array Value) (hw : ∀ d ∈ tables_1, d.before a0 Z = true) (p1 : Int32) (h0 : Heap) (n0 : Nat) (Z0 : n0 ≤ h0.size) (cs : Int32) (hcs : ¬ cs = 0) (Scs : Sta Z h0 "java/lang/String" "COMPACT_STRINGS" "Z" (.int cs)) (dg : Addr) (Sdg : Sta Z h0 "java/lang/Integer" "DigitOnes" "[B" (.ref dg)) (df : Nat → Value) (Adg : OArr Z h0 dg .byte 100 df) (xd : Int32) (hdf : df (1 : Int32).toNatClampNeg = .int xd) (hxd : -128 ≤ xd.toInt ∧ xd.toInt < 128) (hkp : ∀ (b : Addr) (cl : Cell), Z.heap[b]? = some cl → h0[b]? = some cl) (hcw : Jvm.Lit.compactW.before a0 Z = true) (hch : Jvm.Lit.constHeld Z "com/example/wildsolve/wildsolve/infer/Fresh" 21) :
    OConKW l Z x code maxLocals ret room_1 32 1216 #[(.int p1)] h0 (fun v h L => v = some (.int 1) ∧ Fr n0 L) := by
  refine OConKW.intro (y := x) (plainFor_of_name own_pn_com_example_wildsolve_wildsolve_infer_FreshOrdinaryPinLaw) (own_ef_rm0 p1) ?_
  intro p e s m below meth c s₁ hx hby hml hown hnm hret hlk hZ hI hsh hS0 X0 e0
  show OGoalW p e below s _ _ _ (s₁.setTop (mkF m 0 #[.val (.int p1), .unset, .unset, .unset, .unset, .unset, .unset, .unset, .unset] []))
  refine OGoalW.mp (S' := (s₁.setTop (mkF m 1 #[.val (.int p1), .unset, .unset, .unset, .unset, .unset, .unset, .unset, .unset] [(.int p1)]))) (fun _ k => XS.iloadN X0.here hx rfl (hb hby at_0) rfl k) ?_
  refine OGoalW.mp (S' := (s₁.setTop (mkF m 2 #[.val (.int p1), .unset, .unset, .unset, .unset, .unset, .unset, .unset, .unset] [(.int (1 : Int32)), (.int p1)]))) (fun _ k => XS.iconst X0.here hx rfl (hb hby at_1) k) ?_
  refine OGoalW.mp (S' := (s₁.setTop (mkF m 3 #[.val (.int p1), .unset, .unset, .unset, .unset, .unset, .unset, .unset, .unset] [(.int (p1 &&& (1 : Int32)))]))) (fun _ k => XS.iand X0.here hx rfl (hb hby at_2) rfl k) ?_
  by_cases hc1 : (p1 &&& (1 : Int32)) = 0
  · refine OGoalW.mp (S' := (s₁.setTop (mkF m 10 #[.val (.int p1), .unset, .unset, .unset, .unset, .unset, .unset, .unset, .unset] []))) (fun _ k => XS.ifYes X0.here hx rfl (pc0 := 3) (pc' := 10) rfl (hb hby at_3) rfl (XT.i0_eq_t hc1) (by decide) (by decide) k) ?_
    refine OGoalW.mp (S' := (s₁.setTop (mkF m 11 #[.val (.int p1), .unset, .unset, .unset, .unset, .unset, .unset, .unset, .unset] [(.int (0 : Int32))]))) (fun _ k => XS.iconst X0.here hx rfl (hb hby at_10) k) ?_
    refine OGoalW.mp (S' := (s₁.setTop (mkF m 12 #[.val (.int p1), .val (.int (0 : Int32)), .unset, .unset, .unset, .unset, .unset, .unset, .unset] []))) (fun _ k => XS.istoreN X0.here hx rfl (hb hby at_11) rfl (l' := #[.val (.int p1), .val (.int (0 : Int32)), .unset, .unset, .unset, .unset, .unset, .unset, .unset]) rfl k) ?_
    refine OGoalW.mp (S' := (s₁.setTop (mkF m 13 #[.val (.int p1), .val (.int (0 : Int32)), .unset, .unset, .unset, .unset, .unset, .unset, .unset] [(.int p1)]))) (fun _ k => XS.iloadN X0.here hx rfl (hb hby at_12) rfl k) ?_
    refine OGoalW.mp (S' := (s₁.setTop (mkF m 14 #[.val (.int p1), .val (.int (0 : Int32)), .unset, .unset, .unset, .unset, .unset, .unset, .unset] [(.int (2 : Int32)), (.int p1)]))) (fun _ k => XS.iconst X0.here hx rfl (hb hby at_13) k) ?_
    refine OGoalW.mp (S' := (s₁.setTop (mkF m 15 #[.val (.int p1), .val (.int (0 : Int32)), .unset, .unset, .unset, .unset, .unset, .unset, .unset] [(.int (p1 &&& (2 : Int32)))]))) (fun _ k => XS.iand X0.here hx rfl (hb hby at_14) rfl k) ?_
    by_cases hc2 : (p1 &&& (2 : Int32)) = 0
    · refine OGoalW.mp (S' := (s₁.setTop (mkF m 22 #[.val (.int p1), .val (.int (0 : Int32)), .unset, .unset, .unset, .unset, .unset, .unset, .unset] []))) (fun _ k => XS.ifYes X0.here hx rfl (pc0 := 15) (pc' := 22) rfl (hb hby at_15) rfl (XT.i0_eq_t hc2) (by decide) (by decide) k) ?_
      refine OGoalW.mp (S' := (s₁.setTop (mkF m 23 #[.val (.int p1), .val (.int (0 : Int32)), .unset, .unset, .unset, .unset, .unset, .unset, .unset] [(.int (0 : Int32))]))) (fun _ k => XS.iconst X0.here hx rfl (hb hby at_22) k) ?_
      refine OGoalW.mp (S' := (s₁.setTop (mkF m 24 #[.val (.int p1), .val (.int (0 : Int32)), .val (.int (0 : Int32)), .unset, .unset, .unset, .unset, .unset, .unset] []))) (fun _ k => XS.istoreN X0.here hx rfl (hb hby at_23) rfl (l' := #[.val (.int p1), .val (.int (0 : Int32)), .val (.int (0 : Int32)), .unset, .unset, .unset, .unset, .unset, .unset]) rfl k) ?_
      refine OGoalW.mp (S' := (s₁.setTop (mkF m 25 #[.val (.int p1), .val (.int (0 : Int32)), .val (.int (0 : Int32)), .unset, .unset, .unset, .unset, .unset, .unset] [(.int p1)]))) (fun _ k => XS.iloadN X0.here hx rfl (hb hby at_24) rfl k) ?_
      refine OGoalW.mp (S' := (s₁.setTop (mkF m 26 #[.val (.int p1), .val (.int (0 : Int32)), .val (.int (0 : Int32)), .unset, .unset, .unset, .unset, .unset, .unset] [(.int (4 : Int32)), (.int p1)]))) (fun _ k => XS.iconst X0.here hx rfl (hb hby at_25) k) ?_
      refine OGoalW.mp (S' := (s₁.setTop (mkF m 27 #[.val (.int p1), .val (.int (0 : Int32)), .val (.int (0 : Int32)), .unset, .unset, .unset, .unset, .unset, .unset] [(.int (p1 &&& (4 : Int32)))]))) (fun _ k => XS.iand X0.here hx rfl (hb hby at_26) rfl k) ?_
      by_cases hc3 : (p1 &&& (4 : Int32)) = 0
      · refine OGoalW.mp (S' := (s₁.setTop (mkF m 34 #[.val (.int p1), .val (.int (0 : Int32)), .val (.int (0 : Int32)), .unset, .unset, .unset, .unset, .unset, .unset] []))) (fun _ k => XS.ifYes X0.here hx rfl (pc0 := 27) (pc' := 34) rfl (hb hby at_27) rfl (XT.i0_eq_t hc3) (by decide) (by decide) k) ?_
        refine OGoalW.mp (S' := (s₁.setTop (mkF m 35 #[.val (.int p1), .val (.int (0 : Int32)), .val (.int (0 : Int32)), .unset, .unset, .unset, .unset, .unset, .unset] [(.int (0 : Int32))]))) (fun _ k => XS.iconst X0.here hx rfl (hb hby at_34) k) ?_
        refine OGoalW.mp (S' := (s₁.setTop (mkF m 36 #[.val (.int p1), .val (.int (0 : Int32)), .val (.int (0 : Int32)), .val (.int (0 : Int32)), .unset, .unset, .unset, .unset, .unset] []))) (fun _ k => XS.istoreN X0.here hx rfl (hb hby at_35) rfl (l' := #[.val (.int p1), .val (.int (0 : Int32)), .val (.int (0 : Int32)), .val (.int (0 : Int32)), .unset, .unset, .unset, .unset, .unset]) rfl k) ?_
        refine OGoalW.mp (S' := (s₁.setTop (mkF m 37 #[.val (.int p1), .val (.int (0 : Int32)), .val (.int (0 : Int32)), .val (.int (0 : Int32)), .unset, .unset, .unset, .unset, .unset] [(.int p1)]))) (fun _ k => XS.iloadN X0.here hx rfl (hb hby at_36) rfl k) ?_
        refine OGoalW.mp (S' := (s₁.setTop (mkF m 39 #[.val (.int p1), .val (.int (0 : Int32)), .val (.int (0 : Int32)), .val (.int (0 : Int32)), .unset, .unset, .unset, .unset, .unset] [(.int (8 : Int32)), (.int p1)]))) (fun _ k => XS.bipush X0.here hx rfl (hb hby at_37) k) ?_
        refine OGoalW.mp (S' := (s₁.setTop (mkF m 40 #[.val (.int p1), .val (.int (0 : Int32)), .val (.int (0 : Int32)), .val (.int (0 : Int32)), .unset, .unset, .unset, .unset, .unset] [(.int (p1 &&& (8 : Int32)))]))) (fun _ k => XS.iand X0.here hx rfl (hb hby at_39) rfl k) ?_
        by_cases hc4 : (p1 &&& (8 : Int32)) = 0
        · refine OGoalW.mp (S' := (s₁.setTop (mkF m 47 #[.val (.int p1), .val (.int (0 : Int32)), .val (.int (0 : Int32)), .val (.int (0 : Int32)), .unset, .unset, .unset, .unset, .unset] []))) (fun _ k => XS.ifYes X0.here hx rfl (pc0 := 40) (pc' := 47) rfl (hb hby at_40) rfl (XT.i0_eq_t hc4) (by decide) (by decide) k) ?_
          refine OGoalW.mp (S' := (s₁.setTop (mkF m 48 #[.val (.int p1), .val (.int (0 : Int32)), .val (.int (0 : Int32)), .val (.int (0 : Int32)), .unset, .unset, .unset, .unset, .unset] [(.int (0 : Int32))]))) (fun _ k => XS.iconst X0.here hx rfl (hb hby at_47) k) ?_
          refine OGoalW.mp (S' := (s₁.setTop (mkF m 50 #[.val (.int p1), .val (.int (0 : Int32)), .val (.int (0 : Int32)), .val (.int (0 : Int32)), .val (.int (0 : Int32)), .unset, .unset, .unset, .unset] []))) (fun _ k => XS.istore X0.here hx rfl (hb hby at_48) rfl (l' := #[.val (.int p1), .val (.int (0 : Int32)), .val (.int (0 : Int32)), .val (.int (0 : Int32)), .val (.int (0 : Int32)), .unset, .unset, .unset, .unset]) rfl k) ?_
          obtain ⟨T5, h9, X6, e7, E10, A11, D12, -, st8⟩ := newO X0 hx hZ hown (hw _ (List.mem_of_getElem? (i := 0) rfl)) (hw _ (List.mem_of_getElem? (i := 1) rfl)) (hw _ (List.mem_of_getElem? (i := 2) rfl)) e0 (g := mkF m 50 #[.val (.int p1), .val (.int (0 : Int32)), .val (.int (0 : Int32)), .val (.int (0 : Int32)), .val (.int (0 : Int32)), .unset, .unset, .unset, .unset] []) rfl (hb hby at_50) (by decide) (by decide)
          obtain ⟨a13, g14⟩ : ∃ z, z = h0.size := ⟨_, rfl⟩
          rw [← g14] at A11 D12 st8
          have fr15 : h0.size ≤ a13 := by rw [g14]; exact (Keep.refl h0 []).1
          have K16 : Keep h0 h9 [] := (Keep.refl h0 []).ext E10
          have F17 : Fld Z h9 a13 "com/example/wildsolve/wildsolve/infer/Fresh" "placeholders" "I" (.int (0 : Int32)) := D12 (Or.inl (hw _ (List.mem_of_getElem? (i := 22) rfl))) (ty := .int) (by decide)
          have F18 : Fld Z h9 a13 "com/example/wildsolve/wildsolve/infer/Fresh" "variables" "I" (.int (0 : Int32)) := D12 (Or.inl (hw _ (List.mem_of_getElem? (i := 136) rfl))) (ty := .int) (by decide)
          have Z19 : n0 ≤ h9.size := Nat.le_trans Z0 E10.1
          have ab20 : n0 ≤ a13 := Nat.le_trans Z0 (Nat.le_of_eq g14.symm)
          refine OGoalW.mp (S' := (T5.setTop (mkF m 53 #[.val (.int p1), .val (.int (0 : Int32)), .val (.int (0 : Int32)), .val (.int (0 : Int32)), .val (.int (0 : Int32)), .unset, .unset, .unset, .unset] [(.ref a13)]))) (fun _ k => st8 _ k) ?_
          refine OGoalW.mp (S' := (T5.setTop (mkF m 54 #[.val (.int p1), .val (.int (0 : Int32)), .val (.int (0 : Int32)), .val (.int (0 : Int32)), .val (.int (0 : Int32)), .unset, .unset, .unset, .unset] [(.ref a13), (.ref a13)]))) (fun _ k => XS.dup X6.here hx rfl (hb hby at_53) rfl rfl k) ?_
          refine oCallNW (y := (⟨"com/example/wildsolve/wildsolve/infer/Fresh", "<init>", "()V"⟩ : MethodName)) X6 hx hZ rfl hown (hw _ (List.mem_of_getElem? (i := 3) rfl)) (hw _ (List.mem_of_getElem? (i := 4) rfl)) (hw _ (List.mem_of_getElem? (i := 2) rfl)) (hw _ (List.mem_of_getElem? (i := 5) rfl)) (by decide) (rmFI l Z a0 hw a13 h9 n0 Z19) e7 [] [(.ref a13)] rfl rfl (by rw [hml]; rfl) (lenOf own_pd___V rfl) 1 (Nat.le_of_eq rfl) (by decide) (by decide) (by decide) (by decide) (hb hby at_54) ?_
          intro v21 T22 L23 X24 q25
          obtain ⟨rfl, N26, e27⟩ := q25
          have N28 := Fr.app (Fr.nil n0) N26
          show OGoalW p e below s _ _ _ (T22.setTop (mkF m 57 #[.val (.int p1), .val (.int (0 : Int32)), .val (.int (0 : Int32)), .val (.int (0 : Int32)), .val (.int (0 : Int32)), .unset, .unset, .unset, .unset] [(.ref a13)]))
          refine OGoalW.mp (S' := (T22.setTop (mkF m 59 #[.val (.int p1), .val (.int (0 : Int32)), .val (.int (0 : Int32)), .val (.int (0 : Int32)), .val (.int (0 : Int32)), .val (.ref a13), .unset, .unset, .unset] []))) (fun _ k => XS.astore X24.here hx rfl (hb hby at_57) rfl rfl (l' := #[.val (.int p1), .val (.int (0 : Int32)), .val (.int (0 : Int32)), .val (.int (0 : Int32)), .val (.int (0 : Int32)), .val (.ref a13), .unset, .unset, .unset]) rfl k) ?_
          refine OGoalW.mp (S' := (T22.setTop (mkF m 61 #[.val (.int p1), .val (.int (0 : Int32)), .val (.int (0 : Int32)), .val (.int (0 : Int32)), .val (.int (0 : Int32)), .val (.ref a13), .unset, .unset, .unset] [(.ref a13)]))) (fun _ k => XS.aload X24.here hx rfl (hb hby at_59) rfl rfl k) ?_
          refine OGoalW.mp (S' := (T22.setTop (mkF m 62 #[.val (.int p1), .val (.int (0 : Int32)), .val (.int (0 : Int32)), .val (.int (0 : Int32)), .val (.int (0 : Int32)), .val (.ref a13), .unset, .unset, .unset] [(.int (0 : Int32)), (.ref a13)]))) (fun _ k => XS.iloadN X24.here hx rfl (hb hby at_61) rfl k) ?_
          refine oCallSW (y := (⟨"com/example/wildsolve/wildsolve/infer/FreshOrdinaryPinLaw", "step", "(Lcom/example/wildsolve/wildsolve/infer/Fresh;Z)Lcom/example/wildsolve/wildsolve/solver/Placeholder;"⟩ : MethodName)) X24 hx hZ hown (hw _ (List.mem_of_getElem? (i := 9) rfl)) (hw _ (List.mem_of_getElem? (i := 10) rfl)) (hw _ (List.mem_of_getElem? (i := 11) rfl)) (hw _ (List.mem_of_getElem? (i := 12) rfl)) (by decide) (rmSt0 l Z a0 hw a13 h9 n0 Z19 (0 : Int32) (1 : Int32) (0 : Int32) (by decide) A11 F17 F18 ab20) e27 [(.ref a13), (.int (0 : Int32))] [] rfl rfl (by rw [hml]; rfl) (lenOf own_pd__Lcom_example_wildsolve_wildsolve_infer_Fresh_Z_Lcom_example_wildsolve_wildsolve_solver_Placeholder_ rfl) 0 (Nat.le_of_eq rfl) (by decide) (by decide) (by decide) (by decide) (hb hby at_62) ?_
          intro v30 T31 L32 X33 q34
          obtain ⟨r29, rfl, N35, K36, hr37, E38, F39, F40, E41, F42, F43⟩ := q34
          have N44 := Fr.app N28 N35
          have lt45 : a13 < r29 := Nat.lt_of_lt_of_le A11.lt hr37
          have K46 : Keep h0 T31.heap [] := K16.trans K36 (allS (Or.inr fr15) all0)
          have Z47 : n0 ≤ T31.heap.size := Nat.le_trans Z19 K36.1
          show OGoalW p e below s _ _ _ (T31.setTop (mkF m 65 #[.val (.int p1), .val (.int (0 : Int32)), .val (.int (0 : Int32)), .val (.int (0 : Int32)), .val (.int (0 : Int32)), .val (.ref a13), .unset, .unset, .unset] [(.ref r29)]))
          refine OGoalW.mp (S' := (T31.setTop (mkF m 67 #[.val (.int p1), .val (.int (0 : Int32)), .val (.int (0 : Int32)), .val (.int (0 : Int32)), .val (.int (0 : Int32)), .val (.ref a13), .val (.ref r29), .unset, .unset] []))) (fun _ k => XS.astore X33.here hx rfl (hb hby at_65) rfl rfl (l' := #[.val (.int p1), .val (.int (0 : Int32)), .val (.int (0 : Int32)), .val (.int (0 : Int32)), .val (.int (0 : Int32)), .val (.ref a13), .val (.ref r29), .unset, .unset]) rfl k) ?_
          refine OGoalW.mp (S' := (T31.setTop (mkF m 69 #[.val (.int p1), .val (.int (0 : Int32)), .val (.int (0 : Int32)), .val (.int (0 : Int32)), .val (.int (0 : Int32)), .val (.ref a13), .val (.ref r29), .unset, .unset] [(.int (0 : Int32))]))) (fun _ k => XS.iload X33.here hx rfl (hb hby at_67) rfl k) ?_
          refine OGoalW.mp (S' := (T31.setTop (mkF m 78 #[.val (.int p1), .val (.int (0 : Int32)), .val (.int (0 : Int32)), .val (.int (0 : Int32)), .val (.int (0 : Int32)), .val (.ref a13), .val (.ref r29), .unset, .unset] []))) (fun _ k => XS.ifYes X33.here hx rfl (pc0 := 69) (pc' := 78) rfl (hb hby at_69) rfl (XT.i0_eq_t (by decide)) (by decide) (by decide) k) ?_
          refine OGoalW.mp (S' := (T31.setTop (mkF m 80 #[.val (.int p1), .val (.int (0 : Int32)), .val (.int (0 : Int32)), .val (.int (0 : Int32)), .val (.int (0 : Int32)), .val (.ref a13), .val (.ref r29), .unset, .unset] [(.ref a13)]))) (fun _ k => XS.aload X33.here hx rfl (hb hby at_78) rfl rfl k) ?_
          refine OGoalW.mp (S' := (T31.setTop (mkF m 81 #[.val (.int p1), .val (.int (0 : Int32)), .val (.int (0 : Int32)), .val (.int (0 : Int32)), .val (.int (0 : Int32)), .val (.ref a13), .val (.ref r29), .unset, .unset] [(.int (0 : Int32)), (.ref a13)]))) (fun _ k => XS.iloadN X33.here hx rfl (hb hby at_80) rfl k) ?_
          refine oCallSW (y := (⟨"com/example/wildsolve/wildsolve/infer/FreshOrdinaryPinLaw", "step", "(Lcom/example/wildsolve/wildsolve/infer/Fresh;Z)Lcom/example/wildsolve/wildsolve/solver/Placeholder;"⟩ : MethodName)) X33 hx hZ hown (hw _ (List.mem_of_getElem? (i := 9) rfl)) (hw _ (List.mem_of_getElem? (i := 10) rfl)) (hw _ (List.mem_of_getElem? (i := 11) rfl)) (hw _ (List.mem_of_getElem? (i := 12) rfl)) (by decide) (rmSt0 l Z a0 hw a13 T31.heap n0 Z47 (1 : Int32) (2 : Int32) (0 : Int32) (by decide) E41 F42 F43 ab20) rfl [(.ref a13), (.int (0 : Int32))] [] rfl rfl (by rw [hml]; rfl) (lenOf own_pd__Lcom_example_wildsolve_wildsolve_infer_Fresh_Z_Lcom_example_wildsolve_wildsolve_solver_Placeholder_ rfl) 0 (Nat.le_of_eq rfl) (by decide) (by decide) (by decide) (by decide) (hb hby at_81) ?_
          intro v49 T50 L51 X52 q53
          obtain ⟨r48, rfl, N54, K55, hr56, E57, F58, F59, E60, F61, F62⟩ := q53
          have N63 := Fr.app N44 N54
          have lt64 : a13 < r48 := Nat.lt_of_lt_of_le E41.lt hr56
          have F65 := E38.keep K55
          have F66 := F39.keep K55 (ninS (Nat.ne_of_gt lt45) nin0)
          have F67 := F40.keep K55 (ninS (Nat.ne_of_gt lt45) nin0)
          have K68 : Keep h0 T50.heap [] := K46.trans K55 (allS (Or.inr fr15) all0)
          have Z69 : n0 ≤ T50.heap.size := Nat.le_trans Z47 K55.1
          show OGoalW p e below s _ _ _ (T50.setTop (mkF m 84 #[.val (.int p1), .val (.int (0 : Int32)), .val (.int (0 : Int32)), .val (.int (0 : Int32)), .val (.int (0 : Int32)), .val (.ref a13), .val (.ref r29), .unset, .unset] [(.ref r48)]))
          refine OGoalW.mp (S' := (T50.setTop (mkF m 86 #[.val (.int p1), .val (.int (0 : Int32)), .val (.int (0 : Int32)), .val (.int (0 : Int32)), .val (.int (0 : Int32)), .val (.ref a13), .val (.ref r29), .val (.ref r48), .unset] []))) (fun _ k => XS.astore X52.here hx rfl (hb hby at_84) rfl rfl (l' := #[.val (.int p1), .val (.int (0 : Int32)), .val (.int (0 : Int32)), .val (.int (0 : Int32)), .val (.int (0 : Int32)), .val (.ref a13), .val (.ref r29), .val (.ref r48), .unset]) rfl k) ?_
          refine OGoalW.mp (S' := (T50.setTop (mkF m 88 #[.val (.int p1), .val (.int (0 : Int32)), .val (.int (0 : Int32)), .val (.int (0 : Int32)), .val (.int (0 : Int32)), .val (.ref a13), .val (.ref r29), .val (.ref r48), .unset] [(.ref a13)]))) (fun _ k => XS.aload X52.here hx rfl (hb hby at_86) rfl rfl k) ?_
          refine OGoalW.mp (S' := (T50.setTop (mkF m 89 #[.val (.int p1), .val (.int (0 : Int32)), .val (.int (0 : Int32)), .val (.int (0 : Int32)), .val (.int (0 : Int32)), .val (.ref a13), .val (.ref r29), .val (.ref r48), .unset] [(.int (0 : Int32)), (.ref a13)]))) (fun _ k => XS.iloadN X52.here hx rfl (hb hby at_88) rfl k) ?_
          refine oCallSW (y := (⟨"com/example/wildsolve/wildsolve/infer/FreshOrdinaryPinLaw", "step", "(Lcom/example/wildsolve/wildsolve/infer/Fresh;Z)Lcom/example/wildsolve/wildsolve/solver/Placeholder;"⟩ : MethodName)) X52 hx hZ hown (hw _ (List.mem_of_getElem? (i := 9) rfl)) (hw _ (List.mem_of_getElem? (i := 10) rfl)) (hw _ (List.mem_of_getElem? (i := 11) rfl)) (hw _ (List.mem_of_getElem? (i := 12) rfl)) (by decide) (rmSt0 l Z a0 hw a13 T50.heap n0 Z69 (2 : Int32) (3 : Int32) (0 : Int32) (by decide) E60 F61 F62 ab20) rfl [(.ref a13), (.int (0 : Int32))] [] rfl rfl (by rw [hml]; rfl) (lenOf own_pd__Lcom_example_wildsolve_wildsolve_infer_Fresh_Z_Lcom_example_wildsolve_wildsolve_solver_Placeholder_ rfl) 0 (Nat.le_of_eq rfl) (by decide) (by decide) (by decide) (by decide) (hb hby at_89) ?_
          intro v71 T72 L73 X74 q75
          obtain ⟨r70, rfl, N76, K77, hr78, E79, F80, F81, E82, F83, F84⟩ := q75
          have N85 := Fr.app N63 N76
          have lt86 : a13 < r70 := Nat.lt_of_lt_of_le E60.lt hr78
          have F87 := F65.keep K77
          have F88 := F66.keep K77 (ninS (Nat.ne_of_gt lt45) nin0)
          have F89 := F67.keep K77 (ninS (Nat.ne_of_gt lt45) nin0)
          have F90 := E57.keep K77
          have F91 := F58.keep K77 (ninS (Nat.ne_of_gt lt64) nin0)
          have F92 := F59.keep K77 (ninS (Nat.ne_of_gt lt64) nin0)
          have K93 : Keep h0 T72.heap [] := K68.trans K77 (allS (Or.inr fr15) all0)
          have Z94 : n0 ≤ T72.heap.size := Nat.le_trans Z69 K77.1
          show OGoalW p e below s _ _ _ (T72.setTop (mkF m 92 #[.val (.int p1), .val (.int (0 : Int32)), .val (.int (0 : Int32)), .val (.int (0 : Int32)), .val (.int (0 : Int32)), .val (.ref a13), .val (.ref r29), .val (.ref r48), .unset] [(.ref r70)]))
          refine OGoalW.mp (S' := (T72.setTop (mkF m 94 #[.val (.int p1), .val (.int (0 : Int32)), .val (.int (0 : Int32)), .val (.int (0 : Int32)), .val (.int (0 : Int32)), .val (.ref a13), .val (.ref r29), .val (.ref r48), .val (.ref r70)] []))) (fun _ k => XS.astore X74.here hx rfl (hb hby at_92) rfl rfl (l' := #[.val (.int p1), .val (.int (0 : Int32)), .val (.int (0 : Int32)), .val (.int (0 : Int32)), .val (.int (0 : Int32)), .val (.ref a13), .val (.ref r29), .val (.ref r48), .val (.ref r70)]) rfl k) ?_
          refine OGoalW.mp (S' := (T72.setTop (mkF m 96 #[.val (.int p1), .val (.int (0 : Int32)), .val (.int (0 : Int32)), .val (.int (0 : Int32)), .val (.int (0 : Int32)), .val (.ref a13), .val (.ref r29), .val (.ref r48), .val (.ref r70)] [(.ref r29)]))) (fun _ k => XS.aload X74.here hx rfl (hb hby at_94) rfl rfl k) ?_
          refine OGoalW.mp (S' := (T72.setTop (mkF m 97 #[.val (.int p1), .val (.int (0 : Int32)), .val (.int (0 : Int32)), .val (.int (0 : Int32)), .val (.int (0 : Int32)), .val (.ref a13), .val (.ref r29), .val (.ref r48), .val (.ref r70)] [(.int (1 : Int32)), (.ref r29)]))) (fun _ k => XS.iconst X74.here hx rfl (hb hby at_96) k) ?_
          refine OGoalW.mp (S' := (T72.setTop (mkF m 98 #[.val (.int p1), .val (.int (0 : Int32)), .val (.int (0 : Int32)), .val (.int (0 : Int32)), .val (.int (0 : Int32)), .val (.ref a13), .val (.ref r29), .val (.ref r48), .val (.ref r70)] [(.int (0 : Int32)), (.int (1 : Int32)), (.ref r29)]))) (fun _ k => XS.iloadN X74.here hx rfl (hb hby at_97) rfl k) ?_
          refine oCallSW (y := (⟨"com/example/wildsolve/wildsolve/infer/FreshOrdinaryPinLaw", "check", "(Lcom/example/wildsolve/wildsolve/solver/Placeholder;IZ)Z"⟩ : MethodName)) X74 hx hZ hown (hw _ (List.mem_of_getElem? (i := 36) rfl)) (hw _ (List.mem_of_getElem? (i := 37) rfl)) (hw _ (List.mem_of_getElem? (i := 11) rfl)) (hw _ (List.mem_of_getElem? (i := 38) rfl)) (by decide) (rmCk10 l Z a0 hw r29 T72.heap n0 Z94 F87 F88 F89) rfl [(.ref r29), (.int (1 : Int32)), (.int (0 : Int32))] [] rfl rfl (by rw [hml]; rfl) (lenOf own_pd__Lcom_example_wildsolve_wildsolve_solver_Placeholder_IZ_Z rfl) 0 (Nat.le_of_eq rfl) (by decide) (by decide) (by decide) (by decide) (hb hby at_98) ?_
          intro v95 T96 L97 X98 q99
          obtain ⟨rfl, N100, e101⟩ := q99
          have N102 := Fr.app N85 N100
          show OGoalW p e below s _ _ _ (T96.setTop (mkF m 101 #[.val (.int p1), .val (.int (0 : Int32)), .val (.int (0 : Int32)), .val (.int (0 : Int32)), .val (.int (0 : Int32)), .val (.ref a13), .val (.ref r29), .val (.ref r48), .val (.ref r70)] [(.int (1 : Int32))]))
          refine OGoalW.mp (S' := (T96.setTop (mkF m 104 #[.val (.int p1), .val (.int (0 : Int32)), .val (.int (0 : Int32)), .val (.int (0 : Int32)), .val (.int (0 : Int32)), .val (.ref a13), .val (.ref r29), .val (.ref r48), .val (.ref r70)] []))) (fun _ k => XS.ifNo X98.here hx rfl (hb hby at_101) rfl (XT.i0_eq_f (by decide)) k) ?_
          refine OGoalW.mp (S' := (T96.setTop (mkF m 106 #[.val (.int p1), .val (.int (0 : Int32)), .val (.int (0 : Int32)), .val (.int (0 : Int32)), .val (.int (0 : Int32)), .val (.ref a13), .val (.ref r29), .val (.ref r48), .val (.ref r70)] [(.ref r48)]))) (fun _ k => XS.aload X98.here hx rfl (hb hby at_104) rfl rfl k) ?_
          refine OGoalW.mp (S' := (T96.setTop (mkF m 107 #[.val (.int p1), .val (.int (0 : Int32)), .val (.int (0 : Int32)), .val (.int (0 : Int32)), .val (.int (0 : Int32)), .val (.ref a13), .val (.ref r29), .val (.ref r48), .val (.ref r70)] [(.int (2 : Int32)), (.ref r48)]))) (fun _ k => XS.iconst X98.here hx rfl (hb hby at_106) k) ?_
          refine OGoalW.mp (S' := (T96.setTop (mkF m 108 #[.val (.int p1), .val (.int (0 : Int32)), .val (.int (0 : Int32)), .val (.int (0 : Int32)), .val (.int (0 : Int32)), .val (.ref a13), .val (.ref r29), .val (.ref r48), .val (.ref r70)] [(.int (0 : Int32)), (.int (2 : Int32)), (.ref r48)]))) (fun _ k => XS.iloadN X98.here hx rfl (hb hby at_107) rfl k) ?_
          refine oCallSW (y := (⟨"com/example/wildsolve/wildsolve/infer/FreshOrdinaryPinLaw", "check", "(Lcom/example/wildsolve/wildsolve/solver/Placeholder;IZ)Z"⟩ : MethodName)) X98 hx hZ hown (hw _ (List.mem_of_getElem? (i := 36) rfl)) (hw _ (List.mem_of_getElem? (i := 37) rfl)) (hw _ (List.mem_of_getElem? (i := 11) rfl)) (hw _ (List.mem_of_getElem? (i := 38) rfl)) (by decide) (rmCk20 l Z a0 hw r48 T72.heap n0 Z94 F90 F91 F92) e101 [(.ref r48), (.int (2 : Int32)), (.int (0 : Int32))] [] rfl rfl (by rw [hml]; rfl) (lenOf own_pd__Lcom_example_wildsolve_wildsolve_solver_Placeholder_IZ_Z rfl) 0 (Nat.le_of_eq rfl) (by decide) (by decide) (by decide) (by decide) (hb hby at_108) ?_
          intro v103 T104 L105 X106 q107
          obtain ⟨rfl, N108, e109⟩ := q107
          have N110 := Fr.app N102 N108
          show OGoalW p e below s _ _ _ (T104.setTop (mkF m 111 #[.val (.int p1), .val (.int (0 : Int32)), .val (.int (0 : Int32)), .val (.int (0 : Int32)), .val (.int (0 : Int32)), .val (.ref a13), .val (.ref r29), .val (.ref r48), .val (.ref r70)] [(.int (1 : Int32))]))
          refine OGoalW.mp (S' := (T104.setTop (mkF m 114 #[.val (.int p1), .val (.int (0 : Int32)), .val (.int (0 : Int32)), .val (.int (0 : Int32)), .val (.int (0 : Int32)), .val (.ref a13), .val (.ref r29), .val (.ref r48), .val (.ref r70)] []))) (fun _ k => XS.ifNo X106.here hx rfl (hb hby at_111) rfl (XT.i0_eq_f (by decide)) k) ?_
          refine OGoalW.mp (S' := (T104.setTop (mkF m 116 #[.val (.int p1), .val (.int (0 : Int32)), .val (.int (0 : Int32)), .val (.int (0 : Int32)), .val (.int (0 : Int32)), .val (.ref a13), .val (.ref r29), .val (.ref r48), .val (.ref r70)] [(.ref r70)]))) (fun _ k => XS.aload X106.here hx rfl (hb hby at_114) rfl rfl k) ?_
          refine OGoalW.mp (S' := (T104.setTop (mkF m 117 #[.val (.int p1), .val (.int (0 : Int32)), .val (.int (0 : Int32)), .val (.int (0 : Int32)), .val (.int (0 : Int32)), .val (.ref a13), .val (.ref r29), .val (.ref r48), .val (.ref r70)] [(.int (3 : Int32)), (.ref r70)]))) (fun _ k => XS.iconst X106.here hx rfl (hb hby at_116) k) ?_
          refine OGoalW.mp (S' := (T104.setTop (mkF m 118 #[.val (.int p1), .val (.int (0 : Int32)), .val (.int (0 : Int32)), .val (.int (0 : Int32)), .val (.int (0 : Int32)), .val (.ref a13), .val (.ref r29), .val (.ref r48), .val (.ref r70)] [(.int (0 : Int32)), (.int (3 : Int32)), (.ref r70)]))) (fun _ k => XS.iloadN X106.here hx rfl (hb hby at_117) rfl k) ?_
          refine oCallSW (y := (⟨"com/example/wildsolve/wildsolve/infer/FreshOrdinaryPinLaw", "check", "(Lcom/example/wildsolve/wildsolve/solver/Placeholder;IZ)Z"⟩ : MethodName)) X106 hx hZ hown (hw _ (List.mem_of_getElem? (i := 36) rfl)) (hw _ (List.mem_of_getElem? (i := 37) rfl)) (hw _ (List.mem_of_getElem? (i := 11) rfl)) (hw _ (List.mem_of_getElem? (i := 38) rfl)) (by decide) (rmCk30 l Z a0 hw r70 T72.heap n0 Z94 E79 F80 F81) e109 [(.ref r70), (.int (3 : Int32)), (.int (0 : Int32))] [] rfl rfl (by rw [hml]; rfl) (lenOf own_pd__Lcom_example_wildsolve_wildsolve_solver_Placeholder_IZ_Z rfl) 0 (Nat.le_of_eq rfl) (by decide) (by decide) (by decide) (by decide) (hb hby at_118) ?_
          intro v111 T112 L113 X114 q115
          obtain ⟨rfl, N116, e117⟩ := q115
          have N118 := Fr.app N110 N116
          show OGoalW p e below s _ _ _ (T112.setTop (mkF m 121 #[.val (.int p1), .val (.int (0 : Int32)), .val (.int (0 : Int32)), .val (.int (0 : Int32)), .val (.int (0 : Int32)), .val (.ref a13), .val (.ref r29), .val (.ref r48), .val (.ref r70)] [(.int (1 : Int32))]))
          refine OGoalW.mp (S' := (T112.setTop (mkF m 124 #[.val (.int p1), .val (.int (0 : Int32)), .val (.int (0 : Int32)), .val (.int (0 : Int32)), .val (.int (0 : Int32)), .val (.ref a13), .val (.ref r29), .val (.ref r48), .val (.ref r70)] []))) (fun _ k => XS.ifNo X114.here hx rfl (hb hby at_121) rfl (XT.i0_eq_f (by decide)) k) ?_
          refine OGoalW.mp (S' := (T112.setTop (mkF m 125 #[.val (.int p1), .val (.int (0 : Int32)), .val (.int (0 : Int32)), .val (.int (0 : Int32)), .val (.int (0 : Int32)), .val (.ref a13), .val (.ref r29), .val (.ref r48), .val (.ref r70)] [(.int (1 : Int32))]))) (fun _ k => XS.iconst X114.here hx rfl (hb hby at_124) k) ?_
          refine OGoalW.mp (S' := (T112.setTop (mkF m 129 #[.val (.int p1), .val (.int (0 : Int32)), .val (.int (0 : Int32)), .val (.int (0 : Int32)), .val (.int (0 : Int32)), .val (.ref a13), .val (.ref r29), .val (.ref r48), .val (.ref r70)] [(.int (1 : Int32))]))) (fun _ k => XS.goto X114.here hx rfl (pc0 := 125) (pc' := 129) rfl (hb hby at_125) (by decide) (by decide) k) ?_
          refine oRetZW X114 hS0 (Nat.le_trans (Nat.le_trans (Nat.le_trans (Nat.le_trans (Nat.le_trans (Nat.le_of_eq (congrArg Array.size hsh)) E10.1) K36.1) K55.1) K77.1) (Nat.le_of_eq (congrArg Array.size e117).symm)) hx hlk hret (Or.inr rfl) (hb hby at_129) ?_ (by decide) (by decide)
          exact ⟨rfl, N118⟩
        · refine OGoalW.mp (S' := (s₁.setTop (mkF m 43 #[.val (.int p1), .val (.int (0 : Int32)), .val (.int (0 : Int32)), .val (.int (0 : Int32)), .unset, .unset, .unset, .unset, .unset] []))) (fun _ k => XS.ifNo X0.here hx rfl (hb hby at_40) rfl (XT.i0_eq_f hc4) k) ?_
          refine OGoalW.mp (S' := (s₁.setTop (mkF m 44 #[.val (.int p1), .val (.int (0 : Int32)), .val (.int (0 : Int32)), .val (.int (0 : Int32)), .unset, .unset, .unset, .unset, .unset] [(.int (1 : Int32))]))) (fun _ k => XS.iconst X0.here hx rfl (hb hby at_43) k) ?_
          refine OGoalW.mp (S' := (s₁.setTop (mkF m 48 #[.val (.int p1), .val (.int (0 : Int32)), .val (.int (0 : Int32)), .val (.int (0 : Int32)), .unset, .unset, .unset, .unset, .unset] [(.int (1 : Int32))]))) (fun _ k => XS.goto X0.here hx rfl (pc0 := 44) (pc' := 48) rfl (hb hby at_44) (by decide) (by decide) k) ?_
          refine OGoalW.mp (S' := (s₁.setTop (mkF m 50 #[.val (.int p1), .val (.int (0 : Int32)), .val (.int (0 : Int32)), .val (.int (0 : Int32)), .val (.int (1 : Int32)), .unset, .unset, .unset, .unset] []))) (fun _ k => XS.istore X0.here hx rfl (hb hby at_48) rfl (l' := #[.val (.int p1), .val (.int (0 : Int32)), .val (.int (0 : Int32)), .val (.int (0 : Int32)), .val (.int (1 : Int32)), .unset, .unset, .unset, .unset]) rfl k) ?_
          obtain ⟨T119, h123, X120, e121, E124, A125, D126, -, st122⟩ := newO X0 hx hZ hown (hw _ (List.mem_of_getElem? (i := 0) rfl)) (hw _ (List.mem_of_getElem? (i := 1) rfl)) (hw _ (List.mem_of_getElem? (i := 2) rfl)) e0 (g := mkF m 50 #[.val (.int p1), .val (.int (0 : Int32)), .val (.int (0 : Int32)), .val (.int (0 : Int32)), .val (.int (1 : Int32)), .unset, .unset, .unset, .unset] []) rfl (hb hby at_50) (by decide) (by decide)
          obtain ⟨a127, g128⟩ : ∃ z, z = h0.size := ⟨_, rfl⟩
          rw [← g128] at A125 D126 st122
          have fr129 : h0.size ≤ a127 := by rw [g128]; exact (Keep.refl h0 []).1
          have K130 : Keep h0 h123 [] := (Keep.refl h0 []).ext E124
          have F131 : Fld Z h123 a127 "com/example/wildsolve/wildsolve/infer/Fresh" "placeholders" "I" (.int (0 : Int32)) := D126 (Or.inl (hw _ (List.mem_of_getElem? (i := 22) rfl))) (ty := .int) (by decide)
          have F132 : Fld Z h123 a127 "com/example/wildsolve/wildsolve/infer/Fresh" "variables" "I" (.int (0 : Int32)) := D126 (Or.inl (hw _ (List.mem_of_getElem? (i := 136) rfl))) (ty := .int) (by decide)
          have Z133 : n0 ≤ h123.size := Nat.le_trans Z0 E124.1
          have ab134 : n0 ≤ a127 := Nat.le_trans Z0 (Nat.le_of_eq g128.symm)
          refine OGoalW.mp (S' := (T119.setTop (mkF m 53 #[.val (.int p1), .val (.int (0 : Int32)), .val (.int (0 : Int32)), .val (.int (0 : Int32)), .val (.int (1 : Int32)), .unset, .unset, .unset, .unset] [(.ref a127)]))) (fun _ k => st122 _ k) ?_
          refine OGoalW.mp (S' := (T119.setTop (mkF m 54 #[.val (.int p1), .val (.int (0 : Int32)), .val (.int (0 : Int32)), .val (.int (0 : Int32)), .val (.int (1 : Int32)), .unset, .unset, .unset, .unset] [(.ref a127), (.ref a127)]))) (fun _ k => XS.dup X120.here hx rfl (hb hby at_53) rfl rfl k) ?_
          refine oCallNW (y := (⟨"com/example/wildsolve/wildsolve/infer/Fresh", "<init>", "()V"⟩ : MethodName)) X120 hx hZ rfl hown (hw _ (List.mem_of_getElem? (i := 3) rfl)) (hw _ (List.mem_of_getElem? (i := 4) rfl)) (hw _ (List.mem_of_getElem? (i := 2) rfl)) (hw _ (List.mem_of_getElem? (i := 5) rfl)) (by decide) (rmFI l Z a0 hw a127 h123 n0 Z133) e121 [] [(.ref a127)] rfl rfl (by rw [hml]; rfl) (lenOf own_pd___V rfl) 1 (Nat.le_of_eq rfl) (by decide) (by decide) (by decide) (by decide) (hb hby at_54) ?_
          intro v135 T136 L137 X138 q139
          obtain ⟨rfl, N140, e141⟩ := q139
          have N142 := Fr.app (Fr.nil n0) N140
          show OGoalW p e below s _ _ _ (T136.setTop (mkF m 57 #[.val (.int p1), .val (.int (0 : Int32)), .val (.int (0 : Int32)), .val (.int (0 : Int32)), .val (.int (1 : Int32)), .unset, .unset, .unset, .unset] [(.ref a127)]))
          refine OGoalW.mp (S' := (T136.setTop (mkF m 59 #[.val (.int p1), .val (.int (0 : Int32)), .val (.int (0 : Int32)), .val (.int (0 : Int32)), .val (.int (1 : Int32)), .val (.ref a127), .unset, .unset, .unset] []))) (fun _ k => XS.astore X138.here hx rfl (hb hby at_57) rfl rfl (l' := #[.val (.int p1), .val (.int (0 : Int32)), .val (.int (0 : Int32)), .val (.int (0 : Int32)), .val (.int (1 : Int32)), .val (.ref a127), .unset, .unset, .unset]) rfl k) ?_
          refine OGoalW.mp (S' := (T136.setTop (mkF m 61 #[.val (.int p1), .val (.int (0 : Int32)), .val (.int (0 : Int32)), .val (.int (0 : Int32)), .val (.int (1 : Int32)), .val (.ref a127), .unset, .unset, .unset] [(.ref a127)]))) (fun _ k => XS.aload X138.here hx rfl (hb hby at_59) rfl rfl k) ?_
          refine OGoalW.mp (S' := (T136.setTop (mkF m 62 #[.val (.int p1), .val (.int (0 : Int32)), .val (.int (0 : Int32)), .val (.int (0 : Int32)), .val (.int (1 : Int32)), .val (.ref a127), .unset, .unset, .unset] [(.int (0 : Int32)), (.ref a127)]))) (fun _ k => XS.iloadN X138.here hx rfl (hb hby at_61) rfl k) ?_
          refine oCallSW (y := (⟨"com/example/wildsolve/wildsolve/infer/FreshOrdinaryPinLaw", "step", "(Lcom/example/wildsolve/wildsolve/infer/Fresh;Z)Lcom/example/wildsolve/wildsolve/solver/Placeholder;"⟩ : MethodName)) X138 hx hZ hown (hw _ (List.mem_of_getElem? (i := 9) rfl)) (hw _ (List.mem_of_getElem? (i := 10) rfl)) (hw _ (List.mem_of_getElem? (i := 11) rfl)) (hw _ (List.mem_of_getElem? (i := 12) rfl)) (by decide) (rmSt0 l Z a0 hw a127 h123 n0 Z133 (0 : Int32) (1 : Int32) (0 : Int32) (by decide) A125 F131 F132 ab134) e141 [(.ref a127), (.int (0 : Int32))] [] rfl rfl (by rw [hml]; rfl) (lenOf own_pd__Lcom_example_wildsolve_wildsolve_infer_Fresh_Z_Lcom_example_wildsolve_wildsolve_solver_Placeholder_ rfl) 0 (Nat.le_of_eq rfl) (by decide) (by decide) (by decide) (by decide) (hb hby at_62) ?_
          intro v144 T145 L146 X147 q148
          obtain ⟨r143, rfl, N149, K150, hr151, E152, F153, F154, E155, F156, F157⟩ := q148
          have N158 := Fr.app N142 N149
          have lt159 : a127 < r143 := Nat.lt_of_lt_of_le A125.lt hr151
          have K160 : Keep h0 T145.heap [] := K130.trans K150 (allS (Or.inr fr129) all0)
          have Z161 : n0 ≤ T145.heap.size := Nat.le_trans Z133 K150.1
          show OGoalW p e below s _ _ _ (T145.setTop (mkF m 65 #[.val (.int p1), .val (.int (0 : Int32)), .val (.int (0 : Int32)), .val (.int (0 : Int32)), .val (.int (1 : Int32)), .val (.ref a127), .unset, .unset, .unset] [(.ref r143)]))
          refine OGoalW.mp (S' := (T145.setTop (mkF m 67 #[.val (.int p1), .val (.int (0 : Int32)), .val (.int (0 : Int32)), .val (.int (0 : Int32)), .val (.int (1 : Int32)), .val (.ref a127), .val (.ref r143), .unset, .unset] []))) (fun _ k => XS.astore X147.here hx rfl (hb hby at_65) rfl rfl (l' := #[.val (.int p1), .val (.int (0 : Int32)), .val (.int (0 : Int32)), .val (.int (0 : Int32)), .val (.int (1 : Int32)), .val (.ref a127), .val (.ref r143), .unset, .unset]) rfl k) ?_
          refine OGoalW.mp (S' := (T145.setTop (mkF m 69 #[.val (.int p1), .val (.int (0 : Int32)), .val (.int (0 : Int32)), .val (.int (0 : Int32)), .val (.int (1 : Int32)), .val (.ref a127), .val (.ref r143), .unset, .unset] [(.int (1 : Int32))]))) (fun _ k => XS.iload X147.here hx rfl (hb hby at_67) rfl k) ?_
          refine OGoalW.mp (S' := (T145.setTop (mkF m 72 #[.val (.int p1), .val (.int (0 : Int32)), .val (.int (0 : Int32)), .val (.int (0 : Int32)), .val (.int (1 : Int32)), .val (.ref a127), .val (.ref r143), .unset, .unset] []))) (fun _ k => XS.ifNo X147.here hx rfl (hb hby at_69) rfl (XT.i0_eq_f (by decide)) k) ?_
          refine OGoalW.mp (S' := (T145.setTop (mkF m 74 #[.val (.int p1), .val (.int (0 : Int32)), .val (.int (0 : Int32)), .val (.int (0 : Int32)), .val (.int (1 : Int32)), .val (.ref a127), .val (.ref r143), .unset, .unset] [(.ref a127)]))) (fun _ k => XS.aload X147.here hx rfl (hb hby at_72) rfl rfl k) ?_
          have nd163 : dg ≠ a127 := Nat.ne_of_lt (Nat.lt_of_lt_of_le Adg.lt fr129)
          refine oCallVS (y := (⟨"com/example/wildsolve/wildsolve/infer/Fresh", "variable", "()Ljava/lang/String;"⟩ : MethodName)) (z := (⟨"com/example/wildsolve/wildsolve/infer/Fresh", "variable", "()Ljava/lang/String;"⟩ : MethodName)) X147 hx hS0 (Nat.le_trans (Nat.le_trans (Nat.le_trans (Nat.le_of_eq (congrArg Array.size hsh)) E124.1) K150.1) (Nat.le_of_eq (congrArg Array.size rfl).symm)) hI hZ hown (hw _ (List.mem_of_getElem? (i := 54) rfl)) (hw _ (List.mem_of_getElem? (i := 55) rfl)) (hw _ (List.mem_of_getElem? (i := 57) rfl)) (hw _ (List.mem_of_getElem? (i := 56) rfl)) (hw _ (List.mem_of_getElem? (i := 2) rfl)) (hw _ (List.mem_of_getElem? (i := 58) rfl)) (by decide) (rmVa l Z a0 hw a127 T145.heap n0 Z161 (1 : Int32) cs hcs (Sta.ext (oKext K160) Scs) dg (Sta.ext (oKext K160) Sdg) df (Adg.ext (oKext K160)) xd hdf hxd nd163 E155 F157 F156 ab134 (fun b cl q => K160.2.1 b cl (hkp b cl q) nin0) hcw hch) rfl E155 [] [] rfl rfl (by rw [hml]; rfl) (notFace_of_selects (args := #[]) (mvT hZ (hw _ (List.mem_of_getElem? (i := 57) rfl)))) (lenOf own_pd___Ljava_lang_String_ rfl) 0 (Nat.le_of_eq rfl) (by decide) (by decide) (by decide) (by decide) (hb hby at_74) ?_
          intro v164 T165 L166 X167 hS169 hg170 hZ hown q168
          obtain ⟨r162, rfl, N171, K172, E173, F174, F175⟩ := q168
          have N176 := Fr.app N158 N171
          have F177 := E152.keep K172
          have F178 := F153.keep K172 (ninS (Nat.ne_of_gt lt159) nin0)
          have F179 := F154.keep K172 (ninS (Nat.ne_of_gt lt159) nin0)
          have K180 : Keep h0 T165.heap [] := K160.trans K172 (allS (Or.inr fr129) all0)
          have Z181 : n0 ≤ T165.heap.size := Nat.le_trans Z161 K172.1
          show OGoalW p e below s _ _ _ (T165.setTop (mkF m 77 #[.val (.int p1), .val (.int (0 : Int32)), .val (.int (0 : Int32)), .val (.int (0 : Int32)), .val (.int (1 : Int32)), .val (.ref a127), .val (.ref r143), .unset, .unset] [(.ref r162)]))
          refine OGoalW.mp (S' := (T165.setTop (mkF m 78 #[.val (.int p1), .val (.int (0 : Int32)), .val (.int (0 : Int32)), .val (.int (0 : Int32)), .val (.int (1 : Int32)), .val (.ref a127), .val (.ref r143), .unset, .unset] []))) (fun _ k => XT.pop X167.here hx rfl (hb hby at_77) rfl rfl k) ?_
          refine OGoalW.mp (S' := (T165.setTop (mkF m 80 #[.val (.int p1), .val (.int (0 : Int32)), .val (.int (0 : Int32)), .val (.int (0 : Int32)), .val (.int (1 : Int32)), .val (.ref a127), .val (.ref r143), .unset, .unset] [(.ref a127)]))) (fun _ k => XS.aload X167.here hx rfl (hb hby at_78) rfl rfl k) ?_
          refine OGoalW.mp (S' := (T165.setTop (mkF m 81 #[.val (.int p1), .val (.int (0 : Int32)), .val (.int (0 : Int32)), .val (.int (0 : Int32)), .val (.int (1 : Int32)), .val (.ref a127), .val (.ref r143), .unset, .unset] [(.int (0 : Int32)), (.ref a127)]))) (fun _ k => XS.iloadN X167.here hx rfl (hb hby at_80) rfl k) ?_
          refine oCallSW (y := (⟨"com/example/wildsolve/wildsolve/infer/FreshOrdinaryPinLaw", "step", "(Lcom/example/wildsolve/wildsolve/infer/Fresh;Z)Lcom/example/wildsolve/wildsolve/solver/Placeholder;"⟩ : MethodName)) X167 hx hZ hown (hw _ (List.mem_of_getElem? (i := 9) rfl)) (hw _ (List.mem_of_getElem? (i := 10) rfl)) (hw _ (List.mem_of_getElem? (i := 11) rfl)) (hw _ (List.mem_of_getElem? (i := 12) rfl)) (by decide) (rmSt0 l Z a0 hw a127 T165.heap n0 Z181 (1 : Int32) (2 : Int32) (1 : Int32) (by decide) E173 F174 F175 ab134) rfl [(.ref a127), (.int (0 : Int32))] [] rfl rfl (by rw [hml]; rfl) (lenOf own_pd__Lcom_example_wildsolve_wildsolve_infer_Fresh_Z_Lcom_example_wildsolve_wildsolve_solver_Placeholder_ rfl) 0 (Nat.le_of_eq rfl) (by decide) (by decide) (by decide) (by decide) (hb hby at_81) ?_
          intro v183 T184 L185 X186 q187
          obtain ⟨r182, rfl, N188, K189, hr190, E191, F192, F193, E194, F195, F196⟩ := q187
          have N197 := Fr.app N176 N188
          have lt198 : a127 < r182 := Nat.lt_of_lt_of_le E173.lt hr190
          have F199 := F177.keep K189
          have F200 := F178.keep K189 (ninS (Nat.ne_of_gt lt159) nin0)
          have F201 := F179.keep K189 (ninS (Nat.ne_of_gt lt159) nin0)
          have K202 : Keep h0 T184.heap [] := K180.trans K189 (allS (Or.inr fr129) all0)
          have Z203 : n0 ≤ T184.heap.size := Nat.le_trans Z181 K189.1
          show OGoalW p e below s _ _ _ (T184.setTop (mkF m 84 #[.val (.int p1), .val (.int (0 : Int32)), .val (.int (0 : Int32)), .val (.int (0 : Int32)), .val (.int (1 : Int32)), .val (.ref a127), .val (.ref r143), .unset, .unset] [(.ref r182)]))
          refine OGoalW.mp (S' := (T184.setTop (mkF m 86 #[.val (.int p1), .val (.int (0 : Int32)), .val (.int (0 : Int32)), .val (.int (0 : Int32)), .val (.int (1 : Int32)), .val (.ref a127), .val (.ref r143), .val (.ref r182), .unset] []))) (fun _ k => XS.astore X186.here hx rfl (hb hby at_84) rfl rfl (l' := #[.val (.int p1), .val (.int (0 : Int32)), .val (.int (0 : Int32)), .val (.int (0 : Int32)), .val (.int (1 : Int32)), .val (.ref a127), .val (.ref r143), .val (.ref r182), .unset]) rfl k) ?_
          refine OGoalW.mp (S' := (T184.setTop (mkF m 88 #[.val (.int p1), .val (.int (0 : Int32)), .val (.int (0 : Int32)), .val (.int (0 : Int32)), .val (.int (1 : Int32)), .val (.ref a127), .val (.ref r143), .val (.ref r182), .unset] [(.ref a127)]))) (fun _ k => XS.aload X186.here hx rfl (hb hby at_86) rfl rfl k) ?_
          refine OGoalW.mp (S' := (T184.setTop (mkF m 89 #[.val (.int p1), .val (.int (0 : Int32)), .val (.int (0 : Int32)), .val (.int (0 : Int32)), .val (.int (1 : Int32)), .val (.ref a127), .val (.ref r143), .val (.ref r182), .unset] [(.int (0 : Int32)), (.ref a127)]))) (fun _ k => XS.iloadN X186.here hx rfl (hb hby at_88) rfl k) ?_
          refine oCallSW (y := (⟨"com/example/wildsolve/wildsolve/infer/FreshOrdinaryPinLaw", "step", "(Lcom/example/wildsolve/wildsolve/infer/Fresh;Z)Lcom/example/wildsolve/wildsolve/solver/Placeholder;"⟩ : MethodName)) X186 hx hZ hown (hw _ (List.mem_of_getElem? (i := 9) rfl)) (hw _ (List.mem_of_getElem? (i := 10) rfl)) (hw _ (List.mem_of_getElem? (i := 11) rfl)) (hw _ (List.mem_of_getElem? (i := 12) rfl)) (by decide) (rmSt0 l Z a0 hw a127 T184.heap n0 Z203 (2 : Int32) (3 : Int32) (1 : Int32) (by decide) E194 F195 F196 ab134) rfl [(.ref a127), (.int (0 : Int32))] [] rfl rfl (by rw [hml]; rfl) (lenOf own_pd__Lcom_example_wildsolve_wildsolve_infer_Fresh_Z_Lcom_example_wildsolve_wildsolve_solver_Placeholder_ rfl) 0 (Nat.le_of_eq rfl) (by decide) (by decide) (by decide) (by decide) (hb hby at_89) ?_
          intro v205 T206 L207 X208 q209
          obtain ⟨r204, rfl, N210, K211, hr212, E213, F214, F215, E216, F217, F218⟩ := q209
          have N219 := Fr.app N197 N210
          have lt220 : a127 < r204 := Nat.lt_of_lt_of_le E194.lt hr212
          have F221 := F199.keep K211
          have F222 := F200.keep K211 (ninS (Nat.ne_of_gt lt159) nin0)
          have F223 := F201.keep K211 (ninS (Nat.ne_of_gt lt159) nin0)
          have F224 := E191.keep K211
          have F225 := F192.keep K211 (ninS (Nat.ne_of_gt lt198) nin0)
          have F226 := F193.keep K211 (ninS (Nat.ne_of_gt lt198) nin0)
          have K227 : Keep h0 T206.heap [] := K202.trans K211 (allS (Or.inr fr129) all0)
          have Z228 : n0 ≤ T206.heap.size := Nat.le_trans Z203 K211.1
          show OGoalW p e below s _ _ _ (T206.setTop (mkF m 92 #[.val (.int p1), .val (.int (0 : Int32)), .val (.int (0 : Int32)), .val (.int (0 : Int32)), .val (.int (1 : Int32)), .val (.ref a127), .val (.ref r143), .val (.ref r182), .unset] [(.ref r204)]))
          refine OGoalW.mp (S' := (T206.setTop (mkF m 94 #[.val (.int p1), .val (.int (0 : Int32)), .val (.int (0 : Int32)), .val (.int (0 : Int32)), .val (.int (1 : Int32)), .val (.ref a127), .val (.ref r143), .val (.ref r182), .val (.ref r204)] []))) (fun _ k => XS.astore X208.here hx rfl (hb hby at_92) rfl rfl (l' := #[.val (.int p1), .val (.int (0 : Int32)), .val (.int (0 : Int32)), .val (.int (0 : Int32)), .val (.int (1 : Int32)), .val (.ref a127), .val (.ref r143), .val (.ref r182), .val (.ref r204)]) rfl k) ?_
          refine OGoalW.mp (S' := (T206.setTop (mkF m 96 #[.val (.int p1), .val (.int (0 : Int32)), .val (.int (0 : Int32)), .val (.int (0 : Int32)), .val (.int (1 : Int32)), .val (.ref a127), .val (.ref r143), .val (.ref r182), .val (.ref r204)] [(.ref r143)]))) (fun _ k => XS.aload X208.here hx rfl (hb hby at_94) rfl rfl k) ?_
          refine OGoalW.mp (S' := (T206.setTop (mkF m 97 #[.val (.int p1), .val (.int (0 : Int32)), .val (.int (0 : Int32)), .val (.int (0 : Int32)), .val (.int (1 : Int32)), .val (.ref a127), .val (.ref r143), .val (.ref r182), .val (.ref r204)] [(.int (1 : Int32)), (.ref r143)]))) (fun _ k => XS.iconst X208.here hx rfl (hb hby at_96) k) ?_
          refine OGoalW.mp (S' := (T206.setTop (mkF m 98 #[.val (.int p1), .val (.int (0 : Int32)), .val (.int (0 : Int32)), .val (.int (0 : Int32)), .val (.int (1 : Int32)), .val (.ref a127), .val (.ref r143), .val (.ref r182), .val (.ref r204)] [(.int (0 : Int32)), (.int (1 : Int32)), (.ref r143)]))) (fun _ k => XS.iloadN X208.here hx rfl (hb hby at_97) rfl k) ?_
          refine oCallSW (y := (⟨"com/example/wildsolve/wildsolve/infer/FreshOrdinaryPinLaw", "check", "(Lcom/example/wildsolve/wildsolve/solver/Placeholder;IZ)Z"⟩ : MethodName)) X208 hx hZ hown (hw _ (List.mem_of_getElem? (i := 36) rfl)) (hw _ (List.mem_of_getElem? (i := 37) rfl)) (hw _ (List.mem_of_getElem? (i := 11) rfl)) (hw _ (List.mem_of_getElem? (i := 38) rfl)) (by decide) (rmCk10 l Z a0 hw r143 T206.heap n0 Z228 F221 F222 F223) rfl [(.ref r143), (.int (1 : Int32)), (.int (0 : Int32))] [] rfl rfl (by rw [hml]; rfl) (lenOf own_pd__Lcom_example_wildsolve_wildsolve_solver_Placeholder_IZ_Z rfl) 0 (Nat.le_of_eq rfl) (by decide) (by decide) (by decide) (by decide) (hb hby at_98) ?_
          intro v229 T230 L231 X232 q233
          obtain ⟨rfl, N234, e235⟩ := q233
          have N236 := Fr.app N219 N234
          show OGoalW p e below s _ _ _ (T230.setTop (mkF m 101 #[.val (.int p1), .val (.int (0 : Int32)), .val (.int (0 : Int32)), .val (.int (0 : Int32)), .val (.int (1 : Int32)), .val (.ref a127), .val (.ref r143), .val (.ref r182), .val (.ref r204)] [(.int (1 : Int32))]))
          refine OGoalW.mp (S' := (T230.setTop (mkF m 104 #[.val (.int p1), .val (.int (0 : Int32)), .val (.int (0 : Int32)), .val (.int (0 : Int32)), .val (.int (1 : Int32)), .val (.ref a127), .val (.ref r143), .val (.ref r182), .val (.ref r204)] []))) (fun _ k => XS.ifNo X232.here hx rfl (hb hby at_101) rfl (XT.i0_eq_f (by decide)) k) ?_
          refine OGoalW.mp (S' := (T230.setTop (mkF m 106 #[.val (.int p1), .val (.int (0 : Int32)), .val (.int (0 : Int32)), .val (.int (0 : Int32)), .val (.int (1 : Int32)), .val (.ref a127), .val (.ref r143), .val (.ref r182), .val (.ref r204)] [(.ref r182)]))) (fun _ k => XS.aload X232.here hx rfl (hb hby at_104) rfl rfl k) ?_
          refine OGoalW.mp (S' := (T230.setTop (mkF m 107 #[.val (.int p1), .val (.int (0 : Int32)), .val (.int (0 : Int32)), .val (.int (0 : Int32)), .val (.int (1 : Int32)), .val (.ref a127), .val (.ref r143), .val (.ref r182), .val (.ref r204)] [(.int (2 : Int32)), (.ref r182)]))) (fun _ k => XS.iconst X232.here hx rfl (hb hby at_106) k) ?_
          refine OGoalW.mp (S' := (T230.setTop (mkF m 108 #[.val (.int p1), .val (.int (0 : Int32)), .val (.int (0 : Int32)), .val (.int (0 : Int32)), .val (.int (1 : Int32)), .val (.ref a127), .val (.ref r143), .val (.ref r182), .val (.ref r204)] [(.int (0 : Int32)), (.int (2 : Int32)), (.ref r182)]))) (fun _ k => XS.iloadN X232.here hx rfl (hb hby at_107) rfl k) ?_
          refine oCallSW (y := (⟨"com/example/wildsolve/wildsolve/infer/FreshOrdinaryPinLaw", "check", "(Lcom/example/wildsolve/wildsolve/solver/Placeholder;IZ)Z"⟩ : MethodName)) X232 hx hZ hown (hw _ (List.mem_of_getElem? (i := 36) rfl)) (hw _ (List.mem_of_getElem? (i := 37) rfl)) (hw _ (List.mem_of_getElem? (i := 11) rfl)) (hw _ (List.mem_of_getElem? (i := 38) rfl)) (by decide) (rmCk20 l Z a0 hw r182 T206.heap n0 Z228 F224 F225 F226) e235 [(.ref r182), (.int (2 : Int32)), (.int (0 : Int32))] [] rfl rfl (by rw [hml]; rfl) (lenOf own_pd__Lcom_example_wildsolve_wildsolve_solver_Placeholder_IZ_Z rfl) 0 (Nat.le_of_eq rfl) (by decide) (by decide) (by decide) (by decide) (hb hby at_108) ?_
          intro v237 T238 L239 X240 q241
          obtain ⟨rfl, N242, e243⟩ := q241
          have N244 := Fr.app N236 N242
          show OGoalW p e below s _ _ _ (T238.setTop (mkF m 111 #[.val (.int p1), .val (.int (0 : Int32)), .val (.int (0 : Int32)), .val (.int (0 : Int32)), .val (.int (1 : Int32)), .val (.ref a127), .val (.ref r143), .val (.ref r182), .val (.ref r204)] [(.int (1 : Int32))]))
          refine OGoalW.mp (S' := (T238.setTop (mkF m 114 #[.val (.int p1), .val (.int (0 : Int32)), .val (.int (0 : Int32)), .val (.int (0 : Int32)), .val (.int (1 : Int32)), .val (.ref a127), .val (.ref r143), .val (.ref r182), .val (.ref r204)] []))) (fun _ k => XS.ifNo X240.here hx rfl (hb hby at_111) rfl (XT.i0_eq_f (by decide)) k) ?_
          refine OGoalW.mp (S' := (T238.setTop (mkF m 116 #[.val (.int p1), .val (.int (0 : Int32)), .val (.int (0 : Int32)), .val (.int (0 : Int32)), .val (.int (1 : Int32)), .val (.ref a127), .val (.ref r143), .val (.ref r182), .val (.ref r204)] [(.ref r204)]))) (fun _ k => XS.aload X240.here hx rfl (hb hby at_114) rfl rfl k) ?_
          refine OGoalW.mp (S' := (T238.setTop (mkF m 117 #[.val (.int p1), .val (.int (0 : Int32)), .val (.int (0 : Int32)), .val (.int (0 : Int32)), .val (.int (1 : Int32)), .val (.ref a127), .val (.ref r143), .val (.ref r182), .val (.ref r204)] [(.int (3 : Int32)), (.ref r204)]))) (fun _ k => XS.iconst X240.here hx rfl (hb hby at_116) k) ?_
          refine OGoalW.mp (S' := (T238.setTop (mkF m 118 #[.val (.int p1), .val (.int (0 : Int32)), .val (.int (0 : Int32)), .val (.int (0 : Int32)), .val (.int (1 : Int32)), .val (.ref a127), .val (.ref r143), .val (.ref r182), .val (.ref r204)] [(.int (0 : Int32)), (.int (3 : Int32)), (.ref r204)]))) (fun _ k => XS.iloadN X240.here hx rfl (hb hby at_117) rfl k) ?_
          refine oCallSW (y := (⟨"com/example/wildsolve/wildsolve/infer/FreshOrdinaryPinLaw", "check", "(Lcom/example/wildsolve/wildsolve/solver/Placeholder;IZ)Z"⟩ : MethodName)) X240 hx hZ hown (hw _ (List.mem_of_getElem? (i := 36) rfl)) (hw _ (List.mem_of_getElem? (i := 37) rfl)) (hw _ (List.mem_of_getElem? (i := 11) rfl)) (hw _ (List.mem_of_getElem? (i := 38) rfl)) (by decide) (rmCk30 l Z a0 hw r204 T206.heap n0 Z228 E213 F214 F215) e243 [(.ref r204), (.int (3 : Int32)), (.int (0 : Int32))] [] rfl rfl (by rw [hml]; rfl) (lenOf own_pd__Lcom_example_wildsolve_wildsolve_solver_Placeholder_IZ_Z rfl) 0 (Nat.le_of_eq rfl) (by decide) (by decide) (by decide) (by decide) (hb hby at_118) ?_
          intro v245 T246 L247 X248 q249
          obtain ⟨rfl, N250, e251⟩ := q249
          have N252 := Fr.app N244 N250
          show OGoalW p e below s _ _ _ (T246.setTop (mkF m 121 #[.val (.int p1), .val (.int (0 : Int32)), .val (.int (0 : Int32)), .val (.int (0 : Int32)), .val (.int (1 : Int32)), .val (.ref a127), .val (.ref r143), .val (.ref r182), .val (.ref r204)] [(.int (1 : Int32))]))
          refine OGoalW.mp (S' := (T246.setTop (mkF m 124 #[.val (.int p1), .val (.int (0 : Int32)), .val (.int (0 : Int32)), .val (.int (0 : Int32)), .val (.int (1 : Int32)), .val (.ref a127), .val (.ref r143), .val (.ref r182), .val (.ref r204)] []))) (fun _ k => XS.ifNo X248.here hx rfl (hb hby at_121) rfl (XT.i0_eq_f (by decide)) k) ?_
          refine OGoalW.mp (S' := (T246.setTop (mkF m 125 #[.val (.int p1), .val (.int (0 : Int32)), .val (.int (0 : Int32)), .val (.int (0 : Int32)), .val (.int (1 : Int32)), .val (.ref a127), .val (.ref r143), .val (.ref r182), .val (.ref r204)] [(.int (1 : Int32))]))) (fun _ k => XS.iconst X248.here hx rfl (hb hby at_124) k) ?_
          refine OGoalW.mp (S' := (T246.setTop (mkF m 129 #[.val (.int p1), .val (.int (0 : Int32)), .val (.int (0 : Int32)), .val (.int (0 : Int32)), .val (.int (1 : Int32)), .val (.ref a127), .val (.ref r143), .val (.ref r182), .val (.ref r204)] [(.int (1 : Int32))]))) (fun _ k => XS.goto X248.here hx rfl (pc0 := 125) (pc' := 129) rfl (hb hby at_125) (by decide) (by decide) k) ?_
          refine oRetZW X248 hS169 (Nat.le_trans (Nat.le_trans (Nat.le_trans (Nat.le_refl _) K189.1) K211.1) (Nat.le_of_eq (congrArg Array.size e251).symm)) hx hlk hret (Or.inr rfl) (hb hby at_129) ?_ (by decide) (by decide)
          exact ⟨rfl, N252⟩
      · refine OGoalW.mp (S' := (s₁.setTop (mkF m 30 #[.val (.int p1), .val (.int (0 : Int32)), .val (.int (0 : Int32)), .unset, .unset, .unset, .unset, .unset, .unset] []))) (fun _ k => XS.ifNo X0.here hx rfl (hb hby at_27) rfl (XT.i0_eq_f hc3) k) ?_
        refine OGoalW.mp (S' := (s₁.setTop (mkF m 31 #[.val (.int p1), .val (.int (0 : Int32)), .val (.int (0 : Int32)), .unset, .unset, .unset, .unset, .unset, .unset] [(.int (1 : Int32))]))) (fun _ k => XS.iconst X0.here hx rfl (hb hby at_30) k) ?_
        refine OGoalW.mp (S' := (s₁.setTop (mkF m 35 #[.val (.int p1), .val (.int (0 : Int32)), .val (.int (0 : Int32)), .unset, .unset, .unset, .unset, .unset, .unset] [(.int (1 : Int32))]))) (fun _ k => XS.goto X0.here hx rfl (pc0 := 31) (pc' := 35) rfl (hb hby at_31) (by decide) (by decide) k) ?_
        refine OGoalW.mp (S' := (s₁.setTop (mkF m 36 #[.val (.int p1), .val (.int (0 : Int32)), .val (.int (0 : Int32)), .val (.int (1 : Int32)), .unset, .unset, .unset, .unset, .unset] []))) (fun _ k => XS.istoreN X0.here hx rfl (hb hby at_35) rfl (l' := #[.val (.int p1), .val (.int (0 : Int32)), .val (.int (0 : Int32)), .val (.int (1 : Int32)), .unset, .unset, .unset, .unset, .unset]) rfl k) ?_
        refine OGoalW.mp (S' := (s₁.setTop (mkF m 37 #[.val (.int p1), .val (.int (0 : Int32)), .val (.int (0 : Int32)), .val (.int (1 : Int32)), .unset, .unset, .unset, .unset, .unset] [(.int p1)]))) (fun _ k => XS.iloadN X0.here hx rfl (hb hby at_36) rfl k) ?_
        refine OGoalW.mp (S' := (s₁.setTop (mkF m 39 #[.val (.int p1), .val (.int (0 : Int32)), .val (.int (0 : Int32)), .val (.int (1 : Int32)), .unset, .unset, .unset, .unset, .unset] [(.int (8 : Int32)), (.int p1)]))) (fun _ k => XS.bipush X0.here hx rfl (hb hby at_37) k) ?_
        refine OGoalW.mp (S' := (s₁.setTop (mkF m 40 #[.val (.int p1), .val (.int (0 : Int32)), .val (.int (0 : Int32)), .val (.int (1 : Int32)), .unset, .unset, .unset, .unset, .unset] [(.int (p1 &&& (8 : Int32)))]))) (fun _ k => XS.iand X0.here hx rfl (hb hby at_39) rfl k) ?_
        by_cases hc253 : (p1 &&& (8 : Int32)) = 0
        · refine OGoalW.mp (S' := (s₁.setTop (mkF m 47 #[.val (.int p1), .val (.int (0 : Int32)), .val (.int (0 : Int32)), .val (.int (1 : Int32)), .unset, .unset, .unset, .unset, .unset] []))) (fun _ k => XS.ifYes X0.here hx rfl (pc0 := 40) (pc' := 47) rfl (hb hby at_40) rfl (XT.i0_eq_t hc253) (by decide) (by decide) k) ?_
          refine OGoalW.mp (S' := (s₁.setTop (mkF m 48 #[.val (.int p1), .val (.int (0 : Int32)), .val (.int (0 : Int32)), .val (.int (1 : Int32)), .unset, .unset, .unset, .unset, .unset] [(.int (0 : Int32))]))) (fun _ k => XS.iconst X0.here hx rfl (hb hby at_47) k) ?_
          refine OGoalW.mp (S' := (s₁.setTop (mkF m 50 #[.val (.int p1), .val (.int (0 : Int32)), .val (.int (0 : Int32)), .val (.int (1 : Int32)), .val (.int (0 : Int32)), .unset, .unset, .unset, .unset] []))) (fun _ k => XS.istore X0.here hx rfl (hb hby at_48) rfl (l' := #[.val (.int p1), .val (.int (0 : Int32)), .val (.int (0 : Int32)), .val (.int (1 : Int32)), .val (.int (0 : Int32)), .unset, .unset, .unset, .unset]) rfl k) ?_
          obtain ⟨T254, h258, X255, e256, E259, A260, D261, -, st257⟩ := newO X0 hx hZ hown (hw _ (List.mem_of_getElem? (i := 0) rfl)) (hw _ (List.mem_of_getElem? (i := 1) rfl)) (hw _ (List.mem_of_getElem? (i := 2) rfl)) e0 (g := mkF m 50 #[.val (.int p1), .val (.int (0 : Int32)), .val (.int (0 : Int32)), .val (.int (1 : Int32)), .val (.int (0 : Int32)), .unset, .unset, .unset, .unset] []) rfl (hb hby at_50) (by decide) (by decide)
          obtain ⟨a262, g263⟩ : ∃ z, z = h0.size := ⟨_, rfl⟩
          rw [← g263] at A260 D261 st257
          have fr264 : h0.size ≤ a262 := by rw [g263]; exact (Keep.refl h0 []).1
          have K265 : Keep h0 h258 [] := (Keep.refl h0 []).ext E259
          have F266 : Fld Z h258 a262 "com/example/wildsolve/wildsolve/infer/Fresh" "placeholders" "I" (.int (0 : Int32)) := D261 (Or.inl (hw _ (List.mem_of_getElem? (i := 22) rfl))) (ty := .int) (by decide)
          have F267 : Fld Z h258 a262 "com/example/wildsolve/wildsolve/infer/Fresh" "variables" "I" (.int (0 : Int32)) := D261 (Or.inl (hw _ (List.mem_of_getElem? (i := 136) rfl))) (ty := .int) (by decide)
          have Z268 : n0 ≤ h258.size := Nat.le_trans Z0 E259.1
          have ab269 : n0 ≤ a262 := Nat.le_trans Z0 (Nat.le_of_eq g263.symm)
          refine OGoalW.mp (S' := (T254.setTop (mkF m 53 #[.val (.int p1), .val (.int (0 : Int32)), .val (.int (0 : Int32)), .val (.int (1 : Int32)), .val (.int (0 : Int32)), .unset, .unset, .unset, .unset] [(.ref a262)]))) (fun _ k => st257 _ k) ?_
          refine OGoalW.mp (S' := (T254.setTop (mkF m 54 #[.val (.int p1), .val (.int (0 : Int32)), .val (.int (0 : Int32)), .val (.int (1 : Int32)), .val (.int (0 : Int32)), .unset, .unset, .unset, .unset] [(.ref a262), (.ref a262)]))) (fun _ k => XS.dup X255.here hx rfl (hb hby at_53) rfl rfl k) ?_
          refine oCallNW (y := (⟨"com/example/wildsolve/wildsolve/infer/Fresh", "<init>", "()V"⟩ : MethodName)) X255 hx hZ rfl hown (hw _ (List.mem_of_getElem? (i := 3) rfl)) (hw _ (List.mem_of_getElem? (i := 4) rfl)) (hw _ (List.mem_of_getElem? (i := 2) rfl)) (hw _ (List.mem_of_getElem? (i := 5) rfl)) (by decide) (rmFI l Z a0 hw a262 h258 n0 Z268) e256 [] [(.ref a262)] rfl rfl (by rw [hml]; rfl) (lenOf own_pd___V rfl) 1 (Nat.le_of_eq rfl) (by decide) (by decide) (by decide) (by decide) (hb hby at_54) ?_
          intro v270 T271 L272 X273 q274
          obtain ⟨rfl, N275, e276⟩ := q274
          have N277 := Fr.app (Fr.nil n0) N275
          show OGoalW p e below s _ _ _ (T271.setTop (mkF m 57 #[.val (.int p1), .val (.int (0 : Int32)), .val (.int (0 : Int32)), .val (.int (1 : Int32)), .val (.int (0 : Int32)), .unset, .unset, .unset, .unset] [(.ref a262)]))
          refine OGoalW.mp (S' := (T271.setTop (mkF m 59 #[.val (.int p1), .val (.int (0 : Int32)), .val (.int (0 : Int32)), .val (.int (1 : Int32)), .val (.int (0 : Int32)), .val (.ref a262), .unset, .unset, .unset] []))) (fun _ k => XS.astore X273.here hx rfl (hb hby at_57) rfl rfl (l' := #[.val (.int p1), .val (.int (0 : Int32)), .val (.int (0 : Int32)), .val (.int (1 : Int32)), .val (.int (0 : Int32)), .val (.ref a262), .unset, .unset, .unset]) rfl k) ?_
          refine OGoalW.mp (S' := (T271.setTop (mkF m 61 #[.val (.int p1), .val (.int (0 : Int32)), .val (.int (0 : Int32)), .val (.int (1 : Int32)), .val (.int (0 : Int32)), .val (.ref a262), .unset, .unset, .unset] [(.ref a262)]))) (fun _ k => XS.aload X273.here hx rfl (hb hby at_59) rfl rfl k) ?_
          refine OGoalW.mp (S' := (T271.setTop (mkF m 62 #[.val (.int p1), .val (.int (0 : Int32)), .val (.int (0 : Int32)), .val (.int (1 : Int32)), .val (.int (0 : Int32)), .val (.ref a262), .unset, .unset, .unset] [(.int (0 : Int32)), (.ref a262)]))) (fun _ k => XS.iloadN X273.here hx rfl (hb hby at_61) rfl k) ?_
          refine oCallSW (y := (⟨"com/example/wildsolve/wildsolve/infer/FreshOrdinaryPinLaw", "step", "(Lcom/example/wildsolve/wildsolve/infer/Fresh;Z)Lcom/example/wildsolve/wildsolve/solver/Placeholder;"⟩ : MethodName)) X273 hx hZ hown (hw _ (List.mem_of_getElem? (i := 9) rfl)) (hw _ (List.mem_of_getElem? (i := 10) rfl)) (hw _ (List.mem_of_getElem? (i := 11) rfl)) (hw _ (List.mem_of_getElem? (i := 12) rfl)) (by decide) (rmSt0 l Z a0 hw a262 h258 n0 Z268 (0 : Int32) (1 : Int32) (0 : Int32) (by decide) A260 F266 F267 ab269) e276 [(.ref a262), (.int (0 : Int32))] [] rfl rfl (by rw [hml]; rfl) (lenOf own_pd__Lcom_example_wildsolve_wildsolve_infer_Fresh_Z_Lcom_example_wildsolve_wildsolve_solver_Placeholder_ rfl) 0 (Nat.le_of_eq rfl) (by decide) (by decide) (by decide) (by decide) (hb hby at_62) ?_
          intro v279 T280 L281 X282 q283
          obtain ⟨r278, rfl, N284, K285, hr286, E287, F288, F289, E290, F291, F292⟩ := q283
          have N293 := Fr.app N277 N284
          have lt294 : a262 < r278 := Nat.lt_of_lt_of_le A260.lt hr286
          have K295 : Keep h0 T280.heap [] := K265.trans K285 (allS (Or.inr fr264) all0)
          have Z296 : n0 ≤ T280.heap.size := Nat.le_trans Z268 K285.1
          show OGoalW p e below s _ _ _ (T280.setTop (mkF m 65 #[.val (.int p1), .val (.int (0 : Int32)), .val (.int (0 : Int32)), .val (.int (1 : Int32)), .val (.int (0 : Int32)), .val (.ref a262), .unset, .unset, .unset] [(.ref r278)]))
          refine OGoalW.mp (S' := (T280.setTop (mkF m 67 #[.val (.int p1), .val (.int (0 : Int32)), .val (.int (0 : Int32)), .val (.int (1 : Int32)), .val (.int (0 : Int32)), .val (.ref a262), .val (.ref r278), .unset, .unset] []))) (fun _ k => XS.astore X282.here hx rfl (hb hby at_65) rfl rfl (l' := #[.val (.int p1), .val (.int (0 : Int32)), .val (.int (0 : Int32)), .val (.int (1 : Int32)), .val (.int (0 : Int32)), .val (.ref a262), .val (.ref r278), .unset, .unset]) rfl k) ?_
          refine OGoalW.mp (S' := (T280.setTop (mkF m 69 #[.val (.int p1), .val (.int (0 : Int32)), .val (.int (0 : Int32)), .val (.int (1 : Int32)), .val (.int (0 : Int32)), .val (.ref a262), .val (.ref r278), .unset, .unset] [(.int (0 : Int32))]))) (fun _ k => XS.iload X282.here hx rfl (hb hby at_67) rfl k) ?_
          refine OGoalW.mp (S' := (T280.setTop (mkF m 78 #[.val (.int p1), .val (.int (0 : Int32)), .val (.int (0 : Int32)), .val (.int (1 : Int32)), .val (.int (0 : Int32)), .val (.ref a262), .val (.ref r278), .unset, .unset] []))) (fun _ k => XS.ifYes X282.here hx rfl (pc0 := 69) (pc' := 78) rfl (hb hby at_69) rfl (XT.i0_eq_t (by decide)) (by decide) (by decide) k) ?_
          refine OGoalW.mp (S' := (T280.setTop (mkF m 80 #[.val (.int p1), .val (.int (0 : Int32)), .val (.int (0 : Int32)), .val (.int (1 : Int32)), .val (.int (0 : Int32)), .val (.ref a262), .val (.ref r278), .unset, .unset] [(.ref a262)]))) (fun _ k => XS.aload X282.here hx rfl (hb hby at_78) rfl rfl k) ?_
          refine OGoalW.mp (S' := (T280.setTop (mkF m 81 #[.val (.int p1), .val (.int (0 : Int32)), .val (.int (0 : Int32)), .val (.int (1 : Int32)), .val (.int (0 : Int32)), .val (.ref a262), .val (.ref r278), .unset, .unset] [(.int (0 : Int32)), (.ref a262)]))) (fun _ k => XS.iloadN X282.here hx rfl (hb hby at_80) rfl k) ?_
          refine oCallSW (y := (⟨"com/example/wildsolve/wildsolve/infer/FreshOrdinaryPinLaw", "step", "(Lcom/example/wildsolve/wildsolve/infer/Fresh;Z)Lcom/example/wildsolve/wildsolve/solver/Placeholder;"⟩ : MethodName)) X282 hx hZ hown (hw _ (List.mem_of_getElem? (i := 9) rfl)) (hw _ (List.mem_of_getElem? (i := 10) rfl)) (hw _ (List.mem_of_getElem? (i := 11) rfl)) (hw _ (List.mem_of_getElem? (i := 12) rfl)) (by decide) (rmSt0 l Z a0 hw a262 T280.heap n0 Z296 (1 : Int32) (2 : Int32) (0 : Int32) (by decide) E290 F291 F292 ab269) rfl [(.ref a262), (.int (0 : Int32))] [] rfl rfl (by rw [hml]; rfl) (lenOf own_pd__Lcom_example_wildsolve_wildsolve_infer_Fresh_Z_Lcom_example_wildsolve_wildsolve_solver_Placeholder_ rfl) 0 (Nat.le_of_eq rfl) (by decide) (by decide) (by decide) (by decide) (hb hby at_81) ?_
          intro v298 T299 L300 X301 q302
          obtain ⟨r297, rfl, N303, K304, hr305, E306, F307, F308, E309, F310, F311⟩ := q302
          have N312 := Fr.app N293 N303
          have lt313 : a262 < r297 := Nat.lt_of_lt_of_le E290.lt hr305
          have F314 := E287.keep K304
          have F315 := F288.keep K304 (ninS (Nat.ne_of_gt lt294) nin0)
          have F316 := F289.keep K304 (ninS (Nat.ne_of_gt lt294) nin0)
          have K317 : Keep h0 T299.heap [] := K295.trans K304 (allS (Or.inr fr264) all0)
          have Z318 : n0 ≤ T299.heap.size := Nat.le_trans Z296 K304.1
          show OGoalW p e below s _ _ _ (T299.setTop (mkF m 84 #[.val (.int p1), .val (.int (0 : Int32)), .val (.int (0 : Int32)), .val (.int (1 : Int32)), .val (.int (0 : Int32)), .val (.ref a262), .val (.ref r278), .unset, .unset] [(.ref r297)]))
          refine OGoalW.mp (S' := (T299.setTop (mkF m 86 #[.val (.int p1), .val (.int (0 : Int32)), .val (.int (0 : Int32)), .val (.int (1 : Int32)), .val (.int (0 : Int32)), .val (.ref a262), .val (.ref r278), .val (.ref r297), .unset] []))) (fun _ k => XS.astore X301.here hx rfl (hb hby at_84) rfl rfl (l' := #[.val (.int p1), .val (.int (0 : Int32)), .val (.int (0 : Int32)), .val (.int (1 : Int32)), .val (.int (0 : Int32)), .val (.ref a262), .val (.ref r278), .val (.ref r297), .unset]) rfl k) ?_
          refine OGoalW.mp (S' := (T299.setTop (mkF m 88 #[.val (.int p1), .val (.int (0 : Int32)), .val (.int (0 : Int32)), .val (.int (1 : Int32)), .val (.int (0 : Int32)), .val (.ref a262), .val (.ref r278), .val (.ref r297), .unset] [(.ref a262)]))) (fun _ k => XS.aload X301.here hx rfl (hb hby at_86) rfl rfl k) ?_
          refine OGoalW.mp (S' := (T299.setTop (mkF m 89 #[.val (.int p1), .val (.int (0 : Int32)), .val (.int (0 : Int32)), .val (.int (1 : Int32)), .val (.int (0 : Int32)), .val (.ref a262), .val (.ref r278), .val (.ref r297), .unset] [(.int (1 : Int32)), (.ref a262)]))) (fun _ k => XS.iloadN X301.here hx rfl (hb hby at_88) rfl k) ?_
          refine oCallSW (y := (⟨"com/example/wildsolve/wildsolve/infer/FreshOrdinaryPinLaw", "step", "(Lcom/example/wildsolve/wildsolve/infer/Fresh;Z)Lcom/example/wildsolve/wildsolve/solver/Placeholder;"⟩ : MethodName)) X301 hx hZ hown (hw _ (List.mem_of_getElem? (i := 9) rfl)) (hw _ (List.mem_of_getElem? (i := 10) rfl)) (hw _ (List.mem_of_getElem? (i := 11) rfl)) (hw _ (List.mem_of_getElem? (i := 12) rfl)) (by decide) (rmSt1 l Z a0 hw a262 T299.heap n0 Z318 (2 : Int32) (3 : Int32) (0 : Int32) (by decide) E309 F310 F311 ab269) rfl [(.ref a262), (.int (1 : Int32))] [] rfl rfl (by rw [hml]; rfl) (lenOf own_pd__Lcom_example_wildsolve_wildsolve_infer_Fresh_Z_Lcom_example_wildsolve_wildsolve_solver_Placeholder_ rfl) 0 (Nat.le_of_eq rfl) (by decide) (by decide) (by decide) (by decide) (hb hby at_89) ?_
          intro v320 T321 L322 X323 q324
          obtain ⟨r319, rfl, N325, K326, hr327, E328, F329, F330, E331, F332, F333⟩ := q324
          have N334 := Fr.app N312 N325
          have lt335 : a262 < r319 := Nat.lt_of_lt_of_le E309.lt hr327
          have F336 := F314.keep K326
          have F337 := F315.keep K326 (ninS (Nat.ne_of_gt lt294) nin0)
          have F338 := F316.keep K326 (ninS (Nat.ne_of_gt lt294) nin0)
          have F339 := E306.keep K326
          have F340 := F307.keep K326 (ninS (Nat.ne_of_gt lt313) nin0)
          have F341 := F308.keep K326 (ninS (Nat.ne_of_gt lt313) nin0)
          have K342 : Keep h0 T321.heap [] := K317.trans K326 (allS (Or.inr fr264) all0)
          have Z343 : n0 ≤ T321.heap.size := Nat.le_trans Z318 K326.1
          show OGoalW p e below s _ _ _ (T321.setTop (mkF m 92 #[.val (.int p1), .val (.int (0 : Int32)), .val (.int (0 : Int32)), .val (.int (1 : Int32)), .val (.int (0 : Int32)), .val (.ref a262), .val (.ref r278), .val (.ref r297), .unset] [(.ref r319)]))
          refine OGoalW.mp (S' := (T321.setTop (mkF m 94 #[.val (.int p1), .val (.int (0 : Int32)), .val (.int (0 : Int32)), .val (.int (1 : Int32)), .val (.int (0 : Int32)), .val (.ref a262), .val (.ref r278), .val (.ref r297), .val (.ref r319)] []))) (fun _ k => XS.astore X323.here hx rfl (hb hby at_92) rfl rfl (l' := #[.val (.int p1), .val (.int (0 : Int32)), .val (.int (0 : Int32)), .val (.int (1 : Int32)), .val (.int (0 : Int32)), .val (.ref a262), .val (.ref r278), .val (.ref r297), .val (.ref r319)]) rfl k) ?_
          refine OGoalW.mp (S' := (T321.setTop (mkF m 96 #[.val (.int p1), .val (.int (0 : Int32)), .val (.int (0 : Int32)), .val (.int (1 : Int32)), .val (.int (0 : Int32)), .val (.ref a262), .val (.ref r278), .val (.ref r297), .val (.ref r319)] [(.ref r278)]))) (fun _ k => XS.aload X323.here hx rfl (hb hby at_94) rfl rfl k) ?_
          refine OGoalW.mp (S' := (T321.setTop (mkF m 97 #[.val (.int p1), .val (.int (0 : Int32)), .val (.int (0 : Int32)), .val (.int (1 : Int32)), .val (.int (0 : Int32)), .val (.ref a262), .val (.ref r278), .val (.ref r297), .val (.ref r319)] [(.int (1 : Int32)), (.ref r278)]))) (fun _ k => XS.iconst X323.here hx rfl (hb hby at_96) k) ?_
          refine OGoalW.mp (S' := (T321.setTop (mkF m 98 #[.val (.int p1), .val (.int (0 : Int32)), .val (.int (0 : Int32)), .val (.int (1 : Int32)), .val (.int (0 : Int32)), .val (.ref a262), .val (.ref r278), .val (.ref r297), .val (.ref r319)] [(.int (0 : Int32)), (.int (1 : Int32)), (.ref r278)]))) (fun _ k => XS.iloadN X323.here hx rfl (hb hby at_97) rfl k) ?_
          refine oCallSW (y := (⟨"com/example/wildsolve/wildsolve/infer/FreshOrdinaryPinLaw", "check", "(Lcom/example/wildsolve/wildsolve/solver/Placeholder;IZ)Z"⟩ : MethodName)) X323 hx hZ hown (hw _ (List.mem_of_getElem? (i := 36) rfl)) (hw _ (List.mem_of_getElem? (i := 37) rfl)) (hw _ (List.mem_of_getElem? (i := 11) rfl)) (hw _ (List.mem_of_getElem? (i := 38) rfl)) (by decide) (rmCk10 l Z a0 hw r278 T321.heap n0 Z343 F336 F337 F338) rfl [(.ref r278), (.int (1 : Int32)), (.int (0 : Int32))] [] rfl rfl (by rw [hml]; rfl) (lenOf own_pd__Lcom_example_wildsolve_wildsolve_solver_Placeholder_IZ_Z rfl) 0 (Nat.le_of_eq rfl) (by decide) (by decide) (by decide) (by decide) (hb hby at_98) ?_
          intro v344 T345 L346 X347 q348
          obtain ⟨rfl, N349, e350⟩ := q348
          have N351 := Fr.app N334 N349
          show OGoalW p e below s _ _ _ (T345.setTop (mkF m 101 #[.val (.int p1), .val (.int (0 : Int32)), .val (.int (0 : Int32)), .val (.int (1 : Int32)), .val (.int (0 : Int32)), .val (.ref a262), .val (.ref r278), .val (.ref r297), .val (.ref r319)] [(.int (1 : Int32))]))
          refine OGoalW.mp (S' := (T345.setTop (mkF m 104 #[.val (.int p1), .val (.int (0 : Int32)), .val (.int (0 : Int32)), .val (.int (1 : Int32)), .val (.int (0 : Int32)), .val (.ref a262), .val (.ref r278), .val (.ref r297), .val (.ref r319)] []))) (fun _ k => XS.ifNo X347.here hx rfl (hb hby at_101) rfl (XT.i0_eq_f (by decide)) k) ?_
          refine OGoalW.mp (S' := (T345.setTop (mkF m 106 #[.val (.int p1), .val (.int (0 : Int32)), .val (.int (0 : Int32)), .val (.int (1 : Int32)), .val (.int (0 : Int32)), .val (.ref a262), .val (.ref r278), .val (.ref r297), .val (.ref r319)] [(.ref r297)]))) (fun _ k => XS.aload X347.here hx rfl (hb hby at_104) rfl rfl k) ?_
          refine OGoalW.mp (S' := (T345.setTop (mkF m 107 #[.val (.int p1), .val (.int (0 : Int32)), .val (.int (0 : Int32)), .val (.int (1 : Int32)), .val (.int (0 : Int32)), .val (.ref a262), .val (.ref r278), .val (.ref r297), .val (.ref r319)] [(.int (2 : Int32)), (.ref r297)]))) (fun _ k => XS.iconst X347.here hx rfl (hb hby at_106) k) ?_
          refine OGoalW.mp (S' := (T345.setTop (mkF m 108 #[.val (.int p1), .val (.int (0 : Int32)), .val (.int (0 : Int32)), .val (.int (1 : Int32)), .val (.int (0 : Int32)), .val (.ref a262), .val (.ref r278), .val (.ref r297), .val (.ref r319)] [(.int (0 : Int32)), (.int (2 : Int32)), (.ref r297)]))) (fun _ k => XS.iloadN X347.here hx rfl (hb hby at_107) rfl k) ?_
          refine oCallSW (y := (⟨"com/example/wildsolve/wildsolve/infer/FreshOrdinaryPinLaw", "check", "(Lcom/example/wildsolve/wildsolve/solver/Placeholder;IZ)Z"⟩ : MethodName)) X347 hx hZ hown (hw _ (List.mem_of_getElem? (i := 36) rfl)) (hw _ (List.mem_of_getElem? (i := 37) rfl)) (hw _ (List.mem_of_getElem? (i := 11) rfl)) (hw _ (List.mem_of_getElem? (i := 38) rfl)) (by decide) (rmCk20 l Z a0 hw r297 T321.heap n0 Z343 F339 F340 F341) e350 [(.ref r297), (.int (2 : Int32)), (.int (0 : Int32))] [] rfl rfl (by rw [hml]; rfl) (lenOf own_pd__Lcom_example_wildsolve_wildsolve_solver_Placeholder_IZ_Z rfl) 0 (Nat.le_of_eq rfl) (by decide) (by decide) (by decide) (by decide) (hb hby at_108) ?_
          intro v352 T353 L354 X355 q356
          obtain ⟨rfl, N357, e358⟩ := q356
          have N359 := Fr.app N351 N357
          show OGoalW p e below s _ _ _ (T353.setTop (mkF m 111 #[.val (.int p1), .val (.int (0 : Int32)), .val (.int (0 : Int32)), .val (.int (1 : Int32)), .val (.int (0 : Int32)), .val (.ref a262), .val (.ref r278), .val (.ref r297), .val (.ref r319)] [(.int (1 : Int32))]))
          refine OGoalW.mp (S' := (T353.setTop (mkF m 114 #[.val (.int p1), .val (.int (0 : Int32)), .val (.int (0 : Int32)), .val (.int (1 : Int32)), .val (.int (0 : Int32)), .val (.ref a262), .val (.ref r278), .val (.ref r297), .val (.ref r319)] []))) (fun _ k => XS.ifNo X355.here hx rfl (hb hby at_111) rfl (XT.i0_eq_f (by decide)) k) ?_
          refine OGoalW.mp (S' := (T353.setTop (mkF m 116 #[.val (.int p1), .val (.int (0 : Int32)), .val (.int (0 : Int32)), .val (.int (1 : Int32)), .val (.int (0 : Int32)), .val (.ref a262), .val (.ref r278), .val (.ref r297), .val (.ref r319)] [(.ref r319)]))) (fun _ k => XS.aload X355.here hx rfl (hb hby at_114) rfl rfl k) ?_
          refine OGoalW.mp (S' := (T353.setTop (mkF m 117 #[.val (.int p1), .val (.int (0 : Int32)), .val (.int (0 : Int32)), .val (.int (1 : Int32)), .val (.int (0 : Int32)), .val (.ref a262), .val (.ref r278), .val (.ref r297), .val (.ref r319)] [(.int (3 : Int32)), (.ref r319)]))) (fun _ k => XS.iconst X355.here hx rfl (hb hby at_116) k) ?_
          refine OGoalW.mp (S' := (T353.setTop (mkF m 118 #[.val (.int p1), .val (.int (0 : Int32)), .val (.int (0 : Int32)), .val (.int (1 : Int32)), .val (.int (0 : Int32)), .val (.ref a262), .val (.ref r278), .val (.ref r297), .val (.ref r319)] [(.int (1 : Int32)), (.int (3 : Int32)), (.ref r319)]))) (fun _ k => XS.iloadN X355.here hx rfl (hb hby at_117) rfl k) ?_
          refine oCallSW (y := (⟨"com/example/wildsolve/wildsolve/infer/FreshOrdinaryPinLaw", "check", "(Lcom/example/wildsolve/wildsolve/solver/Placeholder;IZ)Z"⟩ : MethodName)) X355 hx hZ hown (hw _ (List.mem_of_getElem? (i := 36) rfl)) (hw _ (List.mem_of_getElem? (i := 37) rfl)) (hw _ (List.mem_of_getElem? (i := 11) rfl)) (hw _ (List.mem_of_getElem? (i := 38) rfl)) (by decide) (rmCk31 l Z a0 hw r319 T321.heap n0 Z343 E328 F329 F330) e358 [(.ref r319), (.int (3 : Int32)), (.int (1 : Int32))] [] rfl rfl (by rw [hml]; rfl) (lenOf own_pd__Lcom_example_wildsolve_wildsolve_solver_Placeholder_IZ_Z rfl) 0 (Nat.le_of_eq rfl) (by decide) (by decide) (by decide) (by decide) (hb hby at_118) ?_
          intro v360 T361 L362 X363 q364
          obtain ⟨rfl, N365, e366⟩ := q364
          have N367 := Fr.app N359 N365
          show OGoalW p e below s _ _ _ (T361.setTop (mkF m 121 #[.val (.int p1), .val (.int (0 : Int32)), .val (.int (0 : Int32)), .val (.int (1 : Int32)), .val (.int (0 : Int32)), .val (.ref a262), .val (.ref r278), .val (.ref r297), .val (.ref r319)] [(.int (1 : Int32))]))
          refine OGoalW.mp (S' := (T361.setTop (mkF m 124 #[.val (.int p1), .val (.int (0 : Int32)), .val (.int (0 : Int32)), .val (.int (1 : Int32)), .val (.int (0 : Int32)), .val (.ref a262), .val (.ref r278), .val (.ref r297), .val (.ref r319)] []))) (fun _ k => XS.ifNo X363.here hx rfl (hb hby at_121) rfl (XT.i0_eq_f (by decide)) k) ?_
          refine OGoalW.mp (S' := (T361.setTop (mkF m 125 #[.val (.int p1), .val (.int (0 : Int32)), .val (.int (0 : Int32)), .val (.int (1 : Int32)), .val (.int (0 : Int32)), .val (.ref a262), .val (.ref r278), .val (.ref r297), .val (.ref r319)] [(.int (1 : Int32))]))) (fun _ k => XS.iconst X363.here hx rfl (hb hby at_124) k) ?_
          refine OGoalW.mp (S' := (T361.setTop (mkF m 129 #[.val (.int p1), .val (.int (0 : Int32)), .val (.int (0 : Int32)), .val (.int (1 : Int32)), .val (.int (0 : Int32)), .val (.ref a262), .val (.ref r278), .val (.ref r297), .val (.ref r319)] [(.int (1 : Int32))]))) (fun _ k => XS.goto X363.here hx rfl (pc0 := 125) (pc' := 129) rfl (hb hby at_125) (by decide) (by decide) k) ?_
          refine oRetZW X363 hS0 (Nat.le_trans (Nat.le_trans (Nat.le_trans (Nat.le_trans (Nat.le_trans (Nat.le_of_eq (congrArg Array.size hsh)) E259.1) K285.1) K304.1) K326.1) (Nat.le_of_eq (congrArg Array.size e366).symm)) hx hlk hret (Or.inr rfl) (hb hby at_129) ?_ (by decide) (by decide)
          exact ⟨rfl, N367⟩
        · refine OGoalW.mp (S' := (s₁.setTop (mkF m 43 #[.val (.int p1), .val (.int (0 : Int32)), .val (.int (0 : Int32)), .val (.int (1 : Int32)), .unset, .unset, .unset, .unset, .unset] []))) (fun _ k => XS.ifNo X0.here hx rfl (hb hby at_40) rfl (XT.i0_eq_f hc253) k) ?_
          refine OGoalW.mp (S' := (s₁.setTop (mkF m 44 #[.val (.int p1), .val (.int (0 : Int32)), .val (.int (0 : Int32)), .val (.int (1 : Int32)), .unset, .unset, .unset, .unset, .unset] [(.int (1 : Int32))]))) (fun _ k => XS.iconst X0.here hx rfl (hb hby at_43) k) ?_
          refine OGoalW.mp (S' := (s₁.setTop (mkF m 48 #[.val (.int p1), .val (.int (0 : Int32)), .val (.int (0 : Int32)), .val (.int (1 : Int32)), .unset, .unset, .unset, .unset, .unset] [(.int (1 : Int32))]))) (fun _ k => XS.goto X0.here hx rfl (pc0 := 44) (pc' := 48) rfl (hb hby at_44) (by decide) (by decide) k) ?_
          refine OGoalW.mp (S' := (s₁.setTop (mkF m 50 #[.val (.int p1), .val (.int (0 : Int32)), .val (.int (0 : Int32)), .val (.int (1 : Int32)), .val (.int (1 : Int32)), .unset, .unset, .unset, .unset] []))) (fun _ k => XS.istore X0.here hx rfl (hb hby at_48) rfl (l' := #[.val (.int p1), .val (.int (0 : Int32)), .val (.int (0 : Int32)), .val (.int (1 : Int32)), .val (.int (1 : Int32)), .unset, .unset, .unset, .unset]) rfl k) ?_
          obtain ⟨T368, h372, X369, e370, E373, A374, D375, -, st371⟩ := newO X0 hx hZ hown (hw _ (List.mem_of_getElem? (i := 0) rfl)) (hw _ (List.mem_of_getElem? (i := 1) rfl)) (hw _ (List.mem_of_getElem? (i := 2) rfl)) e0 (g := mkF m 50 #[.val (.int p1), .val (.int (0 : Int32)), .val (.int (0 : Int32)), .val (.int (1 : Int32)), .val (.int (1 : Int32)), .unset, .unset, .unset, .unset] []) rfl (hb hby at_50) (by decide) (by decide)
          obtain ⟨a376, g377⟩ : ∃ z, z = h0.size := ⟨_, rfl⟩
          rw [← g377] at A374 D375 st371
          have fr378 : h0.size ≤ a376 := by rw [g377]; exact (Keep.refl h0 []).1
          have K379 : Keep h0 h372 [] := (Keep.refl h0 []).ext E373
          have F380 : Fld Z h372 a376 "com/example/wildsolve/wildsolve/infer/Fresh" "placeholders" "I" (.int (0 : Int32)) := D375 (Or.inl (hw _ (List.mem_of_getElem? (i := 22) rfl))) (ty := .int) (by decide)
          have F381 : Fld Z h372 a376 "com/example/wildsolve/wildsolve/infer/Fresh" "variables" "I" (.int (0 : Int32)) := D375 (Or.inl (hw _ (List.mem_of_getElem? (i := 136) rfl))) (ty := .int) (by decide)
          have Z382 : n0 ≤ h372.size := Nat.le_trans Z0 E373.1
          have ab383 : n0 ≤ a376 := Nat.le_trans Z0 (Nat.le_of_eq g377.symm)
          refine OGoalW.mp (S' := (T368.setTop (mkF m 53 #[.val (.int p1), .val (.int (0 : Int32)), .val (.int (0 : Int32)), .val (.int (1 : Int32)), .val (.int (1 : Int32)), .unset, .unset, .unset, .unset] [(.ref a376)]))) (fun _ k => st371 _ k) ?_
          refine OGoalW.mp (S' := (T368.setTop (mkF m 54 #[.val (.int p1), .val (.int (0 : Int32)), .val (.int (0 : Int32)), .val (.int (1 : Int32)), .val (.int (1 : Int32)), .unset, .unset, .unset, .unset] [(.ref a376), (.ref a376)]))) (fun _ k => XS.dup X369.here hx rfl (hb hby at_53) rfl rfl k) ?_
          refine oCallNW (y := (⟨"com/example/wildsolve/wildsolve/infer/Fresh", "<init>", "()V"⟩ : MethodName)) X369 hx hZ rfl hown (hw _ (List.mem_of_getElem? (i := 3) rfl)) (hw _ (List.mem_of_getElem? (i := 4) rfl)) (hw _ (List.mem_of_getElem? (i := 2) rfl)) (hw _ (List.mem_of_getElem? (i := 5) rfl)) (by decide) (rmFI l Z a0 hw a376 h372 n0 Z382) e370 [] [(.ref a376)] rfl rfl (by rw [hml]; rfl) (lenOf own_pd___V rfl) 1 (Nat.le_of_eq rfl) (by decide) (by decide) (by decide) (by decide) (hb hby at_54) ?_
          intro v384 T385 L386 X387 q388
          obtain ⟨rfl, N389, e390⟩ := q388
          have N391 := Fr.app (Fr.nil n0) N389
          show OGoalW p e below s _ _ _ (T385.setTop (mkF m 57 #[.val (.int p1), .val (.int (0 : Int32)), .val (.int (0 : Int32)), .val (.int (1 : Int32)), .val (.int (1 : Int32)), .unset, .unset, .unset, .unset] [(.ref a376)]))
          refine OGoalW.mp (S' := (T385.setTop (mkF m 59 #[.val (.int p1), .val (.int (0 : Int32)), .val (.int (0 : Int32)), .val (.int (1 : Int32)), .val (.int (1 : Int32)), .val (.ref a376), .unset, .unset, .unset] []))) (fun _ k => XS.astore X387.here hx rfl (hb hby at_57) rfl rfl (l' := #[.val (.int p1), .val (.int (0 : Int32)), .val (.int (0 : Int32)), .val (.int (1 : Int32)), .val (.int (1 : Int32)), .val (.ref a376), .unset, .unset, .unset]) rfl k) ?_
          refine OGoalW.mp (S' := (T385.setTop (mkF m 61 #[.val (.int p1), .val (.int (0 : Int32)), .val (.int (0 : Int32)), .val (.int (1 : Int32)), .val (.int (1 : Int32)), .val (.ref a376), .unset, .unset, .unset] [(.ref a376)]))) (fun _ k => XS.aload X387.here hx rfl (hb hby at_59) rfl rfl k) ?_
          refine OGoalW.mp (S' := (T385.setTop (mkF m 62 #[.val (.int p1), .val (.int (0 : Int32)), .val (.int (0 : Int32)), .val (.int (1 : Int32)), .val (.int (1 : Int32)), .val (.ref a376), .unset, .unset, .unset] [(.int (0 : Int32)), (.ref a376)]))) (fun _ k => XS.iloadN X387.here hx rfl (hb hby at_61) rfl k) ?_
          refine oCallSW (y := (⟨"com/example/wildsolve/wildsolve/infer/FreshOrdinaryPinLaw", "step", "(Lcom/example/wildsolve/wildsolve/infer/Fresh;Z)Lcom/example/wildsolve/wildsolve/solver/Placeholder;"⟩ : MethodName)) X387 hx hZ hown (hw _ (List.mem_of_getElem? (i := 9) rfl)) (hw _ (List.mem_of_getElem? (i := 10) rfl)) (hw _ (List.mem_of_getElem? (i := 11) rfl)) (hw _ (List.mem_of_getElem? (i := 12) rfl)) (by decide) (rmSt0 l Z a0 hw a376 h372 n0 Z382 (0 : Int32) (1 : Int32) (0 : Int32) (by decide) A374 F380 F381 ab383) e390 [(.ref a376), (.int (0 : Int32))] [] rfl rfl (by rw [hml]; rfl) (lenOf own_pd__Lcom_example_wildsolve_wildsolve_infer_Fresh_Z_Lcom_example_wildsolve_wildsolve_solver_Placeholder_ rfl) 0 (Nat.le_of_eq rfl) (by decide) (by decide) (by decide) (by decide) (hb hby at_62) ?_
          intro v393 T394 L395 X396 q397
          obtain ⟨r392, rfl, N398, K399, hr400, E401, F402, F403, E404, F405, F406⟩ := q397
          have N407 := Fr.app N391 N398
          have lt408 : a376 < r392 := Nat.lt_of_lt_of_le A374.lt hr400
          have K409 : Keep h0 T394.heap [] := K379.trans K399 (allS (Or.inr fr378) all0)
          have Z410 : n0 ≤ T394.heap.size := Nat.le_trans Z382 K399.1
          show OGoalW p e below s _ _ _ (T394.setTop (mkF m 65 #[.val (.int p1), .val (.int (0 : Int32)), .val (.int (0 : Int32)), .val (.int (1 : Int32)), .val (.int (1 : Int32)), .val (.ref a376), .unset, .unset, .unset] [(.ref r392)]))
          refine OGoalW.mp (S' := (T394.setTop (mkF m 67 #[.val (.int p1), .val (.int (0 : Int32)), .val (.int (0 : Int32)), .val (.int (1 : Int32)), .val (.int (1 : Int32)), .val (.ref a376), .val (.ref r392), .unset, .unset] []))) (fun _ k => XS.astore X396.here hx rfl (hb hby at_65) rfl rfl (l' := #[.val (.int p1), .val (.int (0 : Int32)), .val (.int (0 : Int32)), .val (.int (1 : Int32)), .val (.int (1 : Int32)), .val (.ref a376), .val (.ref r392), .unset, .unset]) rfl k) ?_
          refine OGoalW.mp (S' := (T394.setTop (mkF m 69 #[.val (.int p1), .val (.int (0 : Int32)), .val (.int (0 : Int32)), .val (.int (1 : Int32)), .val (.int (1 : Int32)), .val (.ref a376), .val (.ref r392), .unset, .unset] [(.int (1 : Int32))]))) (fun _ k => XS.iload X396.here hx rfl (hb hby at_67) rfl k) ?_
          refine OGoalW.mp (S' := (T394.setTop (mkF m 72 #[.val (.int p1), .val (.int (0 : Int32)), .val (.int (0 : Int32)), .val (.int (1 : Int32)), .val (.int (1 : Int32)), .val (.ref a376), .val (.ref r392), .unset, .unset] []))) (fun _ k => XS.ifNo X396.here hx rfl (hb hby at_69) rfl (XT.i0_eq_f (by decide)) k) ?_
          refine OGoalW.mp (S' := (T394.setTop (mkF m 74 #[.val (.int p1), .val (.int (0 : Int32)), .val (.int (0 : Int32)), .val (.int (1 : Int32)), .val (.int (1 : Int32)), .val (.ref a376), .val (.ref r392), .unset, .unset] [(.ref a376)]))) (fun _ k => XS.aload X396.here hx rfl (hb hby at_72) rfl rfl k) ?_
          have nd412 : dg ≠ a376 := Nat.ne_of_lt (Nat.lt_of_lt_of_le Adg.lt fr378)
          refine oCallVS (y := (⟨"com/example/wildsolve/wildsolve/infer/Fresh", "variable", "()Ljava/lang/String;"⟩ : MethodName)) (z := (⟨"com/example/wildsolve/wildsolve/infer/Fresh", "variable", "()Ljava/lang/String;"⟩ : MethodName)) X396 hx hS0 (Nat.le_trans (Nat.le_trans (Nat.le_trans (Nat.le_of_eq (congrArg Array.size hsh)) E373.1) K399.1) (Nat.le_of_eq (congrArg Array.size rfl).symm)) hI hZ hown (hw _ (List.mem_of_getElem? (i := 54) rfl)) (hw _ (List.mem_of_getElem? (i := 55) rfl)) (hw _ (List.mem_of_getElem? (i := 57) rfl)) (hw _ (List.mem_of_getElem? (i := 56) rfl)) (hw _ (List.mem_of_getElem? (i := 2) rfl)) (hw _ (List.mem_of_getElem? (i := 58) rfl)) (by decide) (rmVa l Z a0 hw a376 T394.heap n0 Z410 (1 : Int32) cs hcs (Sta.ext (oKext K409) Scs) dg (Sta.ext (oKext K409) Sdg) df (Adg.ext (oKext K409)) xd hdf hxd nd412 E404 F406 F405 ab383 (fun b cl q => K409.2.1 b cl (hkp b cl q) nin0) hcw hch) rfl E404 [] [] rfl rfl (by rw [hml]; rfl) (notFace_of_selects (args := #[]) (mvT hZ (hw _ (List.mem_of_getElem? (i := 57) rfl)))) (lenOf own_pd___Ljava_lang_String_ rfl) 0 (Nat.le_of_eq rfl) (by decide) (by decide) (by decide) (by decide) (hb hby at_74) ?_
          intro v413 T414 L415 X416 hS418 hg419 hZ hown q417
          obtain ⟨r411, rfl, N420, K421, E422, F423, F424⟩ := q417
          have N425 := Fr.app N407 N420
          have F426 := E401.keep K421
          have F427 := F402.keep K421 (ninS (Nat.ne_of_gt lt408) nin0)
          have F428 := F403.keep K421 (ninS (Nat.ne_of_gt lt408) nin0)
          have K429 : Keep h0 T414.heap [] := K409.trans K421 (allS (Or.inr fr378) all0)
          have Z430 : n0 ≤ T414.heap.size := Nat.le_trans Z410 K421.1
          show OGoalW p e below s _ _ _ (T414.setTop (mkF m 77 #[.val (.int p1), .val (.int (0 : Int32)), .val (.int (0 : Int32)), .val (.int (1 : Int32)), .val (.int (1 : Int32)), .val (.ref a376), .val (.ref r392), .unset, .unset] [(.ref r411)]))
          refine OGoalW.mp (S' := (T414.setTop (mkF m 78 #[.val (.int p1), .val (.int (0 : Int32)), .val (.int (0 : Int32)), .val (.int (1 : Int32)), .val (.int (1 : Int32)), .val (.ref a376), .val (.ref r392), .unset, .unset] []))) (fun _ k => XT.pop X416.here hx rfl (hb hby at_77) rfl rfl k) ?_
          refine OGoalW.mp (S' := (T414.setTop (mkF m 80 #[.val (.int p1), .val (.int (0 : Int32)), .val (.int (0 : Int32)), .val (.int (1 : Int32)), .val (.int (1 : Int32)), .val (.ref a376), .val (.ref r392), .unset, .unset] [(.ref a376)]))) (fun _ k => XS.aload X416.here hx rfl (hb hby at_78) rfl rfl k) ?_
          refine OGoalW.mp (S' := (T414.setTop (mkF m 81 #[.val (.int p1), .val (.int (0 : Int32)), .val (.int (0 : Int32)), .val (.int (1 : Int32)), .val (.int (1 : Int32)), .val (.ref a376), .val (.ref r392), .unset, .unset] [(.int (0 : Int32)), (.ref a376)]))) (fun _ k => XS.iloadN X416.here hx rfl (hb hby at_80) rfl k) ?_
          refine oCallSW (y := (⟨"com/example/wildsolve/wildsolve/infer/FreshOrdinaryPinLaw", "step", "(Lcom/example/wildsolve/wildsolve/infer/Fresh;Z)Lcom/example/wildsolve/wildsolve/solver/Placeholder;"⟩ : MethodName)) X416 hx hZ hown (hw _ (List.mem_of_getElem? (i := 9) rfl)) (hw _ (List.mem_of_getElem? (i := 10) rfl)) (hw _ (List.mem_of_getElem? (i := 11) rfl)) (hw _ (List.mem_of_getElem? (i := 12) rfl)) (by decide) (rmSt0 l Z a0 hw a376 T414.heap n0 Z430 (1 : Int32) (2 : Int32) (1 : Int32) (by decide) E422 F423 F424 ab383) rfl [(.ref a376), (.int (0 : Int32))] [] rfl rfl (by rw [hml]; rfl) (lenOf own_pd__Lcom_example_wildsolve_wildsolve_infer_Fresh_Z_Lcom_example_wildsolve_wildsolve_solver_Placeholder_ rfl) 0 (Nat.le_of_eq rfl) (by decide) (by decide) (by decide) (by decide) (hb hby at_81) ?_
          intro v432 T433 L434 X435 q436
          obtain ⟨r431, rfl, N437, K438, hr439, E440, F441, F442, E443, F444, F445⟩ := q436
          have N446 := Fr.app N425 N437
          have lt447 : a376 < r431 := Nat.lt_of_lt_of_le E422.lt hr439
          have F448 := F426.keep K438
          have F449 := F427.keep K438 (ninS (Nat.ne_of_gt lt408) nin0)
          have F450 := F428.keep K438 (ninS (Nat.ne_of_gt lt408) nin0)
          have K451 : Keep h0 T433.heap [] := K429.trans K438 (allS (Or.inr fr378) all0)
          have Z452 : n0 ≤ T433.heap.size := Nat.le_trans Z430 K438.1
          show OGoalW p e below s _ _ _ (T433.setTop (mkF m 84 #[.val (.int p1), .val (.int (0 : Int32)), .val (.int (0 : Int32)), .val (.int (1 : Int32)), .val (.int (1 : Int32)), .val (.ref a376), .val (.ref r392), .unset, .unset] [(.ref r431)]))
          refine OGoalW.mp (S' := (T433.setTop (mkF m 86 #[.val (.int p1), .val (.int (0 : Int32)), .val (.int (0 : Int32)), .val (.int (1 : Int32)), .val (.int (1 : Int32)), .val (.ref a376), .val (.ref r392), .val (.ref r431), .unset] []))) (fun _ k => XS.astore X435.here hx rfl (hb hby at_84) rfl rfl (l' := #[.val (.int p1), .val (.int (0 : Int32)), .val (.int (0 : Int32)), .val (.int (1 : Int32)), .val (.int (1 : Int32)), .val (.ref a376), .val (.ref r392), .val (.ref r431), .unset]) rfl k) ?_
          refine OGoalW.mp (S' := (T433.setTop (mkF m 88 #[.val (.int p1), .val (.int (0 : Int32)), .val (.int (0 : Int32)), .val (.int (1 : Int32)), .val (.int (1 : Int32)), .val (.ref a376), .val (.ref r392), .val (.ref r431), .unset] [(.ref a376)]))) (fun _ k => XS.aload X435.here hx rfl (hb hby at_86) rfl rfl k) ?_
          refine OGoalW.mp (S' := (T433.setTop (mkF m 89 #[.val (.int p1), .val (.int (0 : Int32)), .val (.int (0 : Int32)), .val (.int (1 : Int32)), .val (.int (1 : Int32)), .val (.ref a376), .val (.ref r392), .val (.ref r431), .unset] [(.int (1 : Int32)), (.ref a376)]))) (fun _ k => XS.iloadN X435.here hx rfl (hb hby at_88) rfl k) ?_
          refine oCallSW (y := (⟨"com/example/wildsolve/wildsolve/infer/FreshOrdinaryPinLaw", "step", "(Lcom/example/wildsolve/wildsolve/infer/Fresh;Z)Lcom/example/wildsolve/wildsolve/solver/Placeholder;"⟩ : MethodName)) X435 hx hZ hown (hw _ (List.mem_of_getElem? (i := 9) rfl)) (hw _ (List.mem_of_getElem? (i := 10) rfl)) (hw _ (List.mem_of_getElem? (i := 11) rfl)) (hw _ (List.mem_of_getElem? (i := 12) rfl)) (by decide) (rmSt1 l Z a0 hw a376 T433.heap n0 Z452 (2 : Int32) (3 : Int32) (1 : Int32) (by decide) E443 F444 F445 ab383) rfl [(.ref a376), (.int (1 : Int32))] [] rfl rfl (by rw [hml]; rfl) (lenOf own_pd__Lcom_example_wildsolve_wildsolve_infer_Fresh_Z_Lcom_example_wildsolve_wildsolve_solver_Placeholder_ rfl) 0 (Nat.le_of_eq rfl) (by decide) (by decide) (by decide) (by decide) (hb hby at_89) ?_
          intro v454 T455 L456 X457 q458
          obtain ⟨r453, rfl, N459, K460, hr461, E462, F463, F464, E465, F466, F467⟩ := q458
          have N468 := Fr.app N446 N459
          have lt469 : a376 < r453 := Nat.lt_of_lt_of_le E443.lt hr461
          have F470 := F448.keep K460
          have F471 := F449.keep K460 (ninS (Nat.ne_of_gt lt408) nin0)
          have F472 := F450.keep K460 (ninS (Nat.ne_of_gt lt408) nin0)
          have F473 := E440.keep K460
          have F474 := F441.keep K460 (ninS (Nat.ne_of_gt lt447) nin0)
          have F475 := F442.keep K460 (ninS (Nat.ne_of_gt lt447) nin0)
          have K476 : Keep h0 T455.heap [] := K451.trans K460 (allS (Or.inr fr378) all0)
          have Z477 : n0 ≤ T455.heap.size := Nat.le_trans Z452 K460.1
          show OGoalW p e below s _ _ _ (T455.setTop (mkF m 92 #[.val (.int p1), .val (.int (0 : Int32)), .val (.int (0 : Int32)), .val (.int (1 : Int32)), .val (.int (1 : Int32)), .val (.ref a376), .val (.ref r392), .val (.ref r431), .unset] [(.ref r453)]))
          refine OGoalW.mp (S' := (T455.setTop (mkF m 94 #[.val (.int p1), .val (.int (0 : Int32)), .val (.int (0 : Int32)), .val (.int (1 : Int32)), .val (.int (1 : Int32)), .val (.ref a376), .val (.ref r392), .val (.ref r431), .val (.ref r453)] []))) (fun _ k => XS.astore X457.here hx rfl (hb hby at_92) rfl rfl (l' := #[.val (.int p1), .val (.int (0 : Int32)), .val (.int (0 : Int32)), .val (.int (1 : Int32)), .val (.int (1 : Int32)), .val (.ref a376), .val (.ref r392), .val (.ref r431), .val (.ref r453)]) rfl k) ?_
          refine OGoalW.mp (S' := (T455.setTop (mkF m 96 #[.val (.int p1), .val (.int (0 : Int32)), .val (.int (0 : Int32)), .val (.int (1 : Int32)), .val (.int (1 : Int32)), .val (.ref a376), .val (.ref r392), .val (.ref r431), .val (.ref r453)] [(.ref r392)]))) (fun _ k => XS.aload X457.here hx rfl (hb hby at_94) rfl rfl k) ?_
          refine OGoalW.mp (S' := (T455.setTop (mkF m 97 #[.val (.int p1), .val (.int (0 : Int32)), .val (.int (0 : Int32)), .val (.int (1 : Int32)), .val (.int (1 : Int32)), .val (.ref a376), .val (.ref r392), .val (.ref r431), .val (.ref r453)] [(.int (1 : Int32)), (.ref r392)]))) (fun _ k => XS.iconst X457.here hx rfl (hb hby at_96) k) ?_
          refine OGoalW.mp (S' := (T455.setTop (mkF m 98 #[.val (.int p1), .val (.int (0 : Int32)), .val (.int (0 : Int32)), .val (.int (1 : Int32)), .val (.int (1 : Int32)), .val (.ref a376), .val (.ref r392), .val (.ref r431), .val (.ref r453)] [(.int (0 : Int32)), (.int (1 : Int32)), (.ref r392)]))) (fun _ k => XS.iloadN X457.here hx rfl (hb hby at_97) rfl k) ?_
          refine oCallSW (y := (⟨"com/example/wildsolve/wildsolve/infer/FreshOrdinaryPinLaw", "check", "(Lcom/example/wildsolve/wildsolve/solver/Placeholder;IZ)Z"⟩ : MethodName)) X457 hx hZ hown (hw _ (List.mem_of_getElem? (i := 36) rfl)) (hw _ (List.mem_of_getElem? (i := 37) rfl)) (hw _ (List.mem_of_getElem? (i := 11) rfl)) (hw _ (List.mem_of_getElem? (i := 38) rfl)) (by decide) (rmCk10 l Z a0 hw r392 T455.heap n0 Z477 F470 F471 F472) rfl [(.ref r392), (.int (1 : Int32)), (.int (0 : Int32))] [] rfl rfl (by rw [hml]; rfl) (lenOf own_pd__Lcom_example_wildsolve_wildsolve_solver_Placeholder_IZ_Z rfl) 0 (Nat.le_of_eq rfl) (by decide) (by decide) (by decide) (by decide) (hb hby at_98) ?_
          intro v478 T479 L480 X481 q482
          obtain ⟨rfl, N483, e484⟩ := q482
          have N485 := Fr.app N468 N483
          show OGoalW p e below s _ _ _ (T479.setTop (mkF m 101 #[.val (.int p1), .val (.int (0 : Int32)), .val (.int (0 : Int32)), .val (.int (1 : Int32)), .val (.int (1 : Int32)), .val (.ref a376), .val (.ref r392), .val (.ref r431), .val (.ref r453)] [(.int (1 : Int32))]))
          refine OGoalW.mp (S' := (T479.setTop (mkF m 104 #[.val (.int p1), .val (.int (0 : Int32)), .val (.int (0 : Int32)), .val (.int (1 : Int32)), .val (.int (1 : Int32)), .val (.ref a376), .val (.ref r392), .val (.ref r431), .val (.ref r453)] []))) (fun _ k => XS.ifNo X481.here hx rfl (hb hby at_101) rfl (XT.i0_eq_f (by decide)) k) ?_
          refine OGoalW.mp (S' := (T479.setTop (mkF m 106 #[.val (.int p1), .val (.int (0 : Int32)), .val (.int (0 : Int32)), .val (.int (1 : Int32)), .val (.int (1 : Int32)), .val (.ref a376), .val (.ref r392), .val (.ref r431), .val (.ref r453)] [(.ref r431)]))) (fun _ k => XS.aload X481.here hx rfl (hb hby at_104) rfl rfl k) ?_
          refine OGoalW.mp (S' := (T479.setTop (mkF m 107 #[.val (.int p1), .val (.int (0 : Int32)), .val (.int (0 : Int32)), .val (.int (1 : Int32)), .val (.int (1 : Int32)), .val (.ref a376), .val (.ref r392), .val (.ref r431), .val (.ref r453)] [(.int (2 : Int32)), (.ref r431)]))) (fun _ k => XS.iconst X481.here hx rfl (hb hby at_106) k) ?_
          refine OGoalW.mp (S' := (T479.setTop (mkF m 108 #[.val (.int p1), .val (.int (0 : Int32)), .val (.int (0 : Int32)), .val (.int (1 : Int32)), .val (.int (1 : Int32)), .val (.ref a376), .val (.ref r392), .val (.ref r431), .val (.ref r453)] [(.int (0 : Int32)), (.int (2 : Int32)), (.ref r431)]))) (fun _ k => XS.iloadN X481.here hx rfl (hb hby at_107) rfl k) ?_
          refine oCallSW (y := (⟨"com/example/wildsolve/wildsolve/infer/FreshOrdinaryPinLaw", "check", "(Lcom/example/wildsolve/wildsolve/solver/Placeholder;IZ)Z"⟩ : MethodName)) X481 hx hZ hown (hw _ (List.mem_of_getElem? (i := 36) rfl)) (hw _ (List.mem_of_getElem? (i := 37) rfl)) (hw _ (List.mem_of_getElem? (i := 11) rfl)) (hw _ (List.mem_of_getElem? (i := 38) rfl)) (by decide) (rmCk20 l Z a0 hw r431 T455.heap n0 Z477 F473 F474 F475) e484 [(.ref r431), (.int (2 : Int32)), (.int (0 : Int32))] [] rfl rfl (by rw [hml]; rfl) (lenOf own_pd__Lcom_example_wildsolve_wildsolve_solver_Placeholder_IZ_Z rfl) 0 (Nat.le_of_eq rfl) (by decide) (by decide) (by decide) (by decide) (hb hby at_108) ?_
          intro v486 T487 L488 X489 q490
          obtain ⟨rfl, N491, e492⟩ := q490
          have N493 := Fr.app N485 N491
          show OGoalW p e below s _ _ _ (T487.setTop (mkF m 111 #[.val (.int p1), .val (.int (0 : Int32)), .val (.int (0 : Int32)), .val (.int (1 : Int32)), .val (.int (1 : Int32)), .val (.ref a376), .val (.ref r392), .val (.ref r431), .val (.ref r453)] [(.int (1 : Int32))]))
          refine OGoalW.mp (S' := (T487.setTop (mkF m 114 #[.val (.int p1), .val (.int (0 : Int32)), .val (.int (0 : Int32)), .val (.int (1 : Int32)), .val (.int (1 : Int32)), .val (.ref a376), .val (.ref r392), .val (.ref r431), .val (.ref r453)] []))) (fun _ k => XS.ifNo X489.here hx rfl (hb hby at_111) rfl (XT.i0_eq_f (by decide)) k) ?_
          refine OGoalW.mp (S' := (T487.setTop (mkF m 116 #[.val (.int p1), .val (.int (0 : Int32)), .val (.int (0 : Int32)), .val (.int (1 : Int32)), .val (.int (1 : Int32)), .val (.ref a376), .val (.ref r392), .val (.ref r431), .val (.ref r453)] [(.ref r453)]))) (fun _ k => XS.aload X489.here hx rfl (hb hby at_114) rfl rfl k) ?_
          refine OGoalW.mp (S' := (T487.setTop (mkF m 117 #[.val (.int p1), .val (.int (0 : Int32)), .val (.int (0 : Int32)), .val (.int (1 : Int32)), .val (.int (1 : Int32)), .val (.ref a376), .val (.ref r392), .val (.ref r431), .val (.ref r453)] [(.int (3 : Int32)), (.ref r453)]))) (fun _ k => XS.iconst X489.here hx rfl (hb hby at_116) k) ?_
          refine OGoalW.mp (S' := (T487.setTop (mkF m 118 #[.val (.int p1), .val (.int (0 : Int32)), .val (.int (0 : Int32)), .val (.int (1 : Int32)), .val (.int (1 : Int32)), .val (.ref a376), .val (.ref r392), .val (.ref r431), .val (.ref r453)] [(.int (1 : Int32)), (.int (3 : Int32)), (.ref r453)]))) (fun _ k => XS.iloadN X489.here hx rfl (hb hby at_117) rfl k) ?_
          refine oCallSW (y := (⟨"com/example/wildsolve/wildsolve/infer/FreshOrdinaryPinLaw", "check", "(Lcom/example/wildsolve/wildsolve/solver/Placeholder;IZ)Z"⟩ : MethodName)) X489 hx hZ hown (hw _ (List.mem_of_getElem? (i := 36) rfl)) (hw _ (List.mem_of_getElem? (i := 37) rfl)) (hw _ (List.mem_of_getElem? (i := 11) rfl)) (hw _ (List.mem_of_getElem? (i := 38) rfl)) (by decide) (rmCk31 l Z a0 hw r453 T455.heap n0 Z477 E462 F463 F464) e492 [(.ref r453), (.int (3 : Int32)), (.int (1 : Int32))] [] rfl rfl (by rw [hml]; rfl) (lenOf own_pd__Lcom_example_wildsolve_wildsolve_solver_Placeholder_IZ_Z rfl) 0 (Nat.le_of_eq rfl) (by decide) (by decide) (by decide) (by decide) (hb hby at_118) ?_
          intro v494 T495 L496 X497 q498
          obtain ⟨rfl, N499, e500⟩ := q498
          have N501 := Fr.app N493 N499
          show OGoalW p e below s _ _ _ (T495.setTop (mkF m 121 #[.val (.int p1), .val (.int (0 : Int32)), .val (.int (0 : Int32)), .val (.int (1 : Int32)), .val (.int (1 : Int32)), .val (.ref a376), .val (.ref r392), .val (.ref r431), .val (.ref r453)] [(.int (1 : Int32))]))
          refine OGoalW.mp (S' := (T495.setTop (mkF m 124 #[.val (.int p1), .val (.int (0 : Int32)), .val (.int (0 : Int32)), .val (.int (1 : Int32)), .val (.int (1 : Int32)), .val (.ref a376), .val (.ref r392), .val (.ref r431), .val (.ref r453)] []))) (fun _ k => XS.ifNo X497.here hx rfl (hb hby at_121) rfl (XT.i0_eq_f (by decide)) k) ?_
          refine OGoalW.mp (S' := (T495.setTop (mkF m 125 #[.val (.int p1), .val (.int (0 : Int32)), .val (.int (0 : Int32)), .val (.int (1 : Int32)), .val (.int (1 : Int32)), .val (.ref a376), .val (.ref r392), .val (.ref r431), .val (.ref r453)] [(.int (1 : Int32))]))) (fun _ k => XS.iconst X497.here hx rfl (hb hby at_124) k) ?_
          refine OGoalW.mp (S' := (T495.setTop (mkF m 129 #[.val (.int p1), .val (.int (0 : Int32)), .val (.int (0 : Int32)), .val (.int (1 : Int32)), .val (.int (1 : Int32)), .val (.ref a376), .val (.ref r392), .val (.ref r431), .val (.ref r453)] [(.int (1 : Int32))]))) (fun _ k => XS.goto X497.here hx rfl (pc0 := 125) (pc' := 129) rfl (hb hby at_125) (by decide) (by decide) k) ?_
          refine oRetZW X497 hS418 (Nat.le_trans (Nat.le_trans (Nat.le_trans (Nat.le_refl _) K438.1) K460.1) (Nat.le_of_eq (congrArg Array.size e500).symm)) hx hlk hret (Or.inr rfl) (hb hby at_129) ?_ (by decide) (by decide)
          exact ⟨rfl, N501⟩
    · refine OGoalW.mp (S' := (s₁.setTop (mkF m 18 #[.val (.int p1), .val (.int (0 : Int32)), .unset, .unset, .unset, .unset, .unset, .unset, .unset] []))) (fun _ k => XS.ifNo X0.here hx rfl (hb hby at_15) rfl (XT.i0_eq_f hc2) k) ?_
      refine OGoalW.mp (S' := (s₁.setTop (mkF m 19 #[.val (.int p1), .val (.int (0 : Int32)), .unset, .unset, .unset, .unset, .unset, .unset, .unset] [(.int (1 : Int32))]))) (fun _ k => XS.iconst X0.here hx rfl (hb hby at_18) k) ?_
      refine OGoalW.mp (S' := (s₁.setTop (mkF m 23 #[.val (.int p1), .val (.int (0 : Int32)), .unset, .unset, .unset, .unset, .unset, .unset, .unset] [(.int (1 : Int32))]))) (fun _ k => XS.goto X0.here hx rfl (pc0 := 19) (pc' := 23) rfl (hb hby at_19) (by decide) (by decide) k) ?_
      refine OGoalW.mp (S' := (s₁.setTop (mkF m 24 #[.val (.int p1), .val (.int (0 : Int32)), .val (.int (1 : Int32)), .unset, .unset, .unset, .unset, .unset, .unset] []))) (fun _ k => XS.istoreN X0.here hx rfl (hb hby at_23) rfl (l' := #[.val (.int p1), .val (.int (0 : Int32)), .val (.int (1 : Int32)), .unset, .unset, .unset, .unset, .unset, .unset]) rfl k) ?_
      refine OGoalW.mp (S' := (s₁.setTop (mkF m 25 #[.val (.int p1), .val (.int (0 : Int32)), .val (.int (1 : Int32)), .unset, .unset, .unset, .unset, .unset, .unset] [(.int p1)]))) (fun _ k => XS.iloadN X0.here hx rfl (hb hby at_24) rfl k) ?_
      refine OGoalW.mp (S' := (s₁.setTop (mkF m 26 #[.val (.int p1), .val (.int (0 : Int32)), .val (.int (1 : Int32)), .unset, .unset, .unset, .unset, .unset, .unset] [(.int (4 : Int32)), (.int p1)]))) (fun _ k => XS.iconst X0.here hx rfl (hb hby at_25) k) ?_
      refine OGoalW.mp (S' := (s₁.setTop (mkF m 27 #[.val (.int p1), .val (.int (0 : Int32)), .val (.int (1 : Int32)), .unset, .unset, .unset, .unset, .unset, .unset] [(.int (p1 &&& (4 : Int32)))]))) (fun _ k => XS.iand X0.here hx rfl (hb hby at_26) rfl k) ?_
      by_cases hc502 : (p1 &&& (4 : Int32)) = 0
      · refine OGoalW.mp (S' := (s₁.setTop (mkF m 34 #[.val (.int p1), .val (.int (0 : Int32)), .val (.int (1 : Int32)), .unset, .unset, .unset, .unset, .unset, .unset] []))) (fun _ k => XS.ifYes X0.here hx rfl (pc0 := 27) (pc' := 34) rfl (hb hby at_27) rfl (XT.i0_eq_t hc502) (by decide) (by decide) k) ?_
        refine OGoalW.mp (S' := (s₁.setTop (mkF m 35 #[.val (.int p1), .val (.int (0 : Int32)), .val (.int (1 : Int32)), .unset, .unset, .unset, .unset, .unset, .unset] [(.int (0 : Int32))]))) (fun _ k => XS.iconst X0.here hx rfl (hb hby at_34) k) ?_
        refine OGoalW.mp (S' := (s₁.setTop (mkF m 36 #[.val (.int p1), .val (.int (0 : Int32)), .val (.int (1 : Int32)), .val (.int (0 : Int32)), .unset, .unset, .unset, .unset, .unset] []))) (fun _ k => XS.istoreN X0.here hx rfl (hb hby at_35) rfl (l' := #[.val (.int p1), .val (.int (0 : Int32)), .val (.int (1 : Int32)), .val (.int (0 : Int32)), .unset, .unset, .unset, .unset, .unset]) rfl k) ?_
        refine OGoalW.mp (S' := (s₁.setTop (mkF m 37 #[.val (.int p1), .val (.int (0 : Int32)), .val (.int (1 : Int32)), .val (.int (0 : Int32)), .unset, .unset, .unset, .unset, .unset] [(.int p1)]))) (fun _ k => XS.iloadN X0.here hx rfl (hb hby at_36) rfl k) ?_
        refine OGoalW.mp (S' := (s₁.setTop (mkF m 39 #[.val (.int p1), .val (.int (0 : Int32)), .val (.int (1 : Int32)), .val (.int (0 : Int32)), .unset, .unset, .unset, .unset, .unset] [(.int (8 : Int32)), (.int p1)]))) (fun _ k => XS.bipush X0.here hx rfl (hb hby at_37) k) ?_
        refine OGoalW.mp (S' := (s₁.setTop (mkF m 40 #[.val (.int p1), .val (.int (0 : Int32)), .val (.int (1 : Int32)), .val (.int (0 : Int32)), .unset, .unset, .unset, .unset, .unset] [(.int (p1 &&& (8 : Int32)))]))) (fun _ k => XS.iand X0.here hx rfl (hb hby at_39) rfl k) ?_
        by_cases hc503 : (p1 &&& (8 : Int32)) = 0
        · refine OGoalW.mp (S' := (s₁.setTop (mkF m 47 #[.val (.int p1), .val (.int (0 : Int32)), .val (.int (1 : Int32)), .val (.int (0 : Int32)), .unset, .unset, .unset, .unset, .unset] []))) (fun _ k => XS.ifYes X0.here hx rfl (pc0 := 40) (pc' := 47) rfl (hb hby at_40) rfl (XT.i0_eq_t hc503) (by decide) (by decide) k) ?_
          refine OGoalW.mp (S' := (s₁.setTop (mkF m 48 #[.val (.int p1), .val (.int (0 : Int32)), .val (.int (1 : Int32)), .val (.int (0 : Int32)), .unset, .unset, .unset, .unset, .unset] [(.int (0 : Int32))]))) (fun _ k => XS.iconst X0.here hx rfl (hb hby at_47) k) ?_
          refine OGoalW.mp (S' := (s₁.setTop (mkF m 50 #[.val (.int p1), .val (.int (0 : Int32)), .val (.int (1 : Int32)), .val (.int (0 : Int32)), .val (.int (0 : Int32)), .unset, .unset, .unset, .unset] []))) (fun _ k => XS.istore X0.here hx rfl (hb hby at_48) rfl (l' := #[.val (.int p1), .val (.int (0 : Int32)), .val (.int (1 : Int32)), .val (.int (0 : Int32)), .val (.int (0 : Int32)), .unset, .unset, .unset, .unset]) rfl k) ?_
          obtain ⟨T504, h508, X505, e506, E509, A510, D511, -, st507⟩ := newO X0 hx hZ hown (hw _ (List.mem_of_getElem? (i := 0) rfl)) (hw _ (List.mem_of_getElem? (i := 1) rfl)) (hw _ (List.mem_of_getElem? (i := 2) rfl)) e0 (g := mkF m 50 #[.val (.int p1), .val (.int (0 : Int32)), .val (.int (1 : Int32)), .val (.int (0 : Int32)), .val (.int (0 : Int32)), .unset, .unset, .unset, .unset] []) rfl (hb hby at_50) (by decide) (by decide)
          obtain ⟨a512, g513⟩ : ∃ z, z = h0.size := ⟨_, rfl⟩
          rw [← g513] at A510 D511 st507
          have fr514 : h0.size ≤ a512 := by rw [g513]; exact (Keep.refl h0 []).1
          have K515 : Keep h0 h508 [] := (Keep.refl h0 []).ext E509
          have F516 : Fld Z h508 a512 "com/example/wildsolve/wildsolve/infer/Fresh" "placeholders" "I" (.int (0 : Int32)) := D511 (Or.inl (hw _ (List.mem_of_getElem? (i := 22) rfl))) (ty := .int) (by decide)
          have F517 : Fld Z h508 a512 "com/example/wildsolve/wildsolve/infer/Fresh" "variables" "I" (.int (0 : Int32)) := D511 (Or.inl (hw _ (List.mem_of_getElem? (i := 136) rfl))) (ty := .int) (by decide)
          have Z518 : n0 ≤ h508.size := Nat.le_trans Z0 E509.1
          have ab519 : n0 ≤ a512 := Nat.le_trans Z0 (Nat.le_of_eq g513.symm)
          refine OGoalW.mp (S' := (T504.setTop (mkF m 53 #[.val (.int p1), .val (.int (0 : Int32)), .val (.int (1 : Int32)), .val (.int (0 : Int32)), .val (.int (0 : Int32)), .unset, .unset, .unset, .unset] [(.ref a512)]))) (fun _ k => st507 _ k) ?_
          refine OGoalW.mp (S' := (T504.setTop (mkF m 54 #[.val (.int p1), .val (.int (0 : Int32)), .val (.int (1 : Int32)), .val (.int (0 : Int32)), .val (.int (0 : Int32)), .unset, .unset, .unset, .unset] [(.ref a512), (.ref a512)]))) (fun _ k => XS.dup X505.here hx rfl (hb hby at_53) rfl rfl k) ?_
          refine oCallNW (y := (⟨"com/example/wildsolve/wildsolve/infer/Fresh", "<init>", "()V"⟩ : MethodName)) X505 hx hZ rfl hown (hw _ (List.mem_of_getElem? (i := 3) rfl)) (hw _ (List.mem_of_getElem? (i := 4) rfl)) (hw _ (List.mem_of_getElem? (i := 2) rfl)) (hw _ (List.mem_of_getElem? (i := 5) rfl)) (by decide) (rmFI l Z a0 hw a512 h508 n0 Z518) e506 [] [(.ref a512)] rfl rfl (by rw [hml]; rfl) (lenOf own_pd___V rfl) 1 (Nat.le_of_eq rfl) (by decide) (by decide) (by decide) (by decide) (hb hby at_54) ?_
          intro v520 T521 L522 X523 q524
          obtain ⟨rfl, N525, e526⟩ := q524
          have N527 := Fr.app (Fr.nil n0) N525
          show OGoalW p e below s _ _ _ (T521.setTop (mkF m 57 #[.val (.int p1), .val (.int (0 : Int32)), .val (.int (1 : Int32)), .val (.int (0 : Int32)), .val (.int (0 : Int32)), .unset, .unset, .unset, .unset] [(.ref a512)]))
          refine OGoalW.mp (S' := (T521.setTop (mkF m 59 #[.val (.int p1), .val (.int (0 : Int32)), .val (.int (1 : Int32)), .val (.int (0 : Int32)), .val (.int (0 : Int32)), .val (.ref a512), .unset, .unset, .unset] []))) (fun _ k => XS.astore X523.here hx rfl (hb hby at_57) rfl rfl (l' := #[.val (.int p1), .val (.int (0 : Int32)), .val (.int (1 : Int32)), .val (.int (0 : Int32)), .val (.int (0 : Int32)), .val (.ref a512), .unset, .unset, .unset]) rfl k) ?_
          refine OGoalW.mp (S' := (T521.setTop (mkF m 61 #[.val (.int p1), .val (.int (0 : Int32)), .val (.int (1 : Int32)), .val (.int (0 : Int32)), .val (.int (0 : Int32)), .val (.ref a512), .unset, .unset, .unset] [(.ref a512)]))) (fun _ k => XS.aload X523.here hx rfl (hb hby at_59) rfl rfl k) ?_
          refine OGoalW.mp (S' := (T521.setTop (mkF m 62 #[.val (.int p1), .val (.int (0 : Int32)), .val (.int (1 : Int32)), .val (.int (0 : Int32)), .val (.int (0 : Int32)), .val (.ref a512), .unset, .unset, .unset] [(.int (0 : Int32)), (.ref a512)]))) (fun _ k => XS.iloadN X523.here hx rfl (hb hby at_61) rfl k) ?_
          refine oCallSW (y := (⟨"com/example/wildsolve/wildsolve/infer/FreshOrdinaryPinLaw", "step", "(Lcom/example/wildsolve/wildsolve/infer/Fresh;Z)Lcom/example/wildsolve/wildsolve/solver/Placeholder;"⟩ : MethodName)) X523 hx hZ hown (hw _ (List.mem_of_getElem? (i := 9) rfl)) (hw _ (List.mem_of_getElem? (i := 10) rfl)) (hw _ (List.mem_of_getElem? (i := 11) rfl)) (hw _ (List.mem_of_getElem? (i := 12) rfl)) (by decide) (rmSt0 l Z a0 hw a512 h508 n0 Z518 (0 : Int32) (1 : Int32) (0 : Int32) (by decide) A510 F516 F517 ab519) e526 [(.ref a512), (.int (0 : Int32))] [] rfl rfl (by rw [hml]; rfl) (lenOf own_pd__Lcom_example_wildsolve_wildsolve_infer_Fresh_Z_Lcom_example_wildsolve_wildsolve_solver_Placeholder_ rfl) 0 (Nat.le_of_eq rfl) (by decide) (by decide) (by decide) (by decide) (hb hby at_62) ?_
          intro v529 T530 L531 X532 q533
          obtain ⟨r528, rfl, N534, K535, hr536, E537, F538, F539, E540, F541, F542⟩ := q533
          have N543 := Fr.app N527 N534
          have lt544 : a512 < r528 := Nat.lt_of_lt_of_le A510.lt hr536
          have K545 : Keep h0 T530.heap [] := K515.trans K535 (allS (Or.inr fr514) all0)
          have Z546 : n0 ≤ T530.heap.size := Nat.le_trans Z518 K535.1
          show OGoalW p e below s _ _ _ (T530.setTop (mkF m 65 #[.val (.int p1), .val (.int (0 : Int32)), .val (.int (1 : Int32)), .val (.int (0 : Int32)), .val (.int (0 : Int32)), .val (.ref a512), .unset, .unset, .unset] [(.ref r528)]))
          refine OGoalW.mp (S' := (T530.setTop (mkF m 67 #[.val (.int p1), .val (.int (0 : Int32)), .val (.int (1 : Int32)), .val (.int (0 : Int32)), .val (.int (0 : Int32)), .val (.ref a512), .val (.ref r528), .unset, .unset] []))) (fun _ k => XS.astore X532.here hx rfl (hb hby at_65) rfl rfl (l' := #[.val (.int p1), .val (.int (0 : Int32)), .val (.int (1 : Int32)), .val (.int (0 : Int32)), .val (.int (0 : Int32)), .val (.ref a512), .val (.ref r528), .unset, .unset]) rfl k) ?_
          refine OGoalW.mp (S' := (T530.setTop (mkF m 69 #[.val (.int p1), .val (.int (0 : Int32)), .val (.int (1 : Int32)), .val (.int (0 : Int32)), .val (.int (0 : Int32)), .val (.ref a512), .val (.ref r528), .unset, .unset] [(.int (0 : Int32))]))) (fun _ k => XS.iload X532.here hx rfl (hb hby at_67) rfl k) ?_
          refine OGoalW.mp (S' := (T530.setTop (mkF m 78 #[.val (.int p1), .val (.int (0 : Int32)), .val (.int (1 : Int32)), .val (.int (0 : Int32)), .val (.int (0 : Int32)), .val (.ref a512), .val (.ref r528), .unset, .unset] []))) (fun _ k => XS.ifYes X532.here hx rfl (pc0 := 69) (pc' := 78) rfl (hb hby at_69) rfl (XT.i0_eq_t (by decide)) (by decide) (by decide) k) ?_
          refine OGoalW.mp (S' := (T530.setTop (mkF m 80 #[.val (.int p1), .val (.int (0 : Int32)), .val (.int (1 : Int32)), .val (.int (0 : Int32)), .val (.int (0 : Int32)), .val (.ref a512), .val (.ref r528), .unset, .unset] [(.ref a512)]))) (fun _ k => XS.aload X532.here hx rfl (hb hby at_78) rfl rfl k) ?_
          refine OGoalW.mp (S' := (T530.setTop (mkF m 81 #[.val (.int p1), .val (.int (0 : Int32)), .val (.int (1 : Int32)), .val (.int (0 : Int32)), .val (.int (0 : Int32)), .val (.ref a512), .val (.ref r528), .unset, .unset] [(.int (1 : Int32)), (.ref a512)]))) (fun _ k => XS.iloadN X532.here hx rfl (hb hby at_80) rfl k) ?_
          refine oCallSW (y := (⟨"com/example/wildsolve/wildsolve/infer/FreshOrdinaryPinLaw", "step", "(Lcom/example/wildsolve/wildsolve/infer/Fresh;Z)Lcom/example/wildsolve/wildsolve/solver/Placeholder;"⟩ : MethodName)) X532 hx hZ hown (hw _ (List.mem_of_getElem? (i := 9) rfl)) (hw _ (List.mem_of_getElem? (i := 10) rfl)) (hw _ (List.mem_of_getElem? (i := 11) rfl)) (hw _ (List.mem_of_getElem? (i := 12) rfl)) (by decide) (rmSt1 l Z a0 hw a512 T530.heap n0 Z546 (1 : Int32) (2 : Int32) (0 : Int32) (by decide) E540 F541 F542 ab519) rfl [(.ref a512), (.int (1 : Int32))] [] rfl rfl (by rw [hml]; rfl) (lenOf own_pd__Lcom_example_wildsolve_wildsolve_infer_Fresh_Z_Lcom_example_wildsolve_wildsolve_solver_Placeholder_ rfl) 0 (Nat.le_of_eq rfl) (by decide) (by decide) (by decide) (by decide) (hb hby at_81) ?_
          intro v548 T549 L550 X551 q552
          obtain ⟨r547, rfl, N553, K554, hr555, E556, F557, F558, E559, F560, F561⟩ := q552
          have N562 := Fr.app N543 N553
          have lt563 : a512 < r547 := Nat.lt_of_lt_of_le E540.lt hr555
          have F564 := E537.keep K554
          have F565 := F538.keep K554 (ninS (Nat.ne_of_gt lt544) nin0)
          have F566 := F539.keep K554 (ninS (Nat.ne_of_gt lt544) nin0)
          have K567 : Keep h0 T549.heap [] := K545.trans K554 (allS (Or.inr fr514) all0)
          have Z568 : n0 ≤ T549.heap.size := Nat.le_trans Z546 K554.1
          show OGoalW p e below s _ _ _ (T549.setTop (mkF m 84 #[.val (.int p1), .val (.int (0 : Int32)), .val (.int (1 : Int32)), .val (.int (0 : Int32)), .val (.int (0 : Int32)), .val (.ref a512), .val (.ref r528), .unset, .unset] [(.ref r547)]))
          refine OGoalW.mp (S' := (T549.setTop (mkF m 86 #[.val (.int p1), .val (.int (0 : Int32)), .val (.int (1 : Int32)), .val (.int (0 : Int32)), .val (.int (0 : Int32)), .val (.ref a512), .val (.ref r528), .val (.ref r547), .unset] []))) (fun _ k => XS.astore X551.here hx rfl (hb hby at_84) rfl rfl (l' := #[.val (.int p1), .val (.int (0 : Int32)), .val (.int (1 : Int32)), .val (.int (0 : Int32)), .val (.int (0 : Int32)), .val (.ref a512), .val (.ref r528), .val (.ref r547), .unset]) rfl k) ?_
          refine OGoalW.mp (S' := (T549.setTop (mkF m 88 #[.val (.int p1), .val (.int (0 : Int32)), .val (.int (1 : Int32)), .val (.int (0 : Int32)), .val (.int (0 : Int32)), .val (.ref a512), .val (.ref r528), .val (.ref r547), .unset] [(.ref a512)]))) (fun _ k => XS.aload X551.here hx rfl (hb hby at_86) rfl rfl k) ?_
          refine OGoalW.mp (S' := (T549.setTop (mkF m 89 #[.val (.int p1), .val (.int (0 : Int32)), .val (.int (1 : Int32)), .val (.int (0 : Int32)), .val (.int (0 : Int32)), .val (.ref a512), .val (.ref r528), .val (.ref r547), .unset] [(.int (0 : Int32)), (.ref a512)]))) (fun _ k => XS.iloadN X551.here hx rfl (hb hby at_88) rfl k) ?_
          refine oCallSW (y := (⟨"com/example/wildsolve/wildsolve/infer/FreshOrdinaryPinLaw", "step", "(Lcom/example/wildsolve/wildsolve/infer/Fresh;Z)Lcom/example/wildsolve/wildsolve/solver/Placeholder;"⟩ : MethodName)) X551 hx hZ hown (hw _ (List.mem_of_getElem? (i := 9) rfl)) (hw _ (List.mem_of_getElem? (i := 10) rfl)) (hw _ (List.mem_of_getElem? (i := 11) rfl)) (hw _ (List.mem_of_getElem? (i := 12) rfl)) (by decide) (rmSt0 l Z a0 hw a512 T549.heap n0 Z568 (2 : Int32) (3 : Int32) (0 : Int32) (by decide) E559 F560 F561 ab519) rfl [(.ref a512), (.int (0 : Int32))] [] rfl rfl (by rw [hml]; rfl) (lenOf own_pd__Lcom_example_wildsolve_wildsolve_infer_Fresh_Z_Lcom_example_wildsolve_wildsolve_solver_Placeholder_ rfl) 0 (Nat.le_of_eq rfl) (by decide) (by decide) (by decide) (by decide) (hb hby at_89) ?_
          intro v570 T571 L572 X573 q574
          obtain ⟨r569, rfl, N575, K576, hr577, E578, F579, F580, E581, F582, F583⟩ := q574
          have N584 := Fr.app N562 N575
          have lt585 : a512 < r569 := Nat.lt_of_lt_of_le E559.lt hr577
          have F586 := F564.keep K576
          have F587 := F565.keep K576 (ninS (Nat.ne_of_gt lt544) nin0)
          have F588 := F566.keep K576 (ninS (Nat.ne_of_gt lt544) nin0)
          have F589 := E556.keep K576
          have F590 := F557.keep K576 (ninS (Nat.ne_of_gt lt563) nin0)
          have F591 := F558.keep K576 (ninS (Nat.ne_of_gt lt563) nin0)
          have K592 : Keep h0 T571.heap [] := K567.trans K576 (allS (Or.inr fr514) all0)
          have Z593 : n0 ≤ T571.heap.size := Nat.le_trans Z568 K576.1
          show OGoalW p e below s _ _ _ (T571.setTop (mkF m 92 #[.val (.int p1), .val (.int (0 : Int32)), .val (.int (1 : Int32)), .val (.int (0 : Int32)), .val (.int (0 : Int32)), .val (.ref a512), .val (.ref r528), .val (.ref r547), .unset] [(.ref r569)]))
          refine OGoalW.mp (S' := (T571.setTop (mkF m 94 #[.val (.int p1), .val (.int (0 : Int32)), .val (.int (1 : Int32)), .val (.int (0 : Int32)), .val (.int (0 : Int32)), .val (.ref a512), .val (.ref r528), .val (.ref r547), .val (.ref r569)] []))) (fun _ k => XS.astore X573.here hx rfl (hb hby at_92) rfl rfl (l' := #[.val (.int p1), .val (.int (0 : Int32)), .val (.int (1 : Int32)), .val (.int (0 : Int32)), .val (.int (0 : Int32)), .val (.ref a512), .val (.ref r528), .val (.ref r547), .val (.ref r569)]) rfl k) ?_
          refine OGoalW.mp (S' := (T571.setTop (mkF m 96 #[.val (.int p1), .val (.int (0 : Int32)), .val (.int (1 : Int32)), .val (.int (0 : Int32)), .val (.int (0 : Int32)), .val (.ref a512), .val (.ref r528), .val (.ref r547), .val (.ref r569)] [(.ref r528)]))) (fun _ k => XS.aload X573.here hx rfl (hb hby at_94) rfl rfl k) ?_
          refine OGoalW.mp (S' := (T571.setTop (mkF m 97 #[.val (.int p1), .val (.int (0 : Int32)), .val (.int (1 : Int32)), .val (.int (0 : Int32)), .val (.int (0 : Int32)), .val (.ref a512), .val (.ref r528), .val (.ref r547), .val (.ref r569)] [(.int (1 : Int32)), (.ref r528)]))) (fun _ k => XS.iconst X573.here hx rfl (hb hby at_96) k) ?_
          refine OGoalW.mp (S' := (T571.setTop (mkF m 98 #[.val (.int p1), .val (.int (0 : Int32)), .val (.int (1 : Int32)), .val (.int (0 : Int32)), .val (.int (0 : Int32)), .val (.ref a512), .val (.ref r528), .val (.ref r547), .val (.ref r569)] [(.int (0 : Int32)), (.int (1 : Int32)), (.ref r528)]))) (fun _ k => XS.iloadN X573.here hx rfl (hb hby at_97) rfl k) ?_
          refine oCallSW (y := (⟨"com/example/wildsolve/wildsolve/infer/FreshOrdinaryPinLaw", "check", "(Lcom/example/wildsolve/wildsolve/solver/Placeholder;IZ)Z"⟩ : MethodName)) X573 hx hZ hown (hw _ (List.mem_of_getElem? (i := 36) rfl)) (hw _ (List.mem_of_getElem? (i := 37) rfl)) (hw _ (List.mem_of_getElem? (i := 11) rfl)) (hw _ (List.mem_of_getElem? (i := 38) rfl)) (by decide) (rmCk10 l Z a0 hw r528 T571.heap n0 Z593 F586 F587 F588) rfl [(.ref r528), (.int (1 : Int32)), (.int (0 : Int32))] [] rfl rfl (by rw [hml]; rfl) (lenOf own_pd__Lcom_example_wildsolve_wildsolve_solver_Placeholder_IZ_Z rfl) 0 (Nat.le_of_eq rfl) (by decide) (by decide) (by decide) (by decide) (hb hby at_98) ?_
          intro v594 T595 L596 X597 q598
          obtain ⟨rfl, N599, e600⟩ := q598
          have N601 := Fr.app N584 N599
          show OGoalW p e below s _ _ _ (T595.setTop (mkF m 101 #[.val (.int p1), .val (.int (0 : Int32)), .val (.int (1 : Int32)), .val (.int (0 : Int32)), .val (.int (0 : Int32)), .val (.ref a512), .val (.ref r528), .val (.ref r547), .val (.ref r569)] [(.int (1 : Int32))]))
          refine OGoalW.mp (S' := (T595.setTop (mkF m 104 #[.val (.int p1), .val (.int (0 : Int32)), .val (.int (1 : Int32)), .val (.int (0 : Int32)), .val (.int (0 : Int32)), .val (.ref a512), .val (.ref r528), .val (.ref r547), .val (.ref r569)] []))) (fun _ k => XS.ifNo X597.here hx rfl (hb hby at_101) rfl (XT.i0_eq_f (by decide)) k) ?_
          refine OGoalW.mp (S' := (T595.setTop (mkF m 106 #[.val (.int p1), .val (.int (0 : Int32)), .val (.int (1 : Int32)), .val (.int (0 : Int32)), .val (.int (0 : Int32)), .val (.ref a512), .val (.ref r528), .val (.ref r547), .val (.ref r569)] [(.ref r547)]))) (fun _ k => XS.aload X597.here hx rfl (hb hby at_104) rfl rfl k) ?_
          refine OGoalW.mp (S' := (T595.setTop (mkF m 107 #[.val (.int p1), .val (.int (0 : Int32)), .val (.int (1 : Int32)), .val (.int (0 : Int32)), .val (.int (0 : Int32)), .val (.ref a512), .val (.ref r528), .val (.ref r547), .val (.ref r569)] [(.int (2 : Int32)), (.ref r547)]))) (fun _ k => XS.iconst X597.here hx rfl (hb hby at_106) k) ?_
          refine OGoalW.mp (S' := (T595.setTop (mkF m 108 #[.val (.int p1), .val (.int (0 : Int32)), .val (.int (1 : Int32)), .val (.int (0 : Int32)), .val (.int (0 : Int32)), .val (.ref a512), .val (.ref r528), .val (.ref r547), .val (.ref r569)] [(.int (1 : Int32)), (.int (2 : Int32)), (.ref r547)]))) (fun _ k => XS.iloadN X597.here hx rfl (hb hby at_107) rfl k) ?_
          refine oCallSW (y := (⟨"com/example/wildsolve/wildsolve/infer/FreshOrdinaryPinLaw", "check", "(Lcom/example/wildsolve/wildsolve/solver/Placeholder;IZ)Z"⟩ : MethodName)) X597 hx hZ hown (hw _ (List.mem_of_getElem? (i := 36) rfl)) (hw _ (List.mem_of_getElem? (i := 37) rfl)) (hw _ (List.mem_of_getElem? (i := 11) rfl)) (hw _ (List.mem_of_getElem? (i := 38) rfl)) (by decide) (rmCk21 l Z a0 hw r547 T571.heap n0 Z593 F589 F590 F591) e600 [(.ref r547), (.int (2 : Int32)), (.int (1 : Int32))] [] rfl rfl (by rw [hml]; rfl) (lenOf own_pd__Lcom_example_wildsolve_wildsolve_solver_Placeholder_IZ_Z rfl) 0 (Nat.le_of_eq rfl) (by decide) (by decide) (by decide) (by decide) (hb hby at_108) ?_
          intro v602 T603 L604 X605 q606
          obtain ⟨rfl, N607, e608⟩ := q606
          have N609 := Fr.app N601 N607
          show OGoalW p e below s _ _ _ (T603.setTop (mkF m 111 #[.val (.int p1), .val (.int (0 : Int32)), .val (.int (1 : Int32)), .val (.int (0 : Int32)), .val (.int (0 : Int32)), .val (.ref a512), .val (.ref r528), .val (.ref r547), .val (.ref r569)] [(.int (1 : Int32))]))
          refine OGoalW.mp (S' := (T603.setTop (mkF m 114 #[.val (.int p1), .val (.int (0 : Int32)), .val (.int (1 : Int32)), .val (.int (0 : Int32)), .val (.int (0 : Int32)), .val (.ref a512), .val (.ref r528), .val (.ref r547), .val (.ref r569)] []))) (fun _ k => XS.ifNo X605.here hx rfl (hb hby at_111) rfl (XT.i0_eq_f (by decide)) k) ?_
          refine OGoalW.mp (S' := (T603.setTop (mkF m 116 #[.val (.int p1), .val (.int (0 : Int32)), .val (.int (1 : Int32)), .val (.int (0 : Int32)), .val (.int (0 : Int32)), .val (.ref a512), .val (.ref r528), .val (.ref r547), .val (.ref r569)] [(.ref r569)]))) (fun _ k => XS.aload X605.here hx rfl (hb hby at_114) rfl rfl k) ?_
          refine OGoalW.mp (S' := (T603.setTop (mkF m 117 #[.val (.int p1), .val (.int (0 : Int32)), .val (.int (1 : Int32)), .val (.int (0 : Int32)), .val (.int (0 : Int32)), .val (.ref a512), .val (.ref r528), .val (.ref r547), .val (.ref r569)] [(.int (3 : Int32)), (.ref r569)]))) (fun _ k => XS.iconst X605.here hx rfl (hb hby at_116) k) ?_
          refine OGoalW.mp (S' := (T603.setTop (mkF m 118 #[.val (.int p1), .val (.int (0 : Int32)), .val (.int (1 : Int32)), .val (.int (0 : Int32)), .val (.int (0 : Int32)), .val (.ref a512), .val (.ref r528), .val (.ref r547), .val (.ref r569)] [(.int (0 : Int32)), (.int (3 : Int32)), (.ref r569)]))) (fun _ k => XS.iloadN X605.here hx rfl (hb hby at_117) rfl k) ?_
          refine oCallSW (y := (⟨"com/example/wildsolve/wildsolve/infer/FreshOrdinaryPinLaw", "check", "(Lcom/example/wildsolve/wildsolve/solver/Placeholder;IZ)Z"⟩ : MethodName)) X605 hx hZ hown (hw _ (List.mem_of_getElem? (i := 36) rfl)) (hw _ (List.mem_of_getElem? (i := 37) rfl)) (hw _ (List.mem_of_getElem? (i := 11) rfl)) (hw _ (List.mem_of_getElem? (i := 38) rfl)) (by decide) (rmCk30 l Z a0 hw r569 T571.heap n0 Z593 E578 F579 F580) e608 [(.ref r569), (.int (3 : Int32)), (.int (0 : Int32))] [] rfl rfl (by rw [hml]; rfl) (lenOf own_pd__Lcom_example_wildsolve_wildsolve_solver_Placeholder_IZ_Z rfl) 0 (Nat.le_of_eq rfl) (by decide) (by decide) (by decide) (by decide) (hb hby at_118) ?_
          intro v610 T611 L612 X613 q614
          obtain ⟨rfl, N615, e616⟩ := q614
          have N617 := Fr.app N609 N615
          show OGoalW p e below s _ _ _ (T611.setTop (mkF m 121 #[.val (.int p1), .val (.int (0 : Int32)), .val (.int (1 : Int32)), .val (.int (0 : Int32)), .val (.int (0 : Int32)), .val (.ref a512), .val (.ref r528), .val (.ref r547), .val (.ref r569)] [(.int (1 : Int32))]))
          refine OGoalW.mp (S' := (T611.setTop (mkF m 124 #[.val (.int p1), .val (.int (0 : Int32)), .val (.int (1 : Int32)), .val (.int (0 : Int32)), .val (.int (0 : Int32)), .val (.ref a512), .val (.ref r528), .val (.ref r547), .val (.ref r569)] []))) (fun _ k => XS.ifNo X613.here hx rfl (hb hby at_121) rfl (XT.i0_eq_f (by decide)) k) ?_
          refine OGoalW.mp (S' := (T611.setTop (mkF m 125 #[.val (.int p1), .val (.int (0 : Int32)), .val (.int (1 : Int32)), .val (.int (0 : Int32)), .val (.int (0 : Int32)), .val (.ref a512), .val (.ref r528), .val (.ref r547), .val (.ref r569)] [(.int (1 : Int32))]))) (fun _ k => XS.iconst X613.here hx rfl (hb hby at_124) k) ?_
          refine OGoalW.mp (S' := (T611.setTop (mkF m 129 #[.val (.int p1), .val (.int (0 : Int32)), .val (.int (1 : Int32)), .val (.int (0 : Int32)), .val (.int (0 : Int32)), .val (.ref a512), .val (.ref r528), .val (.ref r547), .val (.ref r569)] [(.int (1 : Int32))]))) (fun _ k => XS.goto X613.here hx rfl (pc0 := 125) (pc' := 129) rfl (hb hby at_125) (by decide) (by decide) k) ?_
          refine oRetZW X613 hS0 (Nat.le_trans (Nat.le_trans (Nat.le_trans (Nat.le_trans (Nat.le_trans (Nat.le_of_eq (congrArg Array.size hsh)) E509.1) K535.1) K554.1) K576.1) (Nat.le_of_eq (congrArg Array.size e616).symm)) hx hlk hret (Or.inr rfl) (hb hby at_129) ?_ (by decide) (by decide)
          exact ⟨rfl, N617⟩
        · refine OGoalW.mp (S' := (s₁.setTop (mkF m 43 #[.val (.int p1), .val (.int (0 : Int32)), .val (.int (1 : Int32)), .val (.int (0 : Int32)), .unset, .unset, .unset, .unset, .unset] []))) (fun _ k => XS.ifNo X0.here hx rfl (hb hby at_40) rfl (XT.i0_eq_f hc503) k) ?_
          refine OGoalW.mp (S' := (s₁.setTop (mkF m 44 #[.val (.int p1), .val (.int (0 : Int32)), .val (.int (1 : Int32)), .val (.int (0 : Int32)), .unset, .unset, .unset, .unset, .unset] [(.int (1 : Int32))]))) (fun _ k => XS.iconst X0.here hx rfl (hb hby at_43) k) ?_
          refine OGoalW.mp (S' := (s₁.setTop (mkF m 48 #[.val (.int p1), .val (.int (0 : Int32)), .val (.int (1 : Int32)), .val (.int (0 : Int32)), .unset, .unset, .unset, .unset, .unset] [(.int (1 : Int32))]))) (fun _ k => XS.goto X0.here hx rfl (pc0 := 44) (pc' := 48) rfl (hb hby at_44) (by decide) (by decide) k) ?_
          refine OGoalW.mp (S' := (s₁.setTop (mkF m 50 #[.val (.int p1), .val (.int (0 : Int32)), .val (.int (1 : Int32)), .val (.int (0 : Int32)), .val (.int (1 : Int32)), .unset, .unset, .unset, .unset] []))) (fun _ k => XS.istore X0.here hx rfl (hb hby at_48) rfl (l' := #[.val (.int p1), .val (.int (0 : Int32)), .val (.int (1 : Int32)), .val (.int (0 : Int32)), .val (.int (1 : Int32)), .unset, .unset, .unset, .unset]) rfl k) ?_
          obtain ⟨T618, h622, X619, e620, E623, A624, D625, -, st621⟩ := newO X0 hx hZ hown (hw _ (List.mem_of_getElem? (i := 0) rfl)) (hw _ (List.mem_of_getElem? (i := 1) rfl)) (hw _ (List.mem_of_getElem? (i := 2) rfl)) e0 (g := mkF m 50 #[.val (.int p1), .val (.int (0 : Int32)), .val (.int (1 : Int32)), .val (.int (0 : Int32)), .val (.int (1 : Int32)), .unset, .unset, .unset, .unset] []) rfl (hb hby at_50) (by decide) (by decide)
          obtain ⟨a626, g627⟩ : ∃ z, z = h0.size := ⟨_, rfl⟩
          rw [← g627] at A624 D625 st621
          have fr628 : h0.size ≤ a626 := by rw [g627]; exact (Keep.refl h0 []).1
          have K629 : Keep h0 h622 [] := (Keep.refl h0 []).ext E623
          have F630 : Fld Z h622 a626 "com/example/wildsolve/wildsolve/infer/Fresh" "placeholders" "I" (.int (0 : Int32)) := D625 (Or.inl (hw _ (List.mem_of_getElem? (i := 22) rfl))) (ty := .int) (by decide)
          have F631 : Fld Z h622 a626 "com/example/wildsolve/wildsolve/infer/Fresh" "variables" "I" (.int (0 : Int32)) := D625 (Or.inl (hw _ (List.mem_of_getElem? (i := 136) rfl))) (ty := .int) (by decide)
          have Z632 : n0 ≤ h622.size := Nat.le_trans Z0 E623.1
          have ab633 : n0 ≤ a626 := Nat.le_trans Z0 (Nat.le_of_eq g627.symm)
          refine OGoalW.mp (S' := (T618.setTop (mkF m 53 #[.val (.int p1), .val (.int (0 : Int32)), .val (.int (1 : Int32)), .val (.int (0 : Int32)), .val (.int (1 : Int32)), .unset, .unset, .unset, .unset] [(.ref a626)]))) (fun _ k => st621 _ k) ?_
          refine OGoalW.mp (S' := (T618.setTop (mkF m 54 #[.val (.int p1), .val (.int (0 : Int32)), .val (.int (1 : Int32)), .val (.int (0 : Int32)), .val (.int (1 : Int32)), .unset, .unset, .unset, .unset] [(.ref a626), (.ref a626)]))) (fun _ k => XS.dup X619.here hx rfl (hb hby at_53) rfl rfl k) ?_
          refine oCallNW (y := (⟨"com/example/wildsolve/wildsolve/infer/Fresh", "<init>", "()V"⟩ : MethodName)) X619 hx hZ rfl hown (hw _ (List.mem_of_getElem? (i := 3) rfl)) (hw _ (List.mem_of_getElem? (i := 4) rfl)) (hw _ (List.mem_of_getElem? (i := 2) rfl)) (hw _ (List.mem_of_getElem? (i := 5) rfl)) (by decide) (rmFI l Z a0 hw a626 h622 n0 Z632) e620 [] [(.ref a626)] rfl rfl (by rw [hml]; rfl) (lenOf own_pd___V rfl) 1 (Nat.le_of_eq rfl) (by decide) (by decide) (by decide) (by decide) (hb hby at_54) ?_
          intro v634 T635 L636 X637 q638
          obtain ⟨rfl, N639, e640⟩ := q638
          have N641 := Fr.app (Fr.nil n0) N639
          show OGoalW p e below s _ _ _ (T635.setTop (mkF m 57 #[.val (.int p1), .val (.int (0 : Int32)), .val (.int (1 : Int32)), .val (.int (0 : Int32)), .val (.int (1 : Int32)), .unset, .unset, .unset, .unset] [(.ref a626)]))
          refine OGoalW.mp (S' := (T635.setTop (mkF m 59 #[.val (.int p1), .val (.int (0 : Int32)), .val (.int (1 : Int32)), .val (.int (0 : Int32)), .val (.int (1 : Int32)), .val (.ref a626), .unset, .unset, .unset] []))) (fun _ k => XS.astore X637.here hx rfl (hb hby at_57) rfl rfl (l' := #[.val (.int p1), .val (.int (0 : Int32)), .val (.int (1 : Int32)), .val (.int (0 : Int32)), .val (.int (1 : Int32)), .val (.ref a626), .unset, .unset, .unset]) rfl k) ?_
          refine OGoalW.mp (S' := (T635.setTop (mkF m 61 #[.val (.int p1), .val (.int (0 : Int32)), .val (.int (1 : Int32)), .val (.int (0 : Int32)), .val (.int (1 : Int32)), .val (.ref a626), .unset, .unset, .unset] [(.ref a626)]))) (fun _ k => XS.aload X637.here hx rfl (hb hby at_59) rfl rfl k) ?_
          refine OGoalW.mp (S' := (T635.setTop (mkF m 62 #[.val (.int p1), .val (.int (0 : Int32)), .val (.int (1 : Int32)), .val (.int (0 : Int32)), .val (.int (1 : Int32)), .val (.ref a626), .unset, .unset, .unset] [(.int (0 : Int32)), (.ref a626)]))) (fun _ k => XS.iloadN X637.here hx rfl (hb hby at_61) rfl k) ?_
          refine oCallSW (y := (⟨"com/example/wildsolve/wildsolve/infer/FreshOrdinaryPinLaw", "step", "(Lcom/example/wildsolve/wildsolve/infer/Fresh;Z)Lcom/example/wildsolve/wildsolve/solver/Placeholder;"⟩ : MethodName)) X637 hx hZ hown (hw _ (List.mem_of_getElem? (i := 9) rfl)) (hw _ (List.mem_of_getElem? (i := 10) rfl)) (hw _ (List.mem_of_getElem? (i := 11) rfl)) (hw _ (List.mem_of_getElem? (i := 12) rfl)) (by decide) (rmSt0 l Z a0 hw a626 h622 n0 Z632 (0 : Int32) (1 : Int32) (0 : Int32) (by decide) A624 F630 F631 ab633) e640 [(.ref a626), (.int (0 : Int32))] [] rfl rfl (by rw [hml]; rfl) (lenOf own_pd__Lcom_example_wildsolve_wildsolve_infer_Fresh_Z_Lcom_example_wildsolve_wildsolve_solver_Placeholder_ rfl) 0 (Nat.le_of_eq rfl) (by decide) (by decide) (by decide) (by decide) (hb hby at_62) ?_
          intro v643 T644 L645 X646 q647
          obtain ⟨r642, rfl, N648, K649, hr650, E651, F652, F653, E654, F655, F656⟩ := q647
          have N657 := Fr.app N641 N648
          have lt658 : a626 < r642 := Nat.lt_of_lt_of_le A624.lt hr650
          have K659 : Keep h0 T644.heap [] := K629.trans K649 (allS (Or.inr fr628) all0)
          have Z660 : n0 ≤ T644.heap.size := Nat.le_trans Z632 K649.1
          show OGoalW p e below s _ _ _ (T644.setTop (mkF m 65 #[.val (.int p1), .val (.int (0 : Int32)), .val (.int (1 : Int32)), .val (.int (0 : Int32)), .val (.int (1 : Int32)), .val (.ref a626), .unset, .unset, .unset] [(.ref r642)]))
          refine OGoalW.mp (S' := (T644.setTop (mkF m 67 #[.val (.int p1), .val (.int (0 : Int32)), .val (.int (1 : Int32)), .val (.int (0 : Int32)), .val (.int (1 : Int32)), .val (.ref a626), .val (.ref r642), .unset, .unset] []))) (fun _ k => XS.astore X646.here hx rfl (hb hby at_65) rfl rfl (l' := #[.val (.int p1), .val (.int (0 : Int32)), .val (.int (1 : Int32)), .val (.int (0 : Int32)), .val (.int (1 : Int32)), .val (.ref a626), .val (.ref r642), .unset, .unset]) rfl k) ?_
          refine OGoalW.mp (S' := (T644.setTop (mkF m 69 #[.val (.int p1), .val (.int (0 : Int32)), .val (.int (1 : Int32)), .val (.int (0 : Int32)), .val (.int (1 : Int32)), .val (.ref a626), .val (.ref r642), .unset, .unset] [(.int (1 : Int32))]))) (fun _ k => XS.iload X646.here hx rfl (hb hby at_67) rfl k) ?_
          refine OGoalW.mp (S' := (T644.setTop (mkF m 72 #[.val (.int p1), .val (.int (0 : Int32)), .val (.int (1 : Int32)), .val (.int (0 : Int32)), .val (.int (1 : Int32)), .val (.ref a626), .val (.ref r642), .unset, .unset] []))) (fun _ k => XS.ifNo X646.here hx rfl (hb hby at_69) rfl (XT.i0_eq_f (by decide)) k) ?_
          refine OGoalW.mp (S' := (T644.setTop (mkF m 74 #[.val (.int p1), .val (.int (0 : Int32)), .val (.int (1 : Int32)), .val (.int (0 : Int32)), .val (.int (1 : Int32)), .val (.ref a626), .val (.ref r642), .unset, .unset] [(.ref a626)]))) (fun _ k => XS.aload X646.here hx rfl (hb hby at_72) rfl rfl k) ?_
          have nd662 : dg ≠ a626 := Nat.ne_of_lt (Nat.lt_of_lt_of_le Adg.lt fr628)
          refine oCallVS (y := (⟨"com/example/wildsolve/wildsolve/infer/Fresh", "variable", "()Ljava/lang/String;"⟩ : MethodName)) (z := (⟨"com/example/wildsolve/wildsolve/infer/Fresh", "variable", "()Ljava/lang/String;"⟩ : MethodName)) X646 hx hS0 (Nat.le_trans (Nat.le_trans (Nat.le_trans (Nat.le_of_eq (congrArg Array.size hsh)) E623.1) K649.1) (Nat.le_of_eq (congrArg Array.size rfl).symm)) hI hZ hown (hw _ (List.mem_of_getElem? (i := 54) rfl)) (hw _ (List.mem_of_getElem? (i := 55) rfl)) (hw _ (List.mem_of_getElem? (i := 57) rfl)) (hw _ (List.mem_of_getElem? (i := 56) rfl)) (hw _ (List.mem_of_getElem? (i := 2) rfl)) (hw _ (List.mem_of_getElem? (i := 58) rfl)) (by decide) (rmVa l Z a0 hw a626 T644.heap n0 Z660 (1 : Int32) cs hcs (Sta.ext (oKext K659) Scs) dg (Sta.ext (oKext K659) Sdg) df (Adg.ext (oKext K659)) xd hdf hxd nd662 E654 F656 F655 ab633 (fun b cl q => K659.2.1 b cl (hkp b cl q) nin0) hcw hch) rfl E654 [] [] rfl rfl (by rw [hml]; rfl) (notFace_of_selects (args := #[]) (mvT hZ (hw _ (List.mem_of_getElem? (i := 57) rfl)))) (lenOf own_pd___Ljava_lang_String_ rfl) 0 (Nat.le_of_eq rfl) (by decide) (by decide) (by decide) (by decide) (hb hby at_74) ?_
          intro v663 T664 L665 X666 hS668 hg669 hZ hown q667
          obtain ⟨r661, rfl, N670, K671, E672, F673, F674⟩ := q667
          have N675 := Fr.app N657 N670
          have F676 := E651.keep K671
          have F677 := F652.keep K671 (ninS (Nat.ne_of_gt lt658) nin0)
          have F678 := F653.keep K671 (ninS (Nat.ne_of_gt lt658) nin0)
          have K679 : Keep h0 T664.heap [] := K659.trans K671 (allS (Or.inr fr628) all0)
          have Z680 : n0 ≤ T664.heap.size := Nat.le_trans Z660 K671.1
          show OGoalW p e below s _ _ _ (T664.setTop (mkF m 77 #[.val (.int p1), .val (.int (0 : Int32)), .val (.int (1 : Int32)), .val (.int (0 : Int32)), .val (.int (1 : Int32)), .val (.ref a626), .val (.ref r642), .unset, .unset] [(.ref r661)]))
          refine OGoalW.mp (S' := (T664.setTop (mkF m 78 #[.val (.int p1), .val (.int (0 : Int32)), .val (.int (1 : Int32)), .val (.int (0 : Int32)), .val (.int (1 : Int32)), .val (.ref a626), .val (.ref r642), .unset, .unset] []))) (fun _ k => XT.pop X666.here hx rfl (hb hby at_77) rfl rfl k) ?_
          refine OGoalW.mp (S' := (T664.setTop (mkF m 80 #[.val (.int p1), .val (.int (0 : Int32)), .val (.int (1 : Int32)), .val (.int (0 : Int32)), .val (.int (1 : Int32)), .val (.ref a626), .val (.ref r642), .unset, .unset] [(.ref a626)]))) (fun _ k => XS.aload X666.here hx rfl (hb hby at_78) rfl rfl k) ?_
          refine OGoalW.mp (S' := (T664.setTop (mkF m 81 #[.val (.int p1), .val (.int (0 : Int32)), .val (.int (1 : Int32)), .val (.int (0 : Int32)), .val (.int (1 : Int32)), .val (.ref a626), .val (.ref r642), .unset, .unset] [(.int (1 : Int32)), (.ref a626)]))) (fun _ k => XS.iloadN X666.here hx rfl (hb hby at_80) rfl k) ?_
          refine oCallSW (y := (⟨"com/example/wildsolve/wildsolve/infer/FreshOrdinaryPinLaw", "step", "(Lcom/example/wildsolve/wildsolve/infer/Fresh;Z)Lcom/example/wildsolve/wildsolve/solver/Placeholder;"⟩ : MethodName)) X666 hx hZ hown (hw _ (List.mem_of_getElem? (i := 9) rfl)) (hw _ (List.mem_of_getElem? (i := 10) rfl)) (hw _ (List.mem_of_getElem? (i := 11) rfl)) (hw _ (List.mem_of_getElem? (i := 12) rfl)) (by decide) (rmSt1 l Z a0 hw a626 T664.heap n0 Z680 (1 : Int32) (2 : Int32) (1 : Int32) (by decide) E672 F673 F674 ab633) rfl [(.ref a626), (.int (1 : Int32))] [] rfl rfl (by rw [hml]; rfl) (lenOf own_pd__Lcom_example_wildsolve_wildsolve_infer_Fresh_Z_Lcom_example_wildsolve_wildsolve_solver_Placeholder_ rfl) 0 (Nat.le_of_eq rfl) (by decide) (by decide) (by decide) (by decide) (hb hby at_81) ?_
          intro v682 T683 L684 X685 q686
          obtain ⟨r681, rfl, N687, K688, hr689, E690, F691, F692, E693, F694, F695⟩ := q686
          have N696 := Fr.app N675 N687
          have lt697 : a626 < r681 := Nat.lt_of_lt_of_le E672.lt hr689
          have F698 := F676.keep K688
          have F699 := F677.keep K688 (ninS (Nat.ne_of_gt lt658) nin0)
          have F700 := F678.keep K688 (ninS (Nat.ne_of_gt lt658) nin0)
          have K701 : Keep h0 T683.heap [] := K679.trans K688 (allS (Or.inr fr628) all0)
          have Z702 : n0 ≤ T683.heap.size := Nat.le_trans Z680 K688.1
          show OGoalW p e below s _ _ _ (T683.setTop (mkF m 84 #[.val (.int p1), .val (.int (0 : Int32)), .val (.int (1 : Int32)), .val (.int (0 : Int32)), .val (.int (1 : Int32)), .val (.ref a626), .val (.ref r642), .unset, .unset] [(.ref r681)]))
          refine OGoalW.mp (S' := (T683.setTop (mkF m 86 #[.val (.int p1), .val (.int (0 : Int32)), .val (.int (1 : Int32)), .val (.int (0 : Int32)), .val (.int (1 : Int32)), .val (.ref a626), .val (.ref r642), .val (.ref r681), .unset] []))) (fun _ k => XS.astore X685.here hx rfl (hb hby at_84) rfl rfl (l' := #[.val (.int p1), .val (.int (0 : Int32)), .val (.int (1 : Int32)), .val (.int (0 : Int32)), .val (.int (1 : Int32)), .val (.ref a626), .val (.ref r642), .val (.ref r681), .unset]) rfl k) ?_
          refine OGoalW.mp (S' := (T683.setTop (mkF m 88 #[.val (.int p1), .val (.int (0 : Int32)), .val (.int (1 : Int32)), .val (.int (0 : Int32)), .val (.int (1 : Int32)), .val (.ref a626), .val (.ref r642), .val (.ref r681), .unset] [(.ref a626)]))) (fun _ k => XS.aload X685.here hx rfl (hb hby at_86) rfl rfl k) ?_
          refine OGoalW.mp (S' := (T683.setTop (mkF m 89 #[.val (.int p1), .val (.int (0 : Int32)), .val (.int (1 : Int32)), .val (.int (0 : Int32)), .val (.int (1 : Int32)), .val (.ref a626), .val (.ref r642), .val (.ref r681), .unset] [(.int (0 : Int32)), (.ref a626)]))) (fun _ k => XS.iloadN X685.here hx rfl (hb hby at_88) rfl k) ?_
          refine oCallSW (y := (⟨"com/example/wildsolve/wildsolve/infer/FreshOrdinaryPinLaw", "step", "(Lcom/example/wildsolve/wildsolve/infer/Fresh;Z)Lcom/example/wildsolve/wildsolve/solver/Placeholder;"⟩ : MethodName)) X685 hx hZ hown (hw _ (List.mem_of_getElem? (i := 9) rfl)) (hw _ (List.mem_of_getElem? (i := 10) rfl)) (hw _ (List.mem_of_getElem? (i := 11) rfl)) (hw _ (List.mem_of_getElem? (i := 12) rfl)) (by decide) (rmSt0 l Z a0 hw a626 T683.heap n0 Z702 (2 : Int32) (3 : Int32) (1 : Int32) (by decide) E693 F694 F695 ab633) rfl [(.ref a626), (.int (0 : Int32))] [] rfl rfl (by rw [hml]; rfl) (lenOf own_pd__Lcom_example_wildsolve_wildsolve_infer_Fresh_Z_Lcom_example_wildsolve_wildsolve_solver_Placeholder_ rfl) 0 (Nat.le_of_eq rfl) (by decide) (by decide) (by decide) (by decide) (hb hby at_89) ?_
          intro v704 T705 L706 X707 q708
          obtain ⟨r703, rfl, N709, K710, hr711, E712, F713, F714, E715, F716, F717⟩ := q708
          have N718 := Fr.app N696 N709
          have lt719 : a626 < r703 := Nat.lt_of_lt_of_le E693.lt hr711
          have F720 := F698.keep K710
          have F721 := F699.keep K710 (ninS (Nat.ne_of_gt lt658) nin0)
          have F722 := F700.keep K710 (ninS (Nat.ne_of_gt lt658) nin0)
          have F723 := E690.keep K710
          have F724 := F691.keep K710 (ninS (Nat.ne_of_gt lt697) nin0)
          have F725 := F692.keep K710 (ninS (Nat.ne_of_gt lt697) nin0)
          have K726 : Keep h0 T705.heap [] := K701.trans K710 (allS (Or.inr fr628) all0)
          have Z727 : n0 ≤ T705.heap.size := Nat.le_trans Z702 K710.1
          show OGoalW p e below s _ _ _ (T705.setTop (mkF m 92 #[.val (.int p1), .val (.int (0 : Int32)), .val (.int (1 : Int32)), .val (.int (0 : Int32)), .val (.int (1 : Int32)), .val (.ref a626), .val (.ref r642), .val (.ref r681), .unset] [(.ref r703)]))
          refine OGoalW.mp (S' := (T705.setTop (mkF m 94 #[.val (.int p1), .val (.int (0 : Int32)), .val (.int (1 : Int32)), .val (.int (0 : Int32)), .val (.int (1 : Int32)), .val (.ref a626), .val (.ref r642), .val (.ref r681), .val (.ref r703)] []))) (fun _ k => XS.astore X707.here hx rfl (hb hby at_92) rfl rfl (l' := #[.val (.int p1), .val (.int (0 : Int32)), .val (.int (1 : Int32)), .val (.int (0 : Int32)), .val (.int (1 : Int32)), .val (.ref a626), .val (.ref r642), .val (.ref r681), .val (.ref r703)]) rfl k) ?_
          refine OGoalW.mp (S' := (T705.setTop (mkF m 96 #[.val (.int p1), .val (.int (0 : Int32)), .val (.int (1 : Int32)), .val (.int (0 : Int32)), .val (.int (1 : Int32)), .val (.ref a626), .val (.ref r642), .val (.ref r681), .val (.ref r703)] [(.ref r642)]))) (fun _ k => XS.aload X707.here hx rfl (hb hby at_94) rfl rfl k) ?_
          refine OGoalW.mp (S' := (T705.setTop (mkF m 97 #[.val (.int p1), .val (.int (0 : Int32)), .val (.int (1 : Int32)), .val (.int (0 : Int32)), .val (.int (1 : Int32)), .val (.ref a626), .val (.ref r642), .val (.ref r681), .val (.ref r703)] [(.int (1 : Int32)), (.ref r642)]))) (fun _ k => XS.iconst X707.here hx rfl (hb hby at_96) k) ?_
          refine OGoalW.mp (S' := (T705.setTop (mkF m 98 #[.val (.int p1), .val (.int (0 : Int32)), .val (.int (1 : Int32)), .val (.int (0 : Int32)), .val (.int (1 : Int32)), .val (.ref a626), .val (.ref r642), .val (.ref r681), .val (.ref r703)] [(.int (0 : Int32)), (.int (1 : Int32)), (.ref r642)]))) (fun _ k => XS.iloadN X707.here hx rfl (hb hby at_97) rfl k) ?_
          refine oCallSW (y := (⟨"com/example/wildsolve/wildsolve/infer/FreshOrdinaryPinLaw", "check", "(Lcom/example/wildsolve/wildsolve/solver/Placeholder;IZ)Z"⟩ : MethodName)) X707 hx hZ hown (hw _ (List.mem_of_getElem? (i := 36) rfl)) (hw _ (List.mem_of_getElem? (i := 37) rfl)) (hw _ (List.mem_of_getElem? (i := 11) rfl)) (hw _ (List.mem_of_getElem? (i := 38) rfl)) (by decide) (rmCk10 l Z a0 hw r642 T705.heap n0 Z727 F720 F721 F722) rfl [(.ref r642), (.int (1 : Int32)), (.int (0 : Int32))] [] rfl rfl (by rw [hml]; rfl) (lenOf own_pd__Lcom_example_wildsolve_wildsolve_solver_Placeholder_IZ_Z rfl) 0 (Nat.le_of_eq rfl) (by decide) (by decide) (by decide) (by decide) (hb hby at_98) ?_
          intro v728 T729 L730 X731 q732
          obtain ⟨rfl, N733, e734⟩ := q732
          have N735 := Fr.app N718 N733
          show OGoalW p e below s _ _ _ (T729.setTop (mkF m 101 #[.val (.int p1), .val (.int (0 : Int32)), .val (.int (1 : Int32)), .val (.int (0 : Int32)), .val (.int (1 : Int32)), .val (.ref a626), .val (.ref r642), .val (.ref r681), .val (.ref r703)] [(.int (1 : Int32))]))
          refine OGoalW.mp (S' := (T729.setTop (mkF m 104 #[.val (.int p1), .val (.int (0 : Int32)), .val (.int (1 : Int32)), .val (.int (0 : Int32)), .val (.int (1 : Int32)), .val (.ref a626), .val (.ref r642), .val (.ref r681), .val (.ref r703)] []))) (fun _ k => XS.ifNo X731.here hx rfl (hb hby at_101) rfl (XT.i0_eq_f (by decide)) k) ?_
          refine OGoalW.mp (S' := (T729.setTop (mkF m 106 #[.val (.int p1), .val (.int (0 : Int32)), .val (.int (1 : Int32)), .val (.int (0 : Int32)), .val (.int (1 : Int32)), .val (.ref a626), .val (.ref r642), .val (.ref r681), .val (.ref r703)] [(.ref r681)]))) (fun _ k => XS.aload X731.here hx rfl (hb hby at_104) rfl rfl k) ?_
          refine OGoalW.mp (S' := (T729.setTop (mkF m 107 #[.val (.int p1), .val (.int (0 : Int32)), .val (.int (1 : Int32)), .val (.int (0 : Int32)), .val (.int (1 : Int32)), .val (.ref a626), .val (.ref r642), .val (.ref r681), .val (.ref r703)] [(.int (2 : Int32)), (.ref r681)]))) (fun _ k => XS.iconst X731.here hx rfl (hb hby at_106) k) ?_
          refine OGoalW.mp (S' := (T729.setTop (mkF m 108 #[.val (.int p1), .val (.int (0 : Int32)), .val (.int (1 : Int32)), .val (.int (0 : Int32)), .val (.int (1 : Int32)), .val (.ref a626), .val (.ref r642), .val (.ref r681), .val (.ref r703)] [(.int (1 : Int32)), (.int (2 : Int32)), (.ref r681)]))) (fun _ k => XS.iloadN X731.here hx rfl (hb hby at_107) rfl k) ?_
          refine oCallSW (y := (⟨"com/example/wildsolve/wildsolve/infer/FreshOrdinaryPinLaw", "check", "(Lcom/example/wildsolve/wildsolve/solver/Placeholder;IZ)Z"⟩ : MethodName)) X731 hx hZ hown (hw _ (List.mem_of_getElem? (i := 36) rfl)) (hw _ (List.mem_of_getElem? (i := 37) rfl)) (hw _ (List.mem_of_getElem? (i := 11) rfl)) (hw _ (List.mem_of_getElem? (i := 38) rfl)) (by decide) (rmCk21 l Z a0 hw r681 T705.heap n0 Z727 F723 F724 F725) e734 [(.ref r681), (.int (2 : Int32)), (.int (1 : Int32))] [] rfl rfl (by rw [hml]; rfl) (lenOf own_pd__Lcom_example_wildsolve_wildsolve_solver_Placeholder_IZ_Z rfl) 0 (Nat.le_of_eq rfl) (by decide) (by decide) (by decide) (by decide) (hb hby at_108) ?_
          intro v736 T737 L738 X739 q740
          obtain ⟨rfl, N741, e742⟩ := q740
          have N743 := Fr.app N735 N741
          show OGoalW p e below s _ _ _ (T737.setTop (mkF m 111 #[.val (.int p1), .val (.int (0 : Int32)), .val (.int (1 : Int32)), .val (.int (0 : Int32)), .val (.int (1 : Int32)), .val (.ref a626), .val (.ref r642), .val (.ref r681), .val (.ref r703)] [(.int (1 : Int32))]))
          refine OGoalW.mp (S' := (T737.setTop (mkF m 114 #[.val (.int p1), .val (.int (0 : Int32)), .val (.int (1 : Int32)), .val (.int (0 : Int32)), .val (.int (1 : Int32)), .val (.ref a626), .val (.ref r642), .val (.ref r681), .val (.ref r703)] []))) (fun _ k => XS.ifNo X739.here hx rfl (hb hby at_111) rfl (XT.i0_eq_f (by decide)) k) ?_
          refine OGoalW.mp (S' := (T737.setTop (mkF m 116 #[.val (.int p1), .val (.int (0 : Int32)), .val (.int (1 : Int32)), .val (.int (0 : Int32)), .val (.int (1 : Int32)), .val (.ref a626), .val (.ref r642), .val (.ref r681), .val (.ref r703)] [(.ref r703)]))) (fun _ k => XS.aload X739.here hx rfl (hb hby at_114) rfl rfl k) ?_
          refine OGoalW.mp (S' := (T737.setTop (mkF m 117 #[.val (.int p1), .val (.int (0 : Int32)), .val (.int (1 : Int32)), .val (.int (0 : Int32)), .val (.int (1 : Int32)), .val (.ref a626), .val (.ref r642), .val (.ref r681), .val (.ref r703)] [(.int (3 : Int32)), (.ref r703)]))) (fun _ k => XS.iconst X739.here hx rfl (hb hby at_116) k) ?_
          refine OGoalW.mp (S' := (T737.setTop (mkF m 118 #[.val (.int p1), .val (.int (0 : Int32)), .val (.int (1 : Int32)), .val (.int (0 : Int32)), .val (.int (1 : Int32)), .val (.ref a626), .val (.ref r642), .val (.ref r681), .val (.ref r703)] [(.int (0 : Int32)), (.int (3 : Int32)), (.ref r703)]))) (fun _ k => XS.iloadN X739.here hx rfl (hb hby at_117) rfl k) ?_
          refine oCallSW (y := (⟨"com/example/wildsolve/wildsolve/infer/FreshOrdinaryPinLaw", "check", "(Lcom/example/wildsolve/wildsolve/solver/Placeholder;IZ)Z"⟩ : MethodName)) X739 hx hZ hown (hw _ (List.mem_of_getElem? (i := 36) rfl)) (hw _ (List.mem_of_getElem? (i := 37) rfl)) (hw _ (List.mem_of_getElem? (i := 11) rfl)) (hw _ (List.mem_of_getElem? (i := 38) rfl)) (by decide) (rmCk30 l Z a0 hw r703 T705.heap n0 Z727 E712 F713 F714) e742 [(.ref r703), (.int (3 : Int32)), (.int (0 : Int32))] [] rfl rfl (by rw [hml]; rfl) (lenOf own_pd__Lcom_example_wildsolve_wildsolve_solver_Placeholder_IZ_Z rfl) 0 (Nat.le_of_eq rfl) (by decide) (by decide) (by decide) (by decide) (hb hby at_118) ?_
          intro v744 T745 L746 X747 q748
          obtain ⟨rfl, N749, e750⟩ := q748
          have N751 := Fr.app N743 N749
          show OGoalW p e below s _ _ _ (T745.setTop (mkF m 121 #[.val (.int p1), .val (.int (0 : Int32)), .val (.int (1 : Int32)), .val (.int (0 : Int32)), .val (.int (1 : Int32)), .val (.ref a626), .val (.ref r642), .val (.ref r681), .val (.ref r703)] [(.int (1 : Int32))]))
          refine OGoalW.mp (S' := (T745.setTop (mkF m 124 #[.val (.int p1), .val (.int (0 : Int32)), .val (.int (1 : Int32)), .val (.int (0 : Int32)), .val (.int (1 : Int32)), .val (.ref a626), .val (.ref r642), .val (.ref r681), .val (.ref r703)] []))) (fun _ k => XS.ifNo X747.here hx rfl (hb hby at_121) rfl (XT.i0_eq_f (by decide)) k) ?_
          refine OGoalW.mp (S' := (T745.setTop (mkF m 125 #[.val (.int p1), .val (.int (0 : Int32)), .val (.int (1 : Int32)), .val (.int (0 : Int32)), .val (.int (1 : Int32)), .val (.ref a626), .val (.ref r642), .val (.ref r681), .val (.ref r703)] [(.int (1 : Int32))]))) (fun _ k => XS.iconst X747.here hx rfl (hb hby at_124) k) ?_
          refine OGoalW.mp (S' := (T745.setTop (mkF m 129 #[.val (.int p1), .val (.int (0 : Int32)), .val (.int (1 : Int32)), .val (.int (0 : Int32)), .val (.int (1 : Int32)), .val (.ref a626), .val (.ref r642), .val (.ref r681), .val (.ref r703)] [(.int (1 : Int32))]))) (fun _ k => XS.goto X747.here hx rfl (pc0 := 125) (pc' := 129) rfl (hb hby at_125) (by decide) (by decide) k) ?_
          refine oRetZW X747 hS668 (Nat.le_trans (Nat.le_trans (Nat.le_trans (Nat.le_refl _) K688.1) K710.1) (Nat.le_of_eq (congrArg Array.size e750).symm)) hx hlk hret (Or.inr rfl) (hb hby at_129) ?_ (by decide) (by decide)
          exact ⟨rfl, N751⟩
      · refine OGoalW.mp (S' := (s₁.setTop (mkF m 30 #[.val (.int p1), .val (.int (0 : Int32)), .val (.int (1 : Int32)), .unset, .unset, .unset, .unset, .unset, .unset] []))) (fun _ k => XS.ifNo X0.here hx rfl (hb hby at_27) rfl (XT.i0_eq_f hc502) k) ?_
        refine OGoalW.mp (S' := (s₁.setTop (mkF m 31 #[.val (.int p1), .val (.int (0 : Int32)), .val (.int (1 : Int32)), .unset, .unset, .unset, .unset, .unset, .unset] [(.int (1 : Int32))]))) (fun _ k => XS.iconst X0.here hx rfl (hb hby at_30) k) ?_
        refine OGoalW.mp (S' := (s₁.setTop (mkF m 35 #[.val (.int p1), .val (.int (0 : Int32)), .val (.int (1 : Int32)), .unset, .unset, .unset, .unset, .unset, .unset] [(.int (1 : Int32))]))) (fun _ k => XS.goto X0.here hx rfl (pc0 := 31) (pc' := 35) rfl (hb hby at_31) (by decide) (by decide) k) ?_
        refine OGoalW.mp (S' := (s₁.setTop (mkF m 36 #[.val (.int p1), .val (.int (0 : Int32)), .val (.int (1 : Int32)), .val (.int (1 : Int32)), .unset, .unset, .unset, .unset, .unset] []))) (fun _ k => XS.istoreN X0.here hx rfl (hb hby at_35) rfl (l' := #[.val (.int p1), .val (.int (0 : Int32)), .val (.int (1 : Int32)), .val (.int (1 : Int32)), .unset, .unset, .unset, .unset, .unset]) rfl k) ?_
        refine OGoalW.mp (S' := (s₁.setTop (mkF m 37 #[.val (.int p1), .val (.int (0 : Int32)), .val (.int (1 : Int32)), .val (.int (1 : Int32)), .unset, .unset, .unset, .unset, .unset] [(.int p1)]))) (fun _ k => XS.iloadN X0.here hx rfl (hb hby at_36) rfl k) ?_
        refine OGoalW.mp (S' := (s₁.setTop (mkF m 39 #[.val (.int p1), .val (.int (0 : Int32)), .val (.int (1 : Int32)), .val (.int (1 : Int32)), .unset, .unset, .unset, .unset, .unset] [(.int (8 : Int32)), (.int p1)]))) (fun _ k => XS.bipush X0.here hx rfl (hb hby at_37) k) ?_
        refine OGoalW.mp (S' := (s₁.setTop (mkF m 40 #[.val (.int p1), .val (.int (0 : Int32)), .val (.int (1 : Int32)), .val (.int (1 : Int32)), .unset, .unset, .unset, .unset, .unset] [(.int (p1 &&& (8 : Int32)))]))) (fun _ k => XS.iand X0.here hx rfl (hb hby at_39) rfl k) ?_
        by_cases hc752 : (p1 &&& (8 : Int32)) = 0
        · refine OGoalW.mp (S' := (s₁.setTop (mkF m 47 #[.val (.int p1), .val (.int (0 : Int32)), .val (.int (1 : Int32)), .val (.int (1 : Int32)), .unset, .unset, .unset, .unset, .unset] []))) (fun _ k => XS.ifYes X0.here hx rfl (pc0 := 40) (pc' := 47) rfl (hb hby at_40) rfl (XT.i0_eq_t hc752) (by decide) (by decide) k) ?_
          refine OGoalW.mp (S' := (s₁.setTop (mkF m 48 #[.val (.int p1), .val (.int (0 : Int32)), .val (.int (1 : Int32)), .val (.int (1 : Int32)), .unset, .unset, .unset, .unset, .unset] [(.int (0 : Int32))]))) (fun _ k => XS.iconst X0.here hx rfl (hb hby at_47) k) ?_
          refine OGoalW.mp (S' := (s₁.setTop (mkF m 50 #[.val (.int p1), .val (.int (0 : Int32)), .val (.int (1 : Int32)), .val (.int (1 : Int32)), .val (.int (0 : Int32)), .unset, .unset, .unset, .unset] []))) (fun _ k => XS.istore X0.here hx rfl (hb hby at_48) rfl (l' := #[.val (.int p1), .val (.int (0 : Int32)), .val (.int (1 : Int32)), .val (.int (1 : Int32)), .val (.int (0 : Int32)), .unset, .unset, .unset, .unset]) rfl k) ?_
          obtain ⟨T753, h757, X754, e755, E758, A759, D760, -, st756⟩ := newO X0 hx hZ hown (hw _ (List.mem_of_getElem? (i := 0) rfl)) (hw _ (List.mem_of_getElem? (i := 1) rfl)) (hw _ (List.mem_of_getElem? (i := 2) rfl)) e0 (g := mkF m 50 #[.val (.int p1), .val (.int (0 : Int32)), .val (.int (1 : Int32)), .val (.int (1 : Int32)), .val (.int (0 : Int32)), .unset, .unset, .unset, .unset] []) rfl (hb hby at_50) (by decide) (by decide)
          obtain ⟨a761, g762⟩ : ∃ z, z = h0.size := ⟨_, rfl⟩
          rw [← g762] at A759 D760 st756
          have fr763 : h0.size ≤ a761 := by rw [g762]; exact (Keep.refl h0 []).1
          have K764 : Keep h0 h757 [] := (Keep.refl h0 []).ext E758
          have F765 : Fld Z h757 a761 "com/example/wildsolve/wildsolve/infer/Fresh" "placeholders" "I" (.int (0 : Int32)) := D760 (Or.inl (hw _ (List.mem_of_getElem? (i := 22) rfl))) (ty := .int) (by decide)
          have F766 : Fld Z h757 a761 "com/example/wildsolve/wildsolve/infer/Fresh" "variables" "I" (.int (0 : Int32)) := D760 (Or.inl (hw _ (List.mem_of_getElem? (i := 136) rfl))) (ty := .int) (by decide)
          have Z767 : n0 ≤ h757.size := Nat.le_trans Z0 E758.1
          have ab768 : n0 ≤ a761 := Nat.le_trans Z0 (Nat.le_of_eq g762.symm)
          refine OGoalW.mp (S' := (T753.setTop (mkF m 53 #[.val (.int p1), .val (.int (0 : Int32)), .val (.int (1 : Int32)), .val (.int (1 : Int32)), .val (.int (0 : Int32)), .unset, .unset, .unset, .unset] [(.ref a761)]))) (fun _ k => st756 _ k) ?_
          refine OGoalW.mp (S' := (T753.setTop (mkF m 54 #[.val (.int p1), .val (.int (0 : Int32)), .val (.int (1 : Int32)), .val (.int (1 : Int32)), .val (.int (0 : Int32)), .unset, .unset, .unset, .unset] [(.ref a761), (.ref a761)]))) (fun _ k => XS.dup X754.here hx rfl (hb hby at_53) rfl rfl k) ?_
          refine oCallNW (y := (⟨"com/example/wildsolve/wildsolve/infer/Fresh", "<init>", "()V"⟩ : MethodName)) X754 hx hZ rfl hown (hw _ (List.mem_of_getElem? (i := 3) rfl)) (hw _ (List.mem_of_getElem? (i := 4) rfl)) (hw _ (List.mem_of_getElem? (i := 2) rfl)) (hw _ (List.mem_of_getElem? (i := 5) rfl)) (by decide) (rmFI l Z a0 hw a761 h757 n0 Z767) e755 [] [(.ref a761)] rfl rfl (by rw [hml]; rfl) (lenOf own_pd___V rfl) 1 (Nat.le_of_eq rfl) (by decide) (by decide) (by decide) (by decide) (hb hby at_54) ?_
          intro v769 T770 L771 X772 q773
          obtain ⟨rfl, N774, e775⟩ := q773
          have N776 := Fr.app (Fr.nil n0) N774
          show OGoalW p e below s _ _ _ (T770.setTop (mkF m 57 #[.val (.int p1), .val (.int (0 : Int32)), .val (.int (1 : Int32)), .val (.int (1 : Int32)), .val (.int (0 : Int32)), .unset, .unset, .unset, .unset] [(.ref a761)]))
          refine OGoalW.mp (S' := (T770.setTop (mkF m 59 #[.val (.int p1), .val (.int (0 : Int32)), .val (.int (1 : Int32)), .val (.int (1 : Int32)), .val (.int (0 : Int32)), .val (.ref a761), .unset, .unset, .unset] []))) (fun _ k => XS.astore X772.here hx rfl (hb hby at_57) rfl rfl (l' := #[.val (.int p1), .val (.int (0 : Int32)), .val (.int (1 : Int32)), .val (.int (1 : Int32)), .val (.int (0 : Int32)), .val (.ref a761), .unset, .unset, .unset]) rfl k) ?_
          refine OGoalW.mp (S' := (T770.setTop (mkF m 61 #[.val (.int p1), .val (.int (0 : Int32)), .val (.int (1 : Int32)), .val (.int (1 : Int32)), .val (.int (0 : Int32)), .val (.ref a761), .unset, .unset, .unset] [(.ref a761)]))) (fun _ k => XS.aload X772.here hx rfl (hb hby at_59) rfl rfl k) ?_
          refine OGoalW.mp (S' := (T770.setTop (mkF m 62 #[.val (.int p1), .val (.int (0 : Int32)), .val (.int (1 : Int32)), .val (.int (1 : Int32)), .val (.int (0 : Int32)), .val (.ref a761), .unset, .unset, .unset] [(.int (0 : Int32)), (.ref a761)]))) (fun _ k => XS.iloadN X772.here hx rfl (hb hby at_61) rfl k) ?_
          refine oCallSW (y := (⟨"com/example/wildsolve/wildsolve/infer/FreshOrdinaryPinLaw", "step", "(Lcom/example/wildsolve/wildsolve/infer/Fresh;Z)Lcom/example/wildsolve/wildsolve/solver/Placeholder;"⟩ : MethodName)) X772 hx hZ hown (hw _ (List.mem_of_getElem? (i := 9) rfl)) (hw _ (List.mem_of_getElem? (i := 10) rfl)) (hw _ (List.mem_of_getElem? (i := 11) rfl)) (hw _ (List.mem_of_getElem? (i := 12) rfl)) (by decide) (rmSt0 l Z a0 hw a761 h757 n0 Z767 (0 : Int32) (1 : Int32) (0 : Int32) (by decide) A759 F765 F766 ab768) e775 [(.ref a761), (.int (0 : Int32))] [] rfl rfl (by rw [hml]; rfl) (lenOf own_pd__Lcom_example_wildsolve_wildsolve_infer_Fresh_Z_Lcom_example_wildsolve_wildsolve_solver_Placeholder_ rfl) 0 (Nat.le_of_eq rfl) (by decide) (by decide) (by decide) (by decide) (hb hby at_62) ?_
          intro v778 T779 L780 X781 q782
          obtain ⟨r777, rfl, N783, K784, hr785, E786, F787, F788, E789, F790, F791⟩ := q782
          have N792 := Fr.app N776 N783
          have lt793 : a761 < r777 := Nat.lt_of_lt_of_le A759.lt hr785
          have K794 : Keep h0 T779.heap [] := K764.trans K784 (allS (Or.inr fr763) all0)
          have Z795 : n0 ≤ T779.heap.size := Nat.le_trans Z767 K784.1
          show OGoalW p e below s _ _ _ (T779.setTop (mkF m 65 #[.val (.int p1), .val (.int (0 : Int32)), .val (.int (1 : Int32)), .val (.int (1 : Int32)), .val (.int (0 : Int32)), .val (.ref a761), .unset, .unset, .unset] [(.ref r777)]))
          refine OGoalW.mp (S' := (T779.setTop (mkF m 67 #[.val (.int p1), .val (.int (0 : Int32)), .val (.int (1 : Int32)), .val (.int (1 : Int32)), .val (.int (0 : Int32)), .val (.ref a761), .val (.ref r777), .unset, .unset] []))) (fun _ k => XS.astore X781.here hx rfl (hb hby at_65) rfl rfl (l' := #[.val (.int p1), .val (.int (0 : Int32)), .val (.int (1 : Int32)), .val (.int (1 : Int32)), .val (.int (0 : Int32)), .val (.ref a761), .val (.ref r777), .unset, .unset]) rfl k) ?_
          refine OGoalW.mp (S' := (T779.setTop (mkF m 69 #[.val (.int p1), .val (.int (0 : Int32)), .val (.int (1 : Int32)), .val (.int (1 : Int32)), .val (.int (0 : Int32)), .val (.ref a761), .val (.ref r777), .unset, .unset] [(.int (0 : Int32))]))) (fun _ k => XS.iload X781.here hx rfl (hb hby at_67) rfl k) ?_
          refine OGoalW.mp (S' := (T779.setTop (mkF m 78 #[.val (.int p1), .val (.int (0 : Int32)), .val (.int (1 : Int32)), .val (.int (1 : Int32)), .val (.int (0 : Int32)), .val (.ref a761), .val (.ref r777), .unset, .unset] []))) (fun _ k => XS.ifYes X781.here hx rfl (pc0 := 69) (pc' := 78) rfl (hb hby at_69) rfl (XT.i0_eq_t (by decide)) (by decide) (by decide) k) ?_
          refine OGoalW.mp (S' := (T779.setTop (mkF m 80 #[.val (.int p1), .val (.int (0 : Int32)), .val (.int (1 : Int32)), .val (.int (1 : Int32)), .val (.int (0 : Int32)), .val (.ref a761), .val (.ref r777), .unset, .unset] [(.ref a761)]))) (fun _ k => XS.aload X781.here hx rfl (hb hby at_78) rfl rfl k) ?_
          refine OGoalW.mp (S' := (T779.setTop (mkF m 81 #[.val (.int p1), .val (.int (0 : Int32)), .val (.int (1 : Int32)), .val (.int (1 : Int32)), .val (.int (0 : Int32)), .val (.ref a761), .val (.ref r777), .unset, .unset] [(.int (1 : Int32)), (.ref a761)]))) (fun _ k => XS.iloadN X781.here hx rfl (hb hby at_80) rfl k) ?_
          refine oCallSW (y := (⟨"com/example/wildsolve/wildsolve/infer/FreshOrdinaryPinLaw", "step", "(Lcom/example/wildsolve/wildsolve/infer/Fresh;Z)Lcom/example/wildsolve/wildsolve/solver/Placeholder;"⟩ : MethodName)) X781 hx hZ hown (hw _ (List.mem_of_getElem? (i := 9) rfl)) (hw _ (List.mem_of_getElem? (i := 10) rfl)) (hw _ (List.mem_of_getElem? (i := 11) rfl)) (hw _ (List.mem_of_getElem? (i := 12) rfl)) (by decide) (rmSt1 l Z a0 hw a761 T779.heap n0 Z795 (1 : Int32) (2 : Int32) (0 : Int32) (by decide) E789 F790 F791 ab768) rfl [(.ref a761), (.int (1 : Int32))] [] rfl rfl (by rw [hml]; rfl) (lenOf own_pd__Lcom_example_wildsolve_wildsolve_infer_Fresh_Z_Lcom_example_wildsolve_wildsolve_solver_Placeholder_ rfl) 0 (Nat.le_of_eq rfl) (by decide) (by decide) (by decide) (by decide) (hb hby at_81) ?_
          intro v797 T798 L799 X800 q801
          obtain ⟨r796, rfl, N802, K803, hr804, E805, F806, F807, E808, F809, F810⟩ := q801
          have N811 := Fr.app N792 N802
          have lt812 : a761 < r796 := Nat.lt_of_lt_of_le E789.lt hr804
          have F813 := E786.keep K803
          have F814 := F787.keep K803 (ninS (Nat.ne_of_gt lt793) nin0)
          have F815 := F788.keep K803 (ninS (Nat.ne_of_gt lt793) nin0)
          have K816 : Keep h0 T798.heap [] := K794.trans K803 (allS (Or.inr fr763) all0)
          have Z817 : n0 ≤ T798.heap.size := Nat.le_trans Z795 K803.1
          show OGoalW p e below s _ _ _ (T798.setTop (mkF m 84 #[.val (.int p1), .val (.int (0 : Int32)), .val (.int (1 : Int32)), .val (.int (1 : Int32)), .val (.int (0 : Int32)), .val (.ref a761), .val (.ref r777), .unset, .unset] [(.ref r796)]))
          refine OGoalW.mp (S' := (T798.setTop (mkF m 86 #[.val (.int p1), .val (.int (0 : Int32)), .val (.int (1 : Int32)), .val (.int (1 : Int32)), .val (.int (0 : Int32)), .val (.ref a761), .val (.ref r777), .val (.ref r796), .unset] []))) (fun _ k => XS.astore X800.here hx rfl (hb hby at_84) rfl rfl (l' := #[.val (.int p1), .val (.int (0 : Int32)), .val (.int (1 : Int32)), .val (.int (1 : Int32)), .val (.int (0 : Int32)), .val (.ref a761), .val (.ref r777), .val (.ref r796), .unset]) rfl k) ?_
          refine OGoalW.mp (S' := (T798.setTop (mkF m 88 #[.val (.int p1), .val (.int (0 : Int32)), .val (.int (1 : Int32)), .val (.int (1 : Int32)), .val (.int (0 : Int32)), .val (.ref a761), .val (.ref r777), .val (.ref r796), .unset] [(.ref a761)]))) (fun _ k => XS.aload X800.here hx rfl (hb hby at_86) rfl rfl k) ?_
          refine OGoalW.mp (S' := (T798.setTop (mkF m 89 #[.val (.int p1), .val (.int (0 : Int32)), .val (.int (1 : Int32)), .val (.int (1 : Int32)), .val (.int (0 : Int32)), .val (.ref a761), .val (.ref r777), .val (.ref r796), .unset] [(.int (1 : Int32)), (.ref a761)]))) (fun _ k => XS.iloadN X800.here hx rfl (hb hby at_88) rfl k) ?_
          refine oCallSW (y := (⟨"com/example/wildsolve/wildsolve/infer/FreshOrdinaryPinLaw", "step", "(Lcom/example/wildsolve/wildsolve/infer/Fresh;Z)Lcom/example/wildsolve/wildsolve/solver/Placeholder;"⟩ : MethodName)) X800 hx hZ hown (hw _ (List.mem_of_getElem? (i := 9) rfl)) (hw _ (List.mem_of_getElem? (i := 10) rfl)) (hw _ (List.mem_of_getElem? (i := 11) rfl)) (hw _ (List.mem_of_getElem? (i := 12) rfl)) (by decide) (rmSt1 l Z a0 hw a761 T798.heap n0 Z817 (2 : Int32) (3 : Int32) (0 : Int32) (by decide) E808 F809 F810 ab768) rfl [(.ref a761), (.int (1 : Int32))] [] rfl rfl (by rw [hml]; rfl) (lenOf own_pd__Lcom_example_wildsolve_wildsolve_infer_Fresh_Z_Lcom_example_wildsolve_wildsolve_solver_Placeholder_ rfl) 0 (Nat.le_of_eq rfl) (by decide) (by decide) (by decide) (by decide) (hb hby at_89) ?_
          intro v819 T820 L821 X822 q823
          obtain ⟨r818, rfl, N824, K825, hr826, E827, F828, F829, E830, F831, F832⟩ := q823
          have N833 := Fr.app N811 N824
          have lt834 : a761 < r818 := Nat.lt_of_lt_of_le E808.lt hr826
          have F835 := F813.keep K825
          have F836 := F814.keep K825 (ninS (Nat.ne_of_gt lt793) nin0)
          have F837 := F815.keep K825 (ninS (Nat.ne_of_gt lt793) nin0)
          have F838 := E805.keep K825
          have F839 := F806.keep K825 (ninS (Nat.ne_of_gt lt812) nin0)
          have F840 := F807.keep K825 (ninS (Nat.ne_of_gt lt812) nin0)
          have K841 : Keep h0 T820.heap [] := K816.trans K825 (allS (Or.inr fr763) all0)
          have Z842 : n0 ≤ T820.heap.size := Nat.le_trans Z817 K825.1
          show OGoalW p e below s _ _ _ (T820.setTop (mkF m 92 #[.val (.int p1), .val (.int (0 : Int32)), .val (.int (1 : Int32)), .val (.int (1 : Int32)), .val (.int (0 : Int32)), .val (.ref a761), .val (.ref r777), .val (.ref r796), .unset] [(.ref r818)]))
          refine OGoalW.mp (S' := (T820.setTop (mkF m 94 #[.val (.int p1), .val (.int (0 : Int32)), .val (.int (1 : Int32)), .val (.int (1 : Int32)), .val (.int (0 : Int32)), .val (.ref a761), .val (.ref r777), .val (.ref r796), .val (.ref r818)] []))) (fun _ k => XS.astore X822.here hx rfl (hb hby at_92) rfl rfl (l' := #[.val (.int p1), .val (.int (0 : Int32)), .val (.int (1 : Int32)), .val (.int (1 : Int32)), .val (.int (0 : Int32)), .val (.ref a761), .val (.ref r777), .val (.ref r796), .val (.ref r818)]) rfl k) ?_
          refine OGoalW.mp (S' := (T820.setTop (mkF m 96 #[.val (.int p1), .val (.int (0 : Int32)), .val (.int (1 : Int32)), .val (.int (1 : Int32)), .val (.int (0 : Int32)), .val (.ref a761), .val (.ref r777), .val (.ref r796), .val (.ref r818)] [(.ref r777)]))) (fun _ k => XS.aload X822.here hx rfl (hb hby at_94) rfl rfl k) ?_
          refine OGoalW.mp (S' := (T820.setTop (mkF m 97 #[.val (.int p1), .val (.int (0 : Int32)), .val (.int (1 : Int32)), .val (.int (1 : Int32)), .val (.int (0 : Int32)), .val (.ref a761), .val (.ref r777), .val (.ref r796), .val (.ref r818)] [(.int (1 : Int32)), (.ref r777)]))) (fun _ k => XS.iconst X822.here hx rfl (hb hby at_96) k) ?_
          refine OGoalW.mp (S' := (T820.setTop (mkF m 98 #[.val (.int p1), .val (.int (0 : Int32)), .val (.int (1 : Int32)), .val (.int (1 : Int32)), .val (.int (0 : Int32)), .val (.ref a761), .val (.ref r777), .val (.ref r796), .val (.ref r818)] [(.int (0 : Int32)), (.int (1 : Int32)), (.ref r777)]))) (fun _ k => XS.iloadN X822.here hx rfl (hb hby at_97) rfl k) ?_
          refine oCallSW (y := (⟨"com/example/wildsolve/wildsolve/infer/FreshOrdinaryPinLaw", "check", "(Lcom/example/wildsolve/wildsolve/solver/Placeholder;IZ)Z"⟩ : MethodName)) X822 hx hZ hown (hw _ (List.mem_of_getElem? (i := 36) rfl)) (hw _ (List.mem_of_getElem? (i := 37) rfl)) (hw _ (List.mem_of_getElem? (i := 11) rfl)) (hw _ (List.mem_of_getElem? (i := 38) rfl)) (by decide) (rmCk10 l Z a0 hw r777 T820.heap n0 Z842 F835 F836 F837) rfl [(.ref r777), (.int (1 : Int32)), (.int (0 : Int32))] [] rfl rfl (by rw [hml]; rfl) (lenOf own_pd__Lcom_example_wildsolve_wildsolve_solver_Placeholder_IZ_Z rfl) 0 (Nat.le_of_eq rfl) (by decide) (by decide) (by decide) (by decide) (hb hby at_98) ?_
          intro v843 T844 L845 X846 q847
          obtain ⟨rfl, N848, e849⟩ := q847
          have N850 := Fr.app N833 N848
          show OGoalW p e below s _ _ _ (T844.setTop (mkF m 101 #[.val (.int p1), .val (.int (0 : Int32)), .val (.int (1 : Int32)), .val (.int (1 : Int32)), .val (.int (0 : Int32)), .val (.ref a761), .val (.ref r777), .val (.ref r796), .val (.ref r818)] [(.int (1 : Int32))]))
          refine OGoalW.mp (S' := (T844.setTop (mkF m 104 #[.val (.int p1), .val (.int (0 : Int32)), .val (.int (1 : Int32)), .val (.int (1 : Int32)), .val (.int (0 : Int32)), .val (.ref a761), .val (.ref r777), .val (.ref r796), .val (.ref r818)] []))) (fun _ k => XS.ifNo X846.here hx rfl (hb hby at_101) rfl (XT.i0_eq_f (by decide)) k) ?_
          refine OGoalW.mp (S' := (T844.setTop (mkF m 106 #[.val (.int p1), .val (.int (0 : Int32)), .val (.int (1 : Int32)), .val (.int (1 : Int32)), .val (.int (0 : Int32)), .val (.ref a761), .val (.ref r777), .val (.ref r796), .val (.ref r818)] [(.ref r796)]))) (fun _ k => XS.aload X846.here hx rfl (hb hby at_104) rfl rfl k) ?_
          refine OGoalW.mp (S' := (T844.setTop (mkF m 107 #[.val (.int p1), .val (.int (0 : Int32)), .val (.int (1 : Int32)), .val (.int (1 : Int32)), .val (.int (0 : Int32)), .val (.ref a761), .val (.ref r777), .val (.ref r796), .val (.ref r818)] [(.int (2 : Int32)), (.ref r796)]))) (fun _ k => XS.iconst X846.here hx rfl (hb hby at_106) k) ?_
          refine OGoalW.mp (S' := (T844.setTop (mkF m 108 #[.val (.int p1), .val (.int (0 : Int32)), .val (.int (1 : Int32)), .val (.int (1 : Int32)), .val (.int (0 : Int32)), .val (.ref a761), .val (.ref r777), .val (.ref r796), .val (.ref r818)] [(.int (1 : Int32)), (.int (2 : Int32)), (.ref r796)]))) (fun _ k => XS.iloadN X846.here hx rfl (hb hby at_107) rfl k) ?_
          refine oCallSW (y := (⟨"com/example/wildsolve/wildsolve/infer/FreshOrdinaryPinLaw", "check", "(Lcom/example/wildsolve/wildsolve/solver/Placeholder;IZ)Z"⟩ : MethodName)) X846 hx hZ hown (hw _ (List.mem_of_getElem? (i := 36) rfl)) (hw _ (List.mem_of_getElem? (i := 37) rfl)) (hw _ (List.mem_of_getElem? (i := 11) rfl)) (hw _ (List.mem_of_getElem? (i := 38) rfl)) (by decide) (rmCk21 l Z a0 hw r796 T820.heap n0 Z842 F838 F839 F840) e849 [(.ref r796), (.int (2 : Int32)), (.int (1 : Int32))] [] rfl rfl (by rw [hml]; rfl) (lenOf own_pd__Lcom_example_wildsolve_wildsolve_solver_Placeholder_IZ_Z rfl) 0 (Nat.le_of_eq rfl) (by decide) (by decide) (by decide) (by decide) (hb hby at_108) ?_
          intro v851 T852 L853 X854 q855
          obtain ⟨rfl, N856, e857⟩ := q855
          have N858 := Fr.app N850 N856
          show OGoalW p e below s _ _ _ (T852.setTop (mkF m 111 #[.val (.int p1), .val (.int (0 : Int32)), .val (.int (1 : Int32)), .val (.int (1 : Int32)), .val (.int (0 : Int32)), .val (.ref a761), .val (.ref r777), .val (.ref r796), .val (.ref r818)] [(.int (1 : Int32))]))
          refine OGoalW.mp (S' := (T852.setTop (mkF m 114 #[.val (.int p1), .val (.int (0 : Int32)), .val (.int (1 : Int32)), .val (.int (1 : Int32)), .val (.int (0 : Int32)), .val (.ref a761), .val (.ref r777), .val (.ref r796), .val (.ref r818)] []))) (fun _ k => XS.ifNo X854.here hx rfl (hb hby at_111) rfl (XT.i0_eq_f (by decide)) k) ?_
          refine OGoalW.mp (S' := (T852.setTop (mkF m 116 #[.val (.int p1), .val (.int (0 : Int32)), .val (.int (1 : Int32)), .val (.int (1 : Int32)), .val (.int (0 : Int32)), .val (.ref a761), .val (.ref r777), .val (.ref r796), .val (.ref r818)] [(.ref r818)]))) (fun _ k => XS.aload X854.here hx rfl (hb hby at_114) rfl rfl k) ?_
          refine OGoalW.mp (S' := (T852.setTop (mkF m 117 #[.val (.int p1), .val (.int (0 : Int32)), .val (.int (1 : Int32)), .val (.int (1 : Int32)), .val (.int (0 : Int32)), .val (.ref a761), .val (.ref r777), .val (.ref r796), .val (.ref r818)] [(.int (3 : Int32)), (.ref r818)]))) (fun _ k => XS.iconst X854.here hx rfl (hb hby at_116) k) ?_
          refine OGoalW.mp (S' := (T852.setTop (mkF m 118 #[.val (.int p1), .val (.int (0 : Int32)), .val (.int (1 : Int32)), .val (.int (1 : Int32)), .val (.int (0 : Int32)), .val (.ref a761), .val (.ref r777), .val (.ref r796), .val (.ref r818)] [(.int (1 : Int32)), (.int (3 : Int32)), (.ref r818)]))) (fun _ k => XS.iloadN X854.here hx rfl (hb hby at_117) rfl k) ?_
          refine oCallSW (y := (⟨"com/example/wildsolve/wildsolve/infer/FreshOrdinaryPinLaw", "check", "(Lcom/example/wildsolve/wildsolve/solver/Placeholder;IZ)Z"⟩ : MethodName)) X854 hx hZ hown (hw _ (List.mem_of_getElem? (i := 36) rfl)) (hw _ (List.mem_of_getElem? (i := 37) rfl)) (hw _ (List.mem_of_getElem? (i := 11) rfl)) (hw _ (List.mem_of_getElem? (i := 38) rfl)) (by decide) (rmCk31 l Z a0 hw r818 T820.heap n0 Z842 E827 F828 F829) e857 [(.ref r818), (.int (3 : Int32)), (.int (1 : Int32))] [] rfl rfl (by rw [hml]; rfl) (lenOf own_pd__Lcom_example_wildsolve_wildsolve_solver_Placeholder_IZ_Z rfl) 0 (Nat.le_of_eq rfl) (by decide) (by decide) (by decide) (by decide) (hb hby at_118) ?_
          intro v859 T860 L861 X862 q863
          obtain ⟨rfl, N864, e865⟩ := q863
          have N866 := Fr.app N858 N864
          show OGoalW p e below s _ _ _ (T860.setTop (mkF m 121 #[.val (.int p1), .val (.int (0 : Int32)), .val (.int (1 : Int32)), .val (.int (1 : Int32)), .val (.int (0 : Int32)), .val (.ref a761), .val (.ref r777), .val (.ref r796), .val (.ref r818)] [(.int (1 : Int32))]))
          refine OGoalW.mp (S' := (T860.setTop (mkF m 124 #[.val (.int p1), .val (.int (0 : Int32)), .val (.int (1 : Int32)), .val (.int (1 : Int32)), .val (.int (0 : Int32)), .val (.ref a761), .val (.ref r777), .val (.ref r796), .val (.ref r818)] []))) (fun _ k => XS.ifNo X862.here hx rfl (hb hby at_121) rfl (XT.i0_eq_f (by decide)) k) ?_
          refine OGoalW.mp (S' := (T860.setTop (mkF m 125 #[.val (.int p1), .val (.int (0 : Int32)), .val (.int (1 : Int32)), .val (.int (1 : Int32)), .val (.int (0 : Int32)), .val (.ref a761), .val (.ref r777), .val (.ref r796), .val (.ref r818)] [(.int (1 : Int32))]))) (fun _ k => XS.iconst X862.here hx rfl (hb hby at_124) k) ?_
          refine OGoalW.mp (S' := (T860.setTop (mkF m 129 #[.val (.int p1), .val (.int (0 : Int32)), .val (.int (1 : Int32)), .val (.int (1 : Int32)), .val (.int (0 : Int32)), .val (.ref a761), .val (.ref r777), .val (.ref r796), .val (.ref r818)] [(.int (1 : Int32))]))) (fun _ k => XS.goto X862.here hx rfl (pc0 := 125) (pc' := 129) rfl (hb hby at_125) (by decide) (by decide) k) ?_
          refine oRetZW X862 hS0 (Nat.le_trans (Nat.le_trans (Nat.le_trans (Nat.le_trans (Nat.le_trans (Nat.le_of_eq (congrArg Array.size hsh)) E758.1) K784.1) K803.1) K825.1) (Nat.le_of_eq (congrArg Array.size e865).symm)) hx hlk hret (Or.inr rfl) (hb hby at_129) ?_ (by decide) (by decide)
          exact ⟨rfl, N866⟩
        · refine OGoalW.mp (S' := (s₁.setTop (mkF m 43 #[.val (.int p1), .val (.int (0 : Int32)), .val (.int (1 : Int32)), .val (.int (1 : Int32)), .unset, .unset, .unset, .unset, .unset] []))) (fun _ k => XS.ifNo X0.here hx rfl (hb hby at_40) rfl (XT.i0_eq_f hc752) k) ?_
          refine OGoalW.mp (S' := (s₁.setTop (mkF m 44 #[.val (.int p1), .val (.int (0 : Int32)), .val (.int (1 : Int32)), .val (.int (1 : Int32)), .unset, .unset, .unset, .unset, .unset] [(.int (1 : Int32))]))) (fun _ k => XS.iconst X0.here hx rfl (hb hby at_43) k) ?_
          refine OGoalW.mp (S' := (s₁.setTop (mkF m 48 #[.val (.int p1), .val (.int (0 : Int32)), .val (.int (1 : Int32)), .val (.int (1 : Int32)), .unset, .unset, .unset, .unset, .unset] [(.int (1 : Int32))]))) (fun _ k => XS.goto X0.here hx rfl (pc0 := 44) (pc' := 48) rfl (hb hby at_44) (by decide) (by decide) k) ?_
          refine OGoalW.mp (S' := (s₁.setTop (mkF m 50 #[.val (.int p1), .val (.int (0 : Int32)), .val (.int (1 : Int32)), .val (.int (1 : Int32)), .val (.int (1 : Int32)), .unset, .unset, .unset, .unset] []))) (fun _ k => XS.istore X0.here hx rfl (hb hby at_48) rfl (l' := #[.val (.int p1), .val (.int (0 : Int32)), .val (.int (1 : Int32)), .val (.int (1 : Int32)), .val (.int (1 : Int32)), .unset, .unset, .unset, .unset]) rfl k) ?_
          obtain ⟨T867, h871, X868, e869, E872, A873, D874, -, st870⟩ := newO X0 hx hZ hown (hw _ (List.mem_of_getElem? (i := 0) rfl)) (hw _ (List.mem_of_getElem? (i := 1) rfl)) (hw _ (List.mem_of_getElem? (i := 2) rfl)) e0 (g := mkF m 50 #[.val (.int p1), .val (.int (0 : Int32)), .val (.int (1 : Int32)), .val (.int (1 : Int32)), .val (.int (1 : Int32)), .unset, .unset, .unset, .unset] []) rfl (hb hby at_50) (by decide) (by decide)
          obtain ⟨a875, g876⟩ : ∃ z, z = h0.size := ⟨_, rfl⟩
          rw [← g876] at A873 D874 st870
          have fr877 : h0.size ≤ a875 := by rw [g876]; exact (Keep.refl h0 []).1
          have K878 : Keep h0 h871 [] := (Keep.refl h0 []).ext E872
          have F879 : Fld Z h871 a875 "com/example/wildsolve/wildsolve/infer/Fresh" "placeholders" "I" (.int (0 : Int32)) := D874 (Or.inl (hw _ (List.mem_of_getElem? (i := 22) rfl))) (ty := .int) (by decide)
          have F880 : Fld Z h871 a875 "com/example/wildsolve/wildsolve/infer/Fresh" "variables" "I" (.int (0 : Int32)) := D874 (Or.inl (hw _ (List.mem_of_getElem? (i := 136) rfl))) (ty := .int) (by decide)
          have Z881 : n0 ≤ h871.size := Nat.le_trans Z0 E872.1
          have ab882 : n0 ≤ a875 := Nat.le_trans Z0 (Nat.le_of_eq g876.symm)
          refine OGoalW.mp (S' := (T867.setTop (mkF m 53 #[.val (.int p1), .val (.int (0 : Int32)), .val (.int (1 : Int32)), .val (.int (1 : Int32)), .val (.int (1 : Int32)), .unset, .unset, .unset, .unset] [(.ref a875)]))) (fun _ k => st870 _ k) ?_
          refine OGoalW.mp (S' := (T867.setTop (mkF m 54 #[.val (.int p1), .val (.int (0 : Int32)), .val (.int (1 : Int32)), .val (.int (1 : Int32)), .val (.int (1 : Int32)), .unset, .unset, .unset, .unset] [(.ref a875), (.ref a875)]))) (fun _ k => XS.dup X868.here hx rfl (hb hby at_53) rfl rfl k) ?_
          refine oCallNW (y := (⟨"com/example/wildsolve/wildsolve/infer/Fresh", "<init>", "()V"⟩ : MethodName)) X868 hx hZ rfl hown (hw _ (List.mem_of_getElem? (i := 3) rfl)) (hw _ (List.mem_of_getElem? (i := 4) rfl)) (hw _ (List.mem_of_getElem? (i := 2) rfl)) (hw _ (List.mem_of_getElem? (i := 5) rfl)) (by decide) (rmFI l Z a0 hw a875 h871 n0 Z881) e869 [] [(.ref a875)] rfl rfl (by rw [hml]; rfl) (lenOf own_pd___V rfl) 1 (Nat.le_of_eq rfl) (by decide) (by decide) (by decide) (by decide) (hb hby at_54) ?_
          intro v883 T884 L885 X886 q887
          obtain ⟨rfl, N888, e889⟩ := q887
          have N890 := Fr.app (Fr.nil n0) N888
          show OGoalW p e below s _ _ _ (T884.setTop (mkF m 57 #[.val (.int p1), .val (.int (0 : Int32)), .val (.int (1 : Int32)), .val (.int (1 : Int32)), .val (.int (1 : Int32)), .unset, .unset, .unset, .unset] [(.ref a875)]))
          refine OGoalW.mp (S' := (T884.setTop (mkF m 59 #[.val (.int p1), .val (.int (0 : Int32)), .val (.int (1 : Int32)), .val (.int (1 : Int32)), .val (.int (1 : Int32)), .val (.ref a875), .unset, .unset, .unset] []))) (fun _ k => XS.astore X886.here hx rfl (hb hby at_57) rfl rfl (l' := #[.val (.int p1), .val (.int (0 : Int32)), .val (.int (1 : Int32)), .val (.int (1 : Int32)), .val (.int (1 : Int32)), .val (.ref a875), .unset, .unset, .unset]) rfl k) ?_
          refine OGoalW.mp (S' := (T884.setTop (mkF m 61 #[.val (.int p1), .val (.int (0 : Int32)), .val (.int (1 : Int32)), .val (.int (1 : Int32)), .val (.int (1 : Int32)), .val (.ref a875), .unset, .unset, .unset] [(.ref a875)]))) (fun _ k => XS.aload X886.here hx rfl (hb hby at_59) rfl rfl k) ?_
          refine OGoalW.mp (S' := (T884.setTop (mkF m 62 #[.val (.int p1), .val (.int (0 : Int32)), .val (.int (1 : Int32)), .val (.int (1 : Int32)), .val (.int (1 : Int32)), .val (.ref a875), .unset, .unset, .unset] [(.int (0 : Int32)), (.ref a875)]))) (fun _ k => XS.iloadN X886.here hx rfl (hb hby at_61) rfl k) ?_
          refine oCallSW (y := (⟨"com/example/wildsolve/wildsolve/infer/FreshOrdinaryPinLaw", "step", "(Lcom/example/wildsolve/wildsolve/infer/Fresh;Z)Lcom/example/wildsolve/wildsolve/solver/Placeholder;"⟩ : MethodName)) X886 hx hZ hown (hw _ (List.mem_of_getElem? (i := 9) rfl)) (hw _ (List.mem_of_getElem? (i := 10) rfl)) (hw _ (List.mem_of_getElem? (i := 11) rfl)) (hw _ (List.mem_of_getElem? (i := 12) rfl)) (by decide) (rmSt0 l Z a0 hw a875 h871 n0 Z881 (0 : Int32) (1 : Int32) (0 : Int32) (by decide) A873 F879 F880 ab882) e889 [(.ref a875), (.int (0 : Int32))] [] rfl rfl (by rw [hml]; rfl) (lenOf own_pd__Lcom_example_wildsolve_wildsolve_infer_Fresh_Z_Lcom_example_wildsolve_wildsolve_solver_Placeholder_ rfl) 0 (Nat.le_of_eq rfl) (by decide) (by decide) (by decide) (by decide) (hb hby at_62) ?_
          intro v892 T893 L894 X895 q896
          obtain ⟨r891, rfl, N897, K898, hr899, E900, F901, F902, E903, F904, F905⟩ := q896
          have N906 := Fr.app N890 N897
          have lt907 : a875 < r891 := Nat.lt_of_lt_of_le A873.lt hr899
          have K908 : Keep h0 T893.heap [] := K878.trans K898 (allS (Or.inr fr877) all0)
          have Z909 : n0 ≤ T893.heap.size := Nat.le_trans Z881 K898.1
          show OGoalW p e below s _ _ _ (T893.setTop (mkF m 65 #[.val (.int p1), .val (.int (0 : Int32)), .val (.int (1 : Int32)), .val (.int (1 : Int32)), .val (.int (1 : Int32)), .val (.ref a875), .unset, .unset, .unset] [(.ref r891)]))
          refine OGoalW.mp (S' := (T893.setTop (mkF m 67 #[.val (.int p1), .val (.int (0 : Int32)), .val (.int (1 : Int32)), .val (.int (1 : Int32)), .val (.int (1 : Int32)), .val (.ref a875), .val (.ref r891), .unset, .unset] []))) (fun _ k => XS.astore X895.here hx rfl (hb hby at_65) rfl rfl (l' := #[.val (.int p1), .val (.int (0 : Int32)), .val (.int (1 : Int32)), .val (.int (1 : Int32)), .val (.int (1 : Int32)), .val (.ref a875), .val (.ref r891), .unset, .unset]) rfl k) ?_
          refine OGoalW.mp (S' := (T893.setTop (mkF m 69 #[.val (.int p1), .val (.int (0 : Int32)), .val (.int (1 : Int32)), .val (.int (1 : Int32)), .val (.int (1 : Int32)), .val (.ref a875), .val (.ref r891), .unset, .unset] [(.int (1 : Int32))]))) (fun _ k => XS.iload X895.here hx rfl (hb hby at_67) rfl k) ?_
          refine OGoalW.mp (S' := (T893.setTop (mkF m 72 #[.val (.int p1), .val (.int (0 : Int32)), .val (.int (1 : Int32)), .val (.int (1 : Int32)), .val (.int (1 : Int32)), .val (.ref a875), .val (.ref r891), .unset, .unset] []))) (fun _ k => XS.ifNo X895.here hx rfl (hb hby at_69) rfl (XT.i0_eq_f (by decide)) k) ?_
          refine OGoalW.mp (S' := (T893.setTop (mkF m 74 #[.val (.int p1), .val (.int (0 : Int32)), .val (.int (1 : Int32)), .val (.int (1 : Int32)), .val (.int (1 : Int32)), .val (.ref a875), .val (.ref r891), .unset, .unset] [(.ref a875)]))) (fun _ k => XS.aload X895.here hx rfl (hb hby at_72) rfl rfl k) ?_
          have nd911 : dg ≠ a875 := Nat.ne_of_lt (Nat.lt_of_lt_of_le Adg.lt fr877)
          refine oCallVS (y := (⟨"com/example/wildsolve/wildsolve/infer/Fresh", "variable", "()Ljava/lang/String;"⟩ : MethodName)) (z := (⟨"com/example/wildsolve/wildsolve/infer/Fresh", "variable", "()Ljava/lang/String;"⟩ : MethodName)) X895 hx hS0 (Nat.le_trans (Nat.le_trans (Nat.le_trans (Nat.le_of_eq (congrArg Array.size hsh)) E872.1) K898.1) (Nat.le_of_eq (congrArg Array.size rfl).symm)) hI hZ hown (hw _ (List.mem_of_getElem? (i := 54) rfl)) (hw _ (List.mem_of_getElem? (i := 55) rfl)) (hw _ (List.mem_of_getElem? (i := 57) rfl)) (hw _ (List.mem_of_getElem? (i := 56) rfl)) (hw _ (List.mem_of_getElem? (i := 2) rfl)) (hw _ (List.mem_of_getElem? (i := 58) rfl)) (by decide) (rmVa l Z a0 hw a875 T893.heap n0 Z909 (1 : Int32) cs hcs (Sta.ext (oKext K908) Scs) dg (Sta.ext (oKext K908) Sdg) df (Adg.ext (oKext K908)) xd hdf hxd nd911 E903 F905 F904 ab882 (fun b cl q => K908.2.1 b cl (hkp b cl q) nin0) hcw hch) rfl E903 [] [] rfl rfl (by rw [hml]; rfl) (notFace_of_selects (args := #[]) (mvT hZ (hw _ (List.mem_of_getElem? (i := 57) rfl)))) (lenOf own_pd___Ljava_lang_String_ rfl) 0 (Nat.le_of_eq rfl) (by decide) (by decide) (by decide) (by decide) (hb hby at_74) ?_
          intro v912 T913 L914 X915 hS917 hg918 hZ hown q916
          obtain ⟨r910, rfl, N919, K920, E921, F922, F923⟩ := q916
          have N924 := Fr.app N906 N919
          have F925 := E900.keep K920
          have F926 := F901.keep K920 (ninS (Nat.ne_of_gt lt907) nin0)
          have F927 := F902.keep K920 (ninS (Nat.ne_of_gt lt907) nin0)
          have K928 : Keep h0 T913.heap [] := K908.trans K920 (allS (Or.inr fr877) all0)
          have Z929 : n0 ≤ T913.heap.size := Nat.le_trans Z909 K920.1
          show OGoalW p e below s _ _ _ (T913.setTop (mkF m 77 #[.val (.int p1), .val (.int (0 : Int32)), .val (.int (1 : Int32)), .val (.int (1 : Int32)), .val (.int (1 : Int32)), .val (.ref a875), .val (.ref r891), .unset, .unset] [(.ref r910)]))
          refine OGoalW.mp (S' := (T913.setTop (mkF m 78 #[.val (.int p1), .val (.int (0 : Int32)), .val (.int (1 : Int32)), .val (.int (1 : Int32)), .val (.int (1 : Int32)), .val (.ref a875), .val (.ref r891), .unset, .unset] []))) (fun _ k => XT.pop X915.here hx rfl (hb hby at_77) rfl rfl k) ?_
          refine OGoalW.mp (S' := (T913.setTop (mkF m 80 #[.val (.int p1), .val (.int (0 : Int32)), .val (.int (1 : Int32)), .val (.int (1 : Int32)), .val (.int (1 : Int32)), .val (.ref a875), .val (.ref r891), .unset, .unset] [(.ref a875)]))) (fun _ k => XS.aload X915.here hx rfl (hb hby at_78) rfl rfl k) ?_
          refine OGoalW.mp (S' := (T913.setTop (mkF m 81 #[.val (.int p1), .val (.int (0 : Int32)), .val (.int (1 : Int32)), .val (.int (1 : Int32)), .val (.int (1 : Int32)), .val (.ref a875), .val (.ref r891), .unset, .unset] [(.int (1 : Int32)), (.ref a875)]))) (fun _ k => XS.iloadN X915.here hx rfl (hb hby at_80) rfl k) ?_
          refine oCallSW (y := (⟨"com/example/wildsolve/wildsolve/infer/FreshOrdinaryPinLaw", "step", "(Lcom/example/wildsolve/wildsolve/infer/Fresh;Z)Lcom/example/wildsolve/wildsolve/solver/Placeholder;"⟩ : MethodName)) X915 hx hZ hown (hw _ (List.mem_of_getElem? (i := 9) rfl)) (hw _ (List.mem_of_getElem? (i := 10) rfl)) (hw _ (List.mem_of_getElem? (i := 11) rfl)) (hw _ (List.mem_of_getElem? (i := 12) rfl)) (by decide) (rmSt1 l Z a0 hw a875 T913.heap n0 Z929 (1 : Int32) (2 : Int32) (1 : Int32) (by decide) E921 F922 F923 ab882) rfl [(.ref a875), (.int (1 : Int32))] [] rfl rfl (by rw [hml]; rfl) (lenOf own_pd__Lcom_example_wildsolve_wildsolve_infer_Fresh_Z_Lcom_example_wildsolve_wildsolve_solver_Placeholder_ rfl) 0 (Nat.le_of_eq rfl) (by decide) (by decide) (by decide) (by decide) (hb hby at_81) ?_
          intro v931 T932 L933 X934 q935
          obtain ⟨r930, rfl, N936, K937, hr938, E939, F940, F941, E942, F943, F944⟩ := q935
          have N945 := Fr.app N924 N936
          have lt946 : a875 < r930 := Nat.lt_of_lt_of_le E921.lt hr938
          have F947 := F925.keep K937
          have F948 := F926.keep K937 (ninS (Nat.ne_of_gt lt907) nin0)
          have F949 := F927.keep K937 (ninS (Nat.ne_of_gt lt907) nin0)
          have K950 : Keep h0 T932.heap [] := K928.trans K937 (allS (Or.inr fr877) all0)
          have Z951 : n0 ≤ T932.heap.size := Nat.le_trans Z929 K937.1
          show OGoalW p e below s _ _ _ (T932.setTop (mkF m 84 #[.val (.int p1), .val (.int (0 : Int32)), .val (.int (1 : Int32)), .val (.int (1 : Int32)), .val (.int (1 : Int32)), .val (.ref a875), .val (.ref r891), .unset, .unset] [(.ref r930)]))
          refine OGoalW.mp (S' := (T932.setTop (mkF m 86 #[.val (.int p1), .val (.int (0 : Int32)), .val (.int (1 : Int32)), .val (.int (1 : Int32)), .val (.int (1 : Int32)), .val (.ref a875), .val (.ref r891), .val (.ref r930), .unset] []))) (fun _ k => XS.astore X934.here hx rfl (hb hby at_84) rfl rfl (l' := #[.val (.int p1), .val (.int (0 : Int32)), .val (.int (1 : Int32)), .val (.int (1 : Int32)), .val (.int (1 : Int32)), .val (.ref a875), .val (.ref r891), .val (.ref r930), .unset]) rfl k) ?_
          refine OGoalW.mp (S' := (T932.setTop (mkF m 88 #[.val (.int p1), .val (.int (0 : Int32)), .val (.int (1 : Int32)), .val (.int (1 : Int32)), .val (.int (1 : Int32)), .val (.ref a875), .val (.ref r891), .val (.ref r930), .unset] [(.ref a875)]))) (fun _ k => XS.aload X934.here hx rfl (hb hby at_86) rfl rfl k) ?_
          refine OGoalW.mp (S' := (T932.setTop (mkF m 89 #[.val (.int p1), .val (.int (0 : Int32)), .val (.int (1 : Int32)), .val (.int (1 : Int32)), .val (.int (1 : Int32)), .val (.ref a875), .val (.ref r891), .val (.ref r930), .unset] [(.int (1 : Int32)), (.ref a875)]))) (fun _ k => XS.iloadN X934.here hx rfl (hb hby at_88) rfl k) ?_
          refine oCallSW (y := (⟨"com/example/wildsolve/wildsolve/infer/FreshOrdinaryPinLaw", "step", "(Lcom/example/wildsolve/wildsolve/infer/Fresh;Z)Lcom/example/wildsolve/wildsolve/solver/Placeholder;"⟩ : MethodName)) X934 hx hZ hown (hw _ (List.mem_of_getElem? (i := 9) rfl)) (hw _ (List.mem_of_getElem? (i := 10) rfl)) (hw _ (List.mem_of_getElem? (i := 11) rfl)) (hw _ (List.mem_of_getElem? (i := 12) rfl)) (by decide) (rmSt1 l Z a0 hw a875 T932.heap n0 Z951 (2 : Int32) (3 : Int32) (1 : Int32) (by decide) E942 F943 F944 ab882) rfl [(.ref a875), (.int (1 : Int32))] [] rfl rfl (by rw [hml]; rfl) (lenOf own_pd__Lcom_example_wildsolve_wildsolve_infer_Fresh_Z_Lcom_example_wildsolve_wildsolve_solver_Placeholder_ rfl) 0 (Nat.le_of_eq rfl) (by decide) (by decide) (by decide) (by decide) (hb hby at_89) ?_
          intro v953 T954 L955 X956 q957
          obtain ⟨r952, rfl, N958, K959, hr960, E961, F962, F963, E964, F965, F966⟩ := q957
          have N967 := Fr.app N945 N958
          have lt968 : a875 < r952 := Nat.lt_of_lt_of_le E942.lt hr960
          have F969 := F947.keep K959
          have F970 := F948.keep K959 (ninS (Nat.ne_of_gt lt907) nin0)
          have F971 := F949.keep K959 (ninS (Nat.ne_of_gt lt907) nin0)
          have F972 := E939.keep K959
          have F973 := F940.keep K959 (ninS (Nat.ne_of_gt lt946) nin0)
          have F974 := F941.keep K959 (ninS (Nat.ne_of_gt lt946) nin0)
          have K975 : Keep h0 T954.heap [] := K950.trans K959 (allS (Or.inr fr877) all0)
          have Z976 : n0 ≤ T954.heap.size := Nat.le_trans Z951 K959.1
          show OGoalW p e below s _ _ _ (T954.setTop (mkF m 92 #[.val (.int p1), .val (.int (0 : Int32)), .val (.int (1 : Int32)), .val (.int (1 : Int32)), .val (.int (1 : Int32)), .val (.ref a875), .val (.ref r891), .val (.ref r930), .unset] [(.ref r952)]))
          refine OGoalW.mp (S' := (T954.setTop (mkF m 94 #[.val (.int p1), .val (.int (0 : Int32)), .val (.int (1 : Int32)), .val (.int (1 : Int32)), .val (.int (1 : Int32)), .val (.ref a875), .val (.ref r891), .val (.ref r930), .val (.ref r952)] []))) (fun _ k => XS.astore X956.here hx rfl (hb hby at_92) rfl rfl (l' := #[.val (.int p1), .val (.int (0 : Int32)), .val (.int (1 : Int32)), .val (.int (1 : Int32)), .val (.int (1 : Int32)), .val (.ref a875), .val (.ref r891), .val (.ref r930), .val (.ref r952)]) rfl k) ?_
          refine OGoalW.mp (S' := (T954.setTop (mkF m 96 #[.val (.int p1), .val (.int (0 : Int32)), .val (.int (1 : Int32)), .val (.int (1 : Int32)), .val (.int (1 : Int32)), .val (.ref a875), .val (.ref r891), .val (.ref r930), .val (.ref r952)] [(.ref r891)]))) (fun _ k => XS.aload X956.here hx rfl (hb hby at_94) rfl rfl k) ?_
          refine OGoalW.mp (S' := (T954.setTop (mkF m 97 #[.val (.int p1), .val (.int (0 : Int32)), .val (.int (1 : Int32)), .val (.int (1 : Int32)), .val (.int (1 : Int32)), .val (.ref a875), .val (.ref r891), .val (.ref r930), .val (.ref r952)] [(.int (1 : Int32)), (.ref r891)]))) (fun _ k => XS.iconst X956.here hx rfl (hb hby at_96) k) ?_
          refine OGoalW.mp (S' := (T954.setTop (mkF m 98 #[.val (.int p1), .val (.int (0 : Int32)), .val (.int (1 : Int32)), .val (.int (1 : Int32)), .val (.int (1 : Int32)), .val (.ref a875), .val (.ref r891), .val (.ref r930), .val (.ref r952)] [(.int (0 : Int32)), (.int (1 : Int32)), (.ref r891)]))) (fun _ k => XS.iloadN X956.here hx rfl (hb hby at_97) rfl k) ?_
          refine oCallSW (y := (⟨"com/example/wildsolve/wildsolve/infer/FreshOrdinaryPinLaw", "check", "(Lcom/example/wildsolve/wildsolve/solver/Placeholder;IZ)Z"⟩ : MethodName)) X956 hx hZ hown (hw _ (List.mem_of_getElem? (i := 36) rfl)) (hw _ (List.mem_of_getElem? (i := 37) rfl)) (hw _ (List.mem_of_getElem? (i := 11) rfl)) (hw _ (List.mem_of_getElem? (i := 38) rfl)) (by decide) (rmCk10 l Z a0 hw r891 T954.heap n0 Z976 F969 F970 F971) rfl [(.ref r891), (.int (1 : Int32)), (.int (0 : Int32))] [] rfl rfl (by rw [hml]; rfl) (lenOf own_pd__Lcom_example_wildsolve_wildsolve_solver_Placeholder_IZ_Z rfl) 0 (Nat.le_of_eq rfl) (by decide) (by decide) (by decide) (by decide) (hb hby at_98) ?_
          intro v977 T978 L979 X980 q981
          obtain ⟨rfl, N982, e983⟩ := q981
          have N984 := Fr.app N967 N982
          show OGoalW p e below s _ _ _ (T978.setTop (mkF m 101 #[.val (.int p1), .val (.int (0 : Int32)), .val (.int (1 : Int32)), .val (.int (1 : Int32)), .val (.int (1 : Int32)), .val (.ref a875), .val (.ref r891), .val (.ref r930), .val (.ref r952)] [(.int (1 : Int32))]))
          refine OGoalW.mp (S' := (T978.setTop (mkF m 104 #[.val (.int p1), .val (.int (0 : Int32)), .val (.int (1 : Int32)), .val (.int (1 : Int32)), .val (.int (1 : Int32)), .val (.ref a875), .val (.ref r891), .val (.ref r930), .val (.ref r952)] []))) (fun _ k => XS.ifNo X980.here hx rfl (hb hby at_101) rfl (XT.i0_eq_f (by decide)) k) ?_
          refine OGoalW.mp (S' := (T978.setTop (mkF m 106 #[.val (.int p1), .val (.int (0 : Int32)), .val (.int (1 : Int32)), .val (.int (1 : Int32)), .val (.int (1 : Int32)), .val (.ref a875), .val (.ref r891), .val (.ref r930), .val (.ref r952)] [(.ref r930)]))) (fun _ k => XS.aload X980.here hx rfl (hb hby at_104) rfl rfl k) ?_
          refine OGoalW.mp (S' := (T978.setTop (mkF m 107 #[.val (.int p1), .val (.int (0 : Int32)), .val (.int (1 : Int32)), .val (.int (1 : Int32)), .val (.int (1 : Int32)), .val (.ref a875), .val (.ref r891), .val (.ref r930), .val (.ref r952)] [(.int (2 : Int32)), (.ref r930)]))) (fun _ k => XS.iconst X980.here hx rfl (hb hby at_106) k) ?_
          refine OGoalW.mp (S' := (T978.setTop (mkF m 108 #[.val (.int p1), .val (.int (0 : Int32)), .val (.int (1 : Int32)), .val (.int (1 : Int32)), .val (.int (1 : Int32)), .val (.ref a875), .val (.ref r891), .val (.ref r930), .val (.ref r952)] [(.int (1 : Int32)), (.int (2 : Int32)), (.ref r930)]))) (fun _ k => XS.iloadN X980.here hx rfl (hb hby at_107) rfl k) ?_
          refine oCallSW (y := (⟨"com/example/wildsolve/wildsolve/infer/FreshOrdinaryPinLaw", "check", "(Lcom/example/wildsolve/wildsolve/solver/Placeholder;IZ)Z"⟩ : MethodName)) X980 hx hZ hown (hw _ (List.mem_of_getElem? (i := 36) rfl)) (hw _ (List.mem_of_getElem? (i := 37) rfl)) (hw _ (List.mem_of_getElem? (i := 11) rfl)) (hw _ (List.mem_of_getElem? (i := 38) rfl)) (by decide) (rmCk21 l Z a0 hw r930 T954.heap n0 Z976 F972 F973 F974) e983 [(.ref r930), (.int (2 : Int32)), (.int (1 : Int32))] [] rfl rfl (by rw [hml]; rfl) (lenOf own_pd__Lcom_example_wildsolve_wildsolve_solver_Placeholder_IZ_Z rfl) 0 (Nat.le_of_eq rfl) (by decide) (by decide) (by decide) (by decide) (hb hby at_108) ?_
          intro v985 T986 L987 X988 q989
          obtain ⟨rfl, N990, e991⟩ := q989
          have N992 := Fr.app N984 N990
          show OGoalW p e below s _ _ _ (T986.setTop (mkF m 111 #[.val (.int p1), .val (.int (0 : Int32)), .val (.int (1 : Int32)), .val (.int (1 : Int32)), .val (.int (1 : Int32)), .val (.ref a875), .val (.ref r891), .val (.ref r930), .val (.ref r952)] [(.int (1 : Int32))]))
          refine OGoalW.mp (S' := (T986.setTop (mkF m 114 #[.val (.int p1), .val (.int (0 : Int32)), .val (.int (1 : Int32)), .val (.int (1 : Int32)), .val (.int (1 : Int32)), .val (.ref a875), .val (.ref r891), .val (.ref r930), .val (.ref r952)] []))) (fun _ k => XS.ifNo X988.here hx rfl (hb hby at_111) rfl (XT.i0_eq_f (by decide)) k) ?_
          refine OGoalW.mp (S' := (T986.setTop (mkF m 116 #[.val (.int p1), .val (.int (0 : Int32)), .val (.int (1 : Int32)), .val (.int (1 : Int32)), .val (.int (1 : Int32)), .val (.ref a875), .val (.ref r891), .val (.ref r930), .val (.ref r952)] [(.ref r952)]))) (fun _ k => XS.aload X988.here hx rfl (hb hby at_114) rfl rfl k) ?_
          refine OGoalW.mp (S' := (T986.setTop (mkF m 117 #[.val (.int p1), .val (.int (0 : Int32)), .val (.int (1 : Int32)), .val (.int (1 : Int32)), .val (.int (1 : Int32)), .val (.ref a875), .val (.ref r891), .val (.ref r930), .val (.ref r952)] [(.int (3 : Int32)), (.ref r952)]))) (fun _ k => XS.iconst X988.here hx rfl (hb hby at_116) k) ?_
          refine OGoalW.mp (S' := (T986.setTop (mkF m 118 #[.val (.int p1), .val (.int (0 : Int32)), .val (.int (1 : Int32)), .val (.int (1 : Int32)), .val (.int (1 : Int32)), .val (.ref a875), .val (.ref r891), .val (.ref r930), .val (.ref r952)] [(.int (1 : Int32)), (.int (3 : Int32)), (.ref r952)]))) (fun _ k => XS.iloadN X988.here hx rfl (hb hby at_117) rfl k) ?_
          refine oCallSW (y := (⟨"com/example/wildsolve/wildsolve/infer/FreshOrdinaryPinLaw", "check", "(Lcom/example/wildsolve/wildsolve/solver/Placeholder;IZ)Z"⟩ : MethodName)) X988 hx hZ hown (hw _ (List.mem_of_getElem? (i := 36) rfl)) (hw _ (List.mem_of_getElem? (i := 37) rfl)) (hw _ (List.mem_of_getElem? (i := 11) rfl)) (hw _ (List.mem_of_getElem? (i := 38) rfl)) (by decide) (rmCk31 l Z a0 hw r952 T954.heap n0 Z976 E961 F962 F963) e991 [(.ref r952), (.int (3 : Int32)), (.int (1 : Int32))] [] rfl rfl (by rw [hml]; rfl) (lenOf own_pd__Lcom_example_wildsolve_wildsolve_solver_Placeholder_IZ_Z rfl) 0 (Nat.le_of_eq rfl) (by decide) (by decide) (by decide) (by decide) (hb hby at_118) ?_
          intro v993 T994 L995 X996 q997
          obtain ⟨rfl, N998, e999⟩ := q997
          have N1000 := Fr.app N992 N998
          show OGoalW p e below s _ _ _ (T994.setTop (mkF m 121 #[.val (.int p1), .val (.int (0 : Int32)), .val (.int (1 : Int32)), .val (.int (1 : Int32)), .val (.int (1 : Int32)), .val (.ref a875), .val (.ref r891), .val (.ref r930), .val (.ref r952)] [(.int (1 : Int32))]))
          refine OGoalW.mp (S' := (T994.setTop (mkF m 124 #[.val (.int p1), .val (.int (0 : Int32)), .val (.int (1 : Int32)), .val (.int (1 : Int32)), .val (.int (1 : Int32)), .val (.ref a875), .val (.ref r891), .val (.ref r930), .val (.ref r952)] []))) (fun _ k => XS.ifNo X996.here hx rfl (hb hby at_121) rfl (XT.i0_eq_f (by decide)) k) ?_
          refine OGoalW.mp (S' := (T994.setTop (mkF m 125 #[.val (.int p1), .val (.int (0 : Int32)), .val (.int (1 : Int32)), .val (.int (1 : Int32)), .val (.int (1 : Int32)), .val (.ref a875), .val (.ref r891), .val (.ref r930), .val (.ref r952)] [(.int (1 : Int32))]))) (fun _ k => XS.iconst X996.here hx rfl (hb hby at_124) k) ?_
          refine OGoalW.mp (S' := (T994.setTop (mkF m 129 #[.val (.int p1), .val (.int (0 : Int32)), .val (.int (1 : Int32)), .val (.int (1 : Int32)), .val (.int (1 : Int32)), .val (.ref a875), .val (.ref r891), .val (.ref r930), .val (.ref r952)] [(.int (1 : Int32))]))) (fun _ k => XS.goto X996.here hx rfl (pc0 := 125) (pc' := 129) rfl (hb hby at_125) (by decide) (by decide) k) ?_
          refine oRetZW X996 hS917 (Nat.le_trans (Nat.le_trans (Nat.le_trans (Nat.le_refl _) K937.1) K959.1) (Nat.le_of_eq (congrArg Array.size e999).symm)) hx hlk hret (Or.inr rfl) (hb hby at_129) ?_ (by decide) (by decide)
          exact ⟨rfl, N1000⟩
  · refine OGoalW.mp (S' := (s₁.setTop (mkF m 6 #[.val (.int p1), .unset, .unset, .unset, .unset, .unset, .unset, .unset, .unset] []))) (fun _ k => XS.ifNo X0.here hx rfl (hb hby at_3) rfl (XT.i0_eq_f hc1) k) ?_
    refine OGoalW.mp (S' := (s₁.setTop (mkF m 7 #[.val (.int p1), .unset, .unset, .unset, .unset, .unset, .unset, .unset, .unset] [(.int (1 : Int32))]))) (fun _ k => XS.iconst X0.here hx rfl (hb hby at_6) k) ?_
    refine OGoalW.mp (S' := (s₁.setTop (mkF m 11 #[.val (.int p1), .unset, .unset, .unset, .unset, .unset, .unset, .unset, .unset] [(.int (1 : Int32))]))) (fun _ k => XS.goto X0.here hx rfl (pc0 := 7) (pc' := 11) rfl (hb hby at_7) (by decide) (by decide) k) ?_
    refine OGoalW.mp (S' := (s₁.setTop (mkF m 12 #[.val (.int p1), .val (.int (1 : Int32)), .unset, .unset, .unset, .unset, .unset, .unset, .unset] []))) (fun _ k => XS.istoreN X0.here hx rfl (hb hby at_11) rfl (l' := #[.val (.int p1), .val (.int (1 : Int32)), .unset, .unset, .unset, .unset, .unset, .unset, .unset]) rfl k) ?_
    refine OGoalW.mp (S' := (s₁.setTop (mkF m 13 #[.val (.int p1), .val (.int (1 : Int32)), .unset, .unset, .unset, .unset, .unset, .unset, .unset] [(.int p1)]))) (fun _ k => XS.iloadN X0.here hx rfl (hb hby at_12) rfl k) ?_
    refine OGoalW.mp (S' := (s₁.setTop (mkF m 14 #[.val (.int p1), .val (.int (1 : Int32)), .unset, .unset, .unset, .unset, .unset, .unset, .unset] [(.int (2 : Int32)), (.int p1)]))) (fun _ k => XS.iconst X0.here hx rfl (hb hby at_13) k) ?_
    refine OGoalW.mp (S' := (s₁.setTop (mkF m 15 #[.val (.int p1), .val (.int (1 : Int32)), .unset, .unset, .unset, .unset, .unset, .unset, .unset] [(.int (p1 &&& (2 : Int32)))]))) (fun _ k => XS.iand X0.here hx rfl (hb hby at_14) rfl k) ?_
    by_cases hc1001 : (p1 &&& (2 : Int32)) = 0
    · refine OGoalW.mp (S' := (s₁.setTop (mkF m 22 #[.val (.int p1), .val (.int (1 : Int32)), .unset, .unset, .unset, .unset, .unset, .unset, .unset] []))) (fun _ k => XS.ifYes X0.here hx rfl (pc0 := 15) (pc' := 22) rfl (hb hby at_15) rfl (XT.i0_eq_t hc1001) (by decide) (by decide) k) ?_
      refine OGoalW.mp (S' := (s₁.setTop (mkF m 23 #[.val (.int p1), .val (.int (1 : Int32)), .unset, .unset, .unset, .unset, .unset, .unset, .unset] [(.int (0 : Int32))]))) (fun _ k => XS.iconst X0.here hx rfl (hb hby at_22) k) ?_
      refine OGoalW.mp (S' := (s₁.setTop (mkF m 24 #[.val (.int p1), .val (.int (1 : Int32)), .val (.int (0 : Int32)), .unset, .unset, .unset, .unset, .unset, .unset] []))) (fun _ k => XS.istoreN X0.here hx rfl (hb hby at_23) rfl (l' := #[.val (.int p1), .val (.int (1 : Int32)), .val (.int (0 : Int32)), .unset, .unset, .unset, .unset, .unset, .unset]) rfl k) ?_
      refine OGoalW.mp (S' := (s₁.setTop (mkF m 25 #[.val (.int p1), .val (.int (1 : Int32)), .val (.int (0 : Int32)), .unset, .unset, .unset, .unset, .unset, .unset] [(.int p1)]))) (fun _ k => XS.iloadN X0.here hx rfl (hb hby at_24) rfl k) ?_
      refine OGoalW.mp (S' := (s₁.setTop (mkF m 26 #[.val (.int p1), .val (.int (1 : Int32)), .val (.int (0 : Int32)), .unset, .unset, .unset, .unset, .unset, .unset] [(.int (4 : Int32)), (.int p1)]))) (fun _ k => XS.iconst X0.here hx rfl (hb hby at_25) k) ?_
      refine OGoalW.mp (S' := (s₁.setTop (mkF m 27 #[.val (.int p1), .val (.int (1 : Int32)), .val (.int (0 : Int32)), .unset, .unset, .unset, .unset, .unset, .unset] [(.int (p1 &&& (4 : Int32)))]))) (fun _ k => XS.iand X0.here hx rfl (hb hby at_26) rfl k) ?_
      by_cases hc1002 : (p1 &&& (4 : Int32)) = 0
      · refine OGoalW.mp (S' := (s₁.setTop (mkF m 34 #[.val (.int p1), .val (.int (1 : Int32)), .val (.int (0 : Int32)), .unset, .unset, .unset, .unset, .unset, .unset] []))) (fun _ k => XS.ifYes X0.here hx rfl (pc0 := 27) (pc' := 34) rfl (hb hby at_27) rfl (XT.i0_eq_t hc1002) (by decide) (by decide) k) ?_
        refine OGoalW.mp (S' := (s₁.setTop (mkF m 35 #[.val (.int p1), .val (.int (1 : Int32)), .val (.int (0 : Int32)), .unset, .unset, .unset, .unset, .unset, .unset] [(.int (0 : Int32))]))) (fun _ k => XS.iconst X0.here hx rfl (hb hby at_34) k) ?_
        refine OGoalW.mp (S' := (s₁.setTop (mkF m 36 #[.val (.int p1), .val (.int (1 : Int32)), .val (.int (0 : Int32)), .val (.int (0 : Int32)), .unset, .unset, .unset, .unset, .unset] []))) (fun _ k => XS.istoreN X0.here hx rfl (hb hby at_35) rfl (l' := #[.val (.int p1), .val (.int (1 : Int32)), .val (.int (0 : Int32)), .val (.int (0 : Int32)), .unset, .unset, .unset, .unset, .unset]) rfl k) ?_
        refine OGoalW.mp (S' := (s₁.setTop (mkF m 37 #[.val (.int p1), .val (.int (1 : Int32)), .val (.int (0 : Int32)), .val (.int (0 : Int32)), .unset, .unset, .unset, .unset, .unset] [(.int p1)]))) (fun _ k => XS.iloadN X0.here hx rfl (hb hby at_36) rfl k) ?_
        refine OGoalW.mp (S' := (s₁.setTop (mkF m 39 #[.val (.int p1), .val (.int (1 : Int32)), .val (.int (0 : Int32)), .val (.int (0 : Int32)), .unset, .unset, .unset, .unset, .unset] [(.int (8 : Int32)), (.int p1)]))) (fun _ k => XS.bipush X0.here hx rfl (hb hby at_37) k) ?_
        refine OGoalW.mp (S' := (s₁.setTop (mkF m 40 #[.val (.int p1), .val (.int (1 : Int32)), .val (.int (0 : Int32)), .val (.int (0 : Int32)), .unset, .unset, .unset, .unset, .unset] [(.int (p1 &&& (8 : Int32)))]))) (fun _ k => XS.iand X0.here hx rfl (hb hby at_39) rfl k) ?_
        by_cases hc1003 : (p1 &&& (8 : Int32)) = 0
        · refine OGoalW.mp (S' := (s₁.setTop (mkF m 47 #[.val (.int p1), .val (.int (1 : Int32)), .val (.int (0 : Int32)), .val (.int (0 : Int32)), .unset, .unset, .unset, .unset, .unset] []))) (fun _ k => XS.ifYes X0.here hx rfl (pc0 := 40) (pc' := 47) rfl (hb hby at_40) rfl (XT.i0_eq_t hc1003) (by decide) (by decide) k) ?_
          refine OGoalW.mp (S' := (s₁.setTop (mkF m 48 #[.val (.int p1), .val (.int (1 : Int32)), .val (.int (0 : Int32)), .val (.int (0 : Int32)), .unset, .unset, .unset, .unset, .unset] [(.int (0 : Int32))]))) (fun _ k => XS.iconst X0.here hx rfl (hb hby at_47) k) ?_
          refine OGoalW.mp (S' := (s₁.setTop (mkF m 50 #[.val (.int p1), .val (.int (1 : Int32)), .val (.int (0 : Int32)), .val (.int (0 : Int32)), .val (.int (0 : Int32)), .unset, .unset, .unset, .unset] []))) (fun _ k => XS.istore X0.here hx rfl (hb hby at_48) rfl (l' := #[.val (.int p1), .val (.int (1 : Int32)), .val (.int (0 : Int32)), .val (.int (0 : Int32)), .val (.int (0 : Int32)), .unset, .unset, .unset, .unset]) rfl k) ?_
          obtain ⟨T1004, h1008, X1005, e1006, E1009, A1010, D1011, -, st1007⟩ := newO X0 hx hZ hown (hw _ (List.mem_of_getElem? (i := 0) rfl)) (hw _ (List.mem_of_getElem? (i := 1) rfl)) (hw _ (List.mem_of_getElem? (i := 2) rfl)) e0 (g := mkF m 50 #[.val (.int p1), .val (.int (1 : Int32)), .val (.int (0 : Int32)), .val (.int (0 : Int32)), .val (.int (0 : Int32)), .unset, .unset, .unset, .unset] []) rfl (hb hby at_50) (by decide) (by decide)
          obtain ⟨a1012, g1013⟩ : ∃ z, z = h0.size := ⟨_, rfl⟩
          rw [← g1013] at A1010 D1011 st1007
          have fr1014 : h0.size ≤ a1012 := by rw [g1013]; exact (Keep.refl h0 []).1
          have K1015 : Keep h0 h1008 [] := (Keep.refl h0 []).ext E1009
          have F1016 : Fld Z h1008 a1012 "com/example/wildsolve/wildsolve/infer/Fresh" "placeholders" "I" (.int (0 : Int32)) := D1011 (Or.inl (hw _ (List.mem_of_getElem? (i := 22) rfl))) (ty := .int) (by decide)
          have F1017 : Fld Z h1008 a1012 "com/example/wildsolve/wildsolve/infer/Fresh" "variables" "I" (.int (0 : Int32)) := D1011 (Or.inl (hw _ (List.mem_of_getElem? (i := 136) rfl))) (ty := .int) (by decide)
          have Z1018 : n0 ≤ h1008.size := Nat.le_trans Z0 E1009.1
          have ab1019 : n0 ≤ a1012 := Nat.le_trans Z0 (Nat.le_of_eq g1013.symm)
          refine OGoalW.mp (S' := (T1004.setTop (mkF m 53 #[.val (.int p1), .val (.int (1 : Int32)), .val (.int (0 : Int32)), .val (.int (0 : Int32)), .val (.int (0 : Int32)), .unset, .unset, .unset, .unset] [(.ref a1012)]))) (fun _ k => st1007 _ k) ?_
          refine OGoalW.mp (S' := (T1004.setTop (mkF m 54 #[.val (.int p1), .val (.int (1 : Int32)), .val (.int (0 : Int32)), .val (.int (0 : Int32)), .val (.int (0 : Int32)), .unset, .unset, .unset, .unset] [(.ref a1012), (.ref a1012)]))) (fun _ k => XS.dup X1005.here hx rfl (hb hby at_53) rfl rfl k) ?_
          refine oCallNW (y := (⟨"com/example/wildsolve/wildsolve/infer/Fresh", "<init>", "()V"⟩ : MethodName)) X1005 hx hZ rfl hown (hw _ (List.mem_of_getElem? (i := 3) rfl)) (hw _ (List.mem_of_getElem? (i := 4) rfl)) (hw _ (List.mem_of_getElem? (i := 2) rfl)) (hw _ (List.mem_of_getElem? (i := 5) rfl)) (by decide) (rmFI l Z a0 hw a1012 h1008 n0 Z1018) e1006 [] [(.ref a1012)] rfl rfl (by rw [hml]; rfl) (lenOf own_pd___V rfl) 1 (Nat.le_of_eq rfl) (by decide) (by decide) (by decide) (by decide) (hb hby at_54) ?_
          intro v1020 T1021 L1022 X1023 q1024
          obtain ⟨rfl, N1025, e1026⟩ := q1024
          have N1027 := Fr.app (Fr.nil n0) N1025
          show OGoalW p e below s _ _ _ (T1021.setTop (mkF m 57 #[.val (.int p1), .val (.int (1 : Int32)), .val (.int (0 : Int32)), .val (.int (0 : Int32)), .val (.int (0 : Int32)), .unset, .unset, .unset, .unset] [(.ref a1012)]))
          refine OGoalW.mp (S' := (T1021.setTop (mkF m 59 #[.val (.int p1), .val (.int (1 : Int32)), .val (.int (0 : Int32)), .val (.int (0 : Int32)), .val (.int (0 : Int32)), .val (.ref a1012), .unset, .unset, .unset] []))) (fun _ k => XS.astore X1023.here hx rfl (hb hby at_57) rfl rfl (l' := #[.val (.int p1), .val (.int (1 : Int32)), .val (.int (0 : Int32)), .val (.int (0 : Int32)), .val (.int (0 : Int32)), .val (.ref a1012), .unset, .unset, .unset]) rfl k) ?_
          refine OGoalW.mp (S' := (T1021.setTop (mkF m 61 #[.val (.int p1), .val (.int (1 : Int32)), .val (.int (0 : Int32)), .val (.int (0 : Int32)), .val (.int (0 : Int32)), .val (.ref a1012), .unset, .unset, .unset] [(.ref a1012)]))) (fun _ k => XS.aload X1023.here hx rfl (hb hby at_59) rfl rfl k) ?_
          refine OGoalW.mp (S' := (T1021.setTop (mkF m 62 #[.val (.int p1), .val (.int (1 : Int32)), .val (.int (0 : Int32)), .val (.int (0 : Int32)), .val (.int (0 : Int32)), .val (.ref a1012), .unset, .unset, .unset] [(.int (1 : Int32)), (.ref a1012)]))) (fun _ k => XS.iloadN X1023.here hx rfl (hb hby at_61) rfl k) ?_
          refine oCallSW (y := (⟨"com/example/wildsolve/wildsolve/infer/FreshOrdinaryPinLaw", "step", "(Lcom/example/wildsolve/wildsolve/infer/Fresh;Z)Lcom/example/wildsolve/wildsolve/solver/Placeholder;"⟩ : MethodName)) X1023 hx hZ hown (hw _ (List.mem_of_getElem? (i := 9) rfl)) (hw _ (List.mem_of_getElem? (i := 10) rfl)) (hw _ (List.mem_of_getElem? (i := 11) rfl)) (hw _ (List.mem_of_getElem? (i := 12) rfl)) (by decide) (rmSt1 l Z a0 hw a1012 h1008 n0 Z1018 (0 : Int32) (1 : Int32) (0 : Int32) (by decide) A1010 F1016 F1017 ab1019) e1026 [(.ref a1012), (.int (1 : Int32))] [] rfl rfl (by rw [hml]; rfl) (lenOf own_pd__Lcom_example_wildsolve_wildsolve_infer_Fresh_Z_Lcom_example_wildsolve_wildsolve_solver_Placeholder_ rfl) 0 (Nat.le_of_eq rfl) (by decide) (by decide) (by decide) (by decide) (hb hby at_62) ?_
          intro v1029 T1030 L1031 X1032 q1033
          obtain ⟨r1028, rfl, N1034, K1035, hr1036, E1037, F1038, F1039, E1040, F1041, F1042⟩ := q1033
          have N1043 := Fr.app N1027 N1034
          have lt1044 : a1012 < r1028 := Nat.lt_of_lt_of_le A1010.lt hr1036
          have K1045 : Keep h0 T1030.heap [] := K1015.trans K1035 (allS (Or.inr fr1014) all0)
          have Z1046 : n0 ≤ T1030.heap.size := Nat.le_trans Z1018 K1035.1
          show OGoalW p e below s _ _ _ (T1030.setTop (mkF m 65 #[.val (.int p1), .val (.int (1 : Int32)), .val (.int (0 : Int32)), .val (.int (0 : Int32)), .val (.int (0 : Int32)), .val (.ref a1012), .unset, .unset, .unset] [(.ref r1028)]))
          refine OGoalW.mp (S' := (T1030.setTop (mkF m 67 #[.val (.int p1), .val (.int (1 : Int32)), .val (.int (0 : Int32)), .val (.int (0 : Int32)), .val (.int (0 : Int32)), .val (.ref a1012), .val (.ref r1028), .unset, .unset] []))) (fun _ k => XS.astore X1032.here hx rfl (hb hby at_65) rfl rfl (l' := #[.val (.int p1), .val (.int (1 : Int32)), .val (.int (0 : Int32)), .val (.int (0 : Int32)), .val (.int (0 : Int32)), .val (.ref a1012), .val (.ref r1028), .unset, .unset]) rfl k) ?_
          refine OGoalW.mp (S' := (T1030.setTop (mkF m 69 #[.val (.int p1), .val (.int (1 : Int32)), .val (.int (0 : Int32)), .val (.int (0 : Int32)), .val (.int (0 : Int32)), .val (.ref a1012), .val (.ref r1028), .unset, .unset] [(.int (0 : Int32))]))) (fun _ k => XS.iload X1032.here hx rfl (hb hby at_67) rfl k) ?_
          refine OGoalW.mp (S' := (T1030.setTop (mkF m 78 #[.val (.int p1), .val (.int (1 : Int32)), .val (.int (0 : Int32)), .val (.int (0 : Int32)), .val (.int (0 : Int32)), .val (.ref a1012), .val (.ref r1028), .unset, .unset] []))) (fun _ k => XS.ifYes X1032.here hx rfl (pc0 := 69) (pc' := 78) rfl (hb hby at_69) rfl (XT.i0_eq_t (by decide)) (by decide) (by decide) k) ?_
          refine OGoalW.mp (S' := (T1030.setTop (mkF m 80 #[.val (.int p1), .val (.int (1 : Int32)), .val (.int (0 : Int32)), .val (.int (0 : Int32)), .val (.int (0 : Int32)), .val (.ref a1012), .val (.ref r1028), .unset, .unset] [(.ref a1012)]))) (fun _ k => XS.aload X1032.here hx rfl (hb hby at_78) rfl rfl k) ?_
          refine OGoalW.mp (S' := (T1030.setTop (mkF m 81 #[.val (.int p1), .val (.int (1 : Int32)), .val (.int (0 : Int32)), .val (.int (0 : Int32)), .val (.int (0 : Int32)), .val (.ref a1012), .val (.ref r1028), .unset, .unset] [(.int (0 : Int32)), (.ref a1012)]))) (fun _ k => XS.iloadN X1032.here hx rfl (hb hby at_80) rfl k) ?_
          refine oCallSW (y := (⟨"com/example/wildsolve/wildsolve/infer/FreshOrdinaryPinLaw", "step", "(Lcom/example/wildsolve/wildsolve/infer/Fresh;Z)Lcom/example/wildsolve/wildsolve/solver/Placeholder;"⟩ : MethodName)) X1032 hx hZ hown (hw _ (List.mem_of_getElem? (i := 9) rfl)) (hw _ (List.mem_of_getElem? (i := 10) rfl)) (hw _ (List.mem_of_getElem? (i := 11) rfl)) (hw _ (List.mem_of_getElem? (i := 12) rfl)) (by decide) (rmSt0 l Z a0 hw a1012 T1030.heap n0 Z1046 (1 : Int32) (2 : Int32) (0 : Int32) (by decide) E1040 F1041 F1042 ab1019) rfl [(.ref a1012), (.int (0 : Int32))] [] rfl rfl (by rw [hml]; rfl) (lenOf own_pd__Lcom_example_wildsolve_wildsolve_infer_Fresh_Z_Lcom_example_wildsolve_wildsolve_solver_Placeholder_ rfl) 0 (Nat.le_of_eq rfl) (by decide) (by decide) (by decide) (by decide) (hb hby at_81) ?_
          intro v1048 T1049 L1050 X1051 q1052
          obtain ⟨r1047, rfl, N1053, K1054, hr1055, E1056, F1057, F1058, E1059, F1060, F1061⟩ := q1052
          have N1062 := Fr.app N1043 N1053
          have lt1063 : a1012 < r1047 := Nat.lt_of_lt_of_le E1040.lt hr1055
          have F1064 := E1037.keep K1054
          have F1065 := F1038.keep K1054 (ninS (Nat.ne_of_gt lt1044) nin0)
          have F1066 := F1039.keep K1054 (ninS (Nat.ne_of_gt lt1044) nin0)
          have K1067 : Keep h0 T1049.heap [] := K1045.trans K1054 (allS (Or.inr fr1014) all0)
          have Z1068 : n0 ≤ T1049.heap.size := Nat.le_trans Z1046 K1054.1
          show OGoalW p e below s _ _ _ (T1049.setTop (mkF m 84 #[.val (.int p1), .val (.int (1 : Int32)), .val (.int (0 : Int32)), .val (.int (0 : Int32)), .val (.int (0 : Int32)), .val (.ref a1012), .val (.ref r1028), .unset, .unset] [(.ref r1047)]))
          refine OGoalW.mp (S' := (T1049.setTop (mkF m 86 #[.val (.int p1), .val (.int (1 : Int32)), .val (.int (0 : Int32)), .val (.int (0 : Int32)), .val (.int (0 : Int32)), .val (.ref a1012), .val (.ref r1028), .val (.ref r1047), .unset] []))) (fun _ k => XS.astore X1051.here hx rfl (hb hby at_84) rfl rfl (l' := #[.val (.int p1), .val (.int (1 : Int32)), .val (.int (0 : Int32)), .val (.int (0 : Int32)), .val (.int (0 : Int32)), .val (.ref a1012), .val (.ref r1028), .val (.ref r1047), .unset]) rfl k) ?_
          refine OGoalW.mp (S' := (T1049.setTop (mkF m 88 #[.val (.int p1), .val (.int (1 : Int32)), .val (.int (0 : Int32)), .val (.int (0 : Int32)), .val (.int (0 : Int32)), .val (.ref a1012), .val (.ref r1028), .val (.ref r1047), .unset] [(.ref a1012)]))) (fun _ k => XS.aload X1051.here hx rfl (hb hby at_86) rfl rfl k) ?_
          refine OGoalW.mp (S' := (T1049.setTop (mkF m 89 #[.val (.int p1), .val (.int (1 : Int32)), .val (.int (0 : Int32)), .val (.int (0 : Int32)), .val (.int (0 : Int32)), .val (.ref a1012), .val (.ref r1028), .val (.ref r1047), .unset] [(.int (0 : Int32)), (.ref a1012)]))) (fun _ k => XS.iloadN X1051.here hx rfl (hb hby at_88) rfl k) ?_
          refine oCallSW (y := (⟨"com/example/wildsolve/wildsolve/infer/FreshOrdinaryPinLaw", "step", "(Lcom/example/wildsolve/wildsolve/infer/Fresh;Z)Lcom/example/wildsolve/wildsolve/solver/Placeholder;"⟩ : MethodName)) X1051 hx hZ hown (hw _ (List.mem_of_getElem? (i := 9) rfl)) (hw _ (List.mem_of_getElem? (i := 10) rfl)) (hw _ (List.mem_of_getElem? (i := 11) rfl)) (hw _ (List.mem_of_getElem? (i := 12) rfl)) (by decide) (rmSt0 l Z a0 hw a1012 T1049.heap n0 Z1068 (2 : Int32) (3 : Int32) (0 : Int32) (by decide) E1059 F1060 F1061 ab1019) rfl [(.ref a1012), (.int (0 : Int32))] [] rfl rfl (by rw [hml]; rfl) (lenOf own_pd__Lcom_example_wildsolve_wildsolve_infer_Fresh_Z_Lcom_example_wildsolve_wildsolve_solver_Placeholder_ rfl) 0 (Nat.le_of_eq rfl) (by decide) (by decide) (by decide) (by decide) (hb hby at_89) ?_
          intro v1070 T1071 L1072 X1073 q1074
          obtain ⟨r1069, rfl, N1075, K1076, hr1077, E1078, F1079, F1080, E1081, F1082, F1083⟩ := q1074
          have N1084 := Fr.app N1062 N1075
          have lt1085 : a1012 < r1069 := Nat.lt_of_lt_of_le E1059.lt hr1077
          have F1086 := F1064.keep K1076
          have F1087 := F1065.keep K1076 (ninS (Nat.ne_of_gt lt1044) nin0)
          have F1088 := F1066.keep K1076 (ninS (Nat.ne_of_gt lt1044) nin0)
          have F1089 := E1056.keep K1076
          have F1090 := F1057.keep K1076 (ninS (Nat.ne_of_gt lt1063) nin0)
          have F1091 := F1058.keep K1076 (ninS (Nat.ne_of_gt lt1063) nin0)
          have K1092 : Keep h0 T1071.heap [] := K1067.trans K1076 (allS (Or.inr fr1014) all0)
          have Z1093 : n0 ≤ T1071.heap.size := Nat.le_trans Z1068 K1076.1
          show OGoalW p e below s _ _ _ (T1071.setTop (mkF m 92 #[.val (.int p1), .val (.int (1 : Int32)), .val (.int (0 : Int32)), .val (.int (0 : Int32)), .val (.int (0 : Int32)), .val (.ref a1012), .val (.ref r1028), .val (.ref r1047), .unset] [(.ref r1069)]))
          refine OGoalW.mp (S' := (T1071.setTop (mkF m 94 #[.val (.int p1), .val (.int (1 : Int32)), .val (.int (0 : Int32)), .val (.int (0 : Int32)), .val (.int (0 : Int32)), .val (.ref a1012), .val (.ref r1028), .val (.ref r1047), .val (.ref r1069)] []))) (fun _ k => XS.astore X1073.here hx rfl (hb hby at_92) rfl rfl (l' := #[.val (.int p1), .val (.int (1 : Int32)), .val (.int (0 : Int32)), .val (.int (0 : Int32)), .val (.int (0 : Int32)), .val (.ref a1012), .val (.ref r1028), .val (.ref r1047), .val (.ref r1069)]) rfl k) ?_
          refine OGoalW.mp (S' := (T1071.setTop (mkF m 96 #[.val (.int p1), .val (.int (1 : Int32)), .val (.int (0 : Int32)), .val (.int (0 : Int32)), .val (.int (0 : Int32)), .val (.ref a1012), .val (.ref r1028), .val (.ref r1047), .val (.ref r1069)] [(.ref r1028)]))) (fun _ k => XS.aload X1073.here hx rfl (hb hby at_94) rfl rfl k) ?_
          refine OGoalW.mp (S' := (T1071.setTop (mkF m 97 #[.val (.int p1), .val (.int (1 : Int32)), .val (.int (0 : Int32)), .val (.int (0 : Int32)), .val (.int (0 : Int32)), .val (.ref a1012), .val (.ref r1028), .val (.ref r1047), .val (.ref r1069)] [(.int (1 : Int32)), (.ref r1028)]))) (fun _ k => XS.iconst X1073.here hx rfl (hb hby at_96) k) ?_
          refine OGoalW.mp (S' := (T1071.setTop (mkF m 98 #[.val (.int p1), .val (.int (1 : Int32)), .val (.int (0 : Int32)), .val (.int (0 : Int32)), .val (.int (0 : Int32)), .val (.ref a1012), .val (.ref r1028), .val (.ref r1047), .val (.ref r1069)] [(.int (1 : Int32)), (.int (1 : Int32)), (.ref r1028)]))) (fun _ k => XS.iloadN X1073.here hx rfl (hb hby at_97) rfl k) ?_
          refine oCallSW (y := (⟨"com/example/wildsolve/wildsolve/infer/FreshOrdinaryPinLaw", "check", "(Lcom/example/wildsolve/wildsolve/solver/Placeholder;IZ)Z"⟩ : MethodName)) X1073 hx hZ hown (hw _ (List.mem_of_getElem? (i := 36) rfl)) (hw _ (List.mem_of_getElem? (i := 37) rfl)) (hw _ (List.mem_of_getElem? (i := 11) rfl)) (hw _ (List.mem_of_getElem? (i := 38) rfl)) (by decide) (rmCk11 l Z a0 hw r1028 T1071.heap n0 Z1093 F1086 F1087 F1088) rfl [(.ref r1028), (.int (1 : Int32)), (.int (1 : Int32))] [] rfl rfl (by rw [hml]; rfl) (lenOf own_pd__Lcom_example_wildsolve_wildsolve_solver_Placeholder_IZ_Z rfl) 0 (Nat.le_of_eq rfl) (by decide) (by decide) (by decide) (by decide) (hb hby at_98) ?_
          intro v1094 T1095 L1096 X1097 q1098
          obtain ⟨rfl, N1099, e1100⟩ := q1098
          have N1101 := Fr.app N1084 N1099
          show OGoalW p e below s _ _ _ (T1095.setTop (mkF m 101 #[.val (.int p1), .val (.int (1 : Int32)), .val (.int (0 : Int32)), .val (.int (0 : Int32)), .val (.int (0 : Int32)), .val (.ref a1012), .val (.ref r1028), .val (.ref r1047), .val (.ref r1069)] [(.int (1 : Int32))]))
          refine OGoalW.mp (S' := (T1095.setTop (mkF m 104 #[.val (.int p1), .val (.int (1 : Int32)), .val (.int (0 : Int32)), .val (.int (0 : Int32)), .val (.int (0 : Int32)), .val (.ref a1012), .val (.ref r1028), .val (.ref r1047), .val (.ref r1069)] []))) (fun _ k => XS.ifNo X1097.here hx rfl (hb hby at_101) rfl (XT.i0_eq_f (by decide)) k) ?_
          refine OGoalW.mp (S' := (T1095.setTop (mkF m 106 #[.val (.int p1), .val (.int (1 : Int32)), .val (.int (0 : Int32)), .val (.int (0 : Int32)), .val (.int (0 : Int32)), .val (.ref a1012), .val (.ref r1028), .val (.ref r1047), .val (.ref r1069)] [(.ref r1047)]))) (fun _ k => XS.aload X1097.here hx rfl (hb hby at_104) rfl rfl k) ?_
          refine OGoalW.mp (S' := (T1095.setTop (mkF m 107 #[.val (.int p1), .val (.int (1 : Int32)), .val (.int (0 : Int32)), .val (.int (0 : Int32)), .val (.int (0 : Int32)), .val (.ref a1012), .val (.ref r1028), .val (.ref r1047), .val (.ref r1069)] [(.int (2 : Int32)), (.ref r1047)]))) (fun _ k => XS.iconst X1097.here hx rfl (hb hby at_106) k) ?_
          refine OGoalW.mp (S' := (T1095.setTop (mkF m 108 #[.val (.int p1), .val (.int (1 : Int32)), .val (.int (0 : Int32)), .val (.int (0 : Int32)), .val (.int (0 : Int32)), .val (.ref a1012), .val (.ref r1028), .val (.ref r1047), .val (.ref r1069)] [(.int (0 : Int32)), (.int (2 : Int32)), (.ref r1047)]))) (fun _ k => XS.iloadN X1097.here hx rfl (hb hby at_107) rfl k) ?_
          refine oCallSW (y := (⟨"com/example/wildsolve/wildsolve/infer/FreshOrdinaryPinLaw", "check", "(Lcom/example/wildsolve/wildsolve/solver/Placeholder;IZ)Z"⟩ : MethodName)) X1097 hx hZ hown (hw _ (List.mem_of_getElem? (i := 36) rfl)) (hw _ (List.mem_of_getElem? (i := 37) rfl)) (hw _ (List.mem_of_getElem? (i := 11) rfl)) (hw _ (List.mem_of_getElem? (i := 38) rfl)) (by decide) (rmCk20 l Z a0 hw r1047 T1071.heap n0 Z1093 F1089 F1090 F1091) e1100 [(.ref r1047), (.int (2 : Int32)), (.int (0 : Int32))] [] rfl rfl (by rw [hml]; rfl) (lenOf own_pd__Lcom_example_wildsolve_wildsolve_solver_Placeholder_IZ_Z rfl) 0 (Nat.le_of_eq rfl) (by decide) (by decide) (by decide) (by decide) (hb hby at_108) ?_
          intro v1102 T1103 L1104 X1105 q1106
          obtain ⟨rfl, N1107, e1108⟩ := q1106
          have N1109 := Fr.app N1101 N1107
          show OGoalW p e below s _ _ _ (T1103.setTop (mkF m 111 #[.val (.int p1), .val (.int (1 : Int32)), .val (.int (0 : Int32)), .val (.int (0 : Int32)), .val (.int (0 : Int32)), .val (.ref a1012), .val (.ref r1028), .val (.ref r1047), .val (.ref r1069)] [(.int (1 : Int32))]))
          refine OGoalW.mp (S' := (T1103.setTop (mkF m 114 #[.val (.int p1), .val (.int (1 : Int32)), .val (.int (0 : Int32)), .val (.int (0 : Int32)), .val (.int (0 : Int32)), .val (.ref a1012), .val (.ref r1028), .val (.ref r1047), .val (.ref r1069)] []))) (fun _ k => XS.ifNo X1105.here hx rfl (hb hby at_111) rfl (XT.i0_eq_f (by decide)) k) ?_
          refine OGoalW.mp (S' := (T1103.setTop (mkF m 116 #[.val (.int p1), .val (.int (1 : Int32)), .val (.int (0 : Int32)), .val (.int (0 : Int32)), .val (.int (0 : Int32)), .val (.ref a1012), .val (.ref r1028), .val (.ref r1047), .val (.ref r1069)] [(.ref r1069)]))) (fun _ k => XS.aload X1105.here hx rfl (hb hby at_114) rfl rfl k) ?_
          refine OGoalW.mp (S' := (T1103.setTop (mkF m 117 #[.val (.int p1), .val (.int (1 : Int32)), .val (.int (0 : Int32)), .val (.int (0 : Int32)), .val (.int (0 : Int32)), .val (.ref a1012), .val (.ref r1028), .val (.ref r1047), .val (.ref r1069)] [(.int (3 : Int32)), (.ref r1069)]))) (fun _ k => XS.iconst X1105.here hx rfl (hb hby at_116) k) ?_
          refine OGoalW.mp (S' := (T1103.setTop (mkF m 118 #[.val (.int p1), .val (.int (1 : Int32)), .val (.int (0 : Int32)), .val (.int (0 : Int32)), .val (.int (0 : Int32)), .val (.ref a1012), .val (.ref r1028), .val (.ref r1047), .val (.ref r1069)] [(.int (0 : Int32)), (.int (3 : Int32)), (.ref r1069)]))) (fun _ k => XS.iloadN X1105.here hx rfl (hb hby at_117) rfl k) ?_
          refine oCallSW (y := (⟨"com/example/wildsolve/wildsolve/infer/FreshOrdinaryPinLaw", "check", "(Lcom/example/wildsolve/wildsolve/solver/Placeholder;IZ)Z"⟩ : MethodName)) X1105 hx hZ hown (hw _ (List.mem_of_getElem? (i := 36) rfl)) (hw _ (List.mem_of_getElem? (i := 37) rfl)) (hw _ (List.mem_of_getElem? (i := 11) rfl)) (hw _ (List.mem_of_getElem? (i := 38) rfl)) (by decide) (rmCk30 l Z a0 hw r1069 T1071.heap n0 Z1093 E1078 F1079 F1080) e1108 [(.ref r1069), (.int (3 : Int32)), (.int (0 : Int32))] [] rfl rfl (by rw [hml]; rfl) (lenOf own_pd__Lcom_example_wildsolve_wildsolve_solver_Placeholder_IZ_Z rfl) 0 (Nat.le_of_eq rfl) (by decide) (by decide) (by decide) (by decide) (hb hby at_118) ?_
          intro v1110 T1111 L1112 X1113 q1114
          obtain ⟨rfl, N1115, e1116⟩ := q1114
          have N1117 := Fr.app N1109 N1115
          show OGoalW p e below s _ _ _ (T1111.setTop (mkF m 121 #[.val (.int p1), .val (.int (1 : Int32)), .val (.int (0 : Int32)), .val (.int (0 : Int32)), .val (.int (0 : Int32)), .val (.ref a1012), .val (.ref r1028), .val (.ref r1047), .val (.ref r1069)] [(.int (1 : Int32))]))
          refine OGoalW.mp (S' := (T1111.setTop (mkF m 124 #[.val (.int p1), .val (.int (1 : Int32)), .val (.int (0 : Int32)), .val (.int (0 : Int32)), .val (.int (0 : Int32)), .val (.ref a1012), .val (.ref r1028), .val (.ref r1047), .val (.ref r1069)] []))) (fun _ k => XS.ifNo X1113.here hx rfl (hb hby at_121) rfl (XT.i0_eq_f (by decide)) k) ?_
          refine OGoalW.mp (S' := (T1111.setTop (mkF m 125 #[.val (.int p1), .val (.int (1 : Int32)), .val (.int (0 : Int32)), .val (.int (0 : Int32)), .val (.int (0 : Int32)), .val (.ref a1012), .val (.ref r1028), .val (.ref r1047), .val (.ref r1069)] [(.int (1 : Int32))]))) (fun _ k => XS.iconst X1113.here hx rfl (hb hby at_124) k) ?_
          refine OGoalW.mp (S' := (T1111.setTop (mkF m 129 #[.val (.int p1), .val (.int (1 : Int32)), .val (.int (0 : Int32)), .val (.int (0 : Int32)), .val (.int (0 : Int32)), .val (.ref a1012), .val (.ref r1028), .val (.ref r1047), .val (.ref r1069)] [(.int (1 : Int32))]))) (fun _ k => XS.goto X1113.here hx rfl (pc0 := 125) (pc' := 129) rfl (hb hby at_125) (by decide) (by decide) k) ?_
          refine oRetZW X1113 hS0 (Nat.le_trans (Nat.le_trans (Nat.le_trans (Nat.le_trans (Nat.le_trans (Nat.le_of_eq (congrArg Array.size hsh)) E1009.1) K1035.1) K1054.1) K1076.1) (Nat.le_of_eq (congrArg Array.size e1116).symm)) hx hlk hret (Or.inr rfl) (hb hby at_129) ?_ (by decide) (by decide)
          exact ⟨rfl, N1117⟩
        · refine OGoalW.mp (S' := (s₁.setTop (mkF m 43 #[.val (.int p1), .val (.int (1 : Int32)), .val (.int (0 : Int32)), .val (.int (0 : Int32)), .unset, .unset, .unset, .unset, .unset] []))) (fun _ k => XS.ifNo X0.here hx rfl (hb hby at_40) rfl (XT.i0_eq_f hc1003) k) ?_
          refine OGoalW.mp (S' := (s₁.setTop (mkF m 44 #[.val (.int p1), .val (.int (1 : Int32)), .val (.int (0 : Int32)), .val (.int (0 : Int32)), .unset, .unset, .unset, .unset, .unset] [(.int (1 : Int32))]))) (fun _ k => XS.iconst X0.here hx rfl (hb hby at_43) k) ?_
          refine OGoalW.mp (S' := (s₁.setTop (mkF m 48 #[.val (.int p1), .val (.int (1 : Int32)), .val (.int (0 : Int32)), .val (.int (0 : Int32)), .unset, .unset, .unset, .unset, .unset] [(.int (1 : Int32))]))) (fun _ k => XS.goto X0.here hx rfl (pc0 := 44) (pc' := 48) rfl (hb hby at_44) (by decide) (by decide) k) ?_
          refine OGoalW.mp (S' := (s₁.setTop (mkF m 50 #[.val (.int p1), .val (.int (1 : Int32)), .val (.int (0 : Int32)), .val (.int (0 : Int32)), .val (.int (1 : Int32)), .unset, .unset, .unset, .unset] []))) (fun _ k => XS.istore X0.here hx rfl (hb hby at_48) rfl (l' := #[.val (.int p1), .val (.int (1 : Int32)), .val (.int (0 : Int32)), .val (.int (0 : Int32)), .val (.int (1 : Int32)), .unset, .unset, .unset, .unset]) rfl k) ?_
          obtain ⟨T1118, h1122, X1119, e1120, E1123, A1124, D1125, -, st1121⟩ := newO X0 hx hZ hown (hw _ (List.mem_of_getElem? (i := 0) rfl)) (hw _ (List.mem_of_getElem? (i := 1) rfl)) (hw _ (List.mem_of_getElem? (i := 2) rfl)) e0 (g := mkF m 50 #[.val (.int p1), .val (.int (1 : Int32)), .val (.int (0 : Int32)), .val (.int (0 : Int32)), .val (.int (1 : Int32)), .unset, .unset, .unset, .unset] []) rfl (hb hby at_50) (by decide) (by decide)
          obtain ⟨a1126, g1127⟩ : ∃ z, z = h0.size := ⟨_, rfl⟩
          rw [← g1127] at A1124 D1125 st1121
          have fr1128 : h0.size ≤ a1126 := by rw [g1127]; exact (Keep.refl h0 []).1
          have K1129 : Keep h0 h1122 [] := (Keep.refl h0 []).ext E1123
          have F1130 : Fld Z h1122 a1126 "com/example/wildsolve/wildsolve/infer/Fresh" "placeholders" "I" (.int (0 : Int32)) := D1125 (Or.inl (hw _ (List.mem_of_getElem? (i := 22) rfl))) (ty := .int) (by decide)
          have F1131 : Fld Z h1122 a1126 "com/example/wildsolve/wildsolve/infer/Fresh" "variables" "I" (.int (0 : Int32)) := D1125 (Or.inl (hw _ (List.mem_of_getElem? (i := 136) rfl))) (ty := .int) (by decide)
          have Z1132 : n0 ≤ h1122.size := Nat.le_trans Z0 E1123.1
          have ab1133 : n0 ≤ a1126 := Nat.le_trans Z0 (Nat.le_of_eq g1127.symm)
          refine OGoalW.mp (S' := (T1118.setTop (mkF m 53 #[.val (.int p1), .val (.int (1 : Int32)), .val (.int (0 : Int32)), .val (.int (0 : Int32)), .val (.int (1 : Int32)), .unset, .unset, .unset, .unset] [(.ref a1126)]))) (fun _ k => st1121 _ k) ?_
          refine OGoalW.mp (S' := (T1118.setTop (mkF m 54 #[.val (.int p1), .val (.int (1 : Int32)), .val (.int (0 : Int32)), .val (.int (0 : Int32)), .val (.int (1 : Int32)), .unset, .unset, .unset, .unset] [(.ref a1126), (.ref a1126)]))) (fun _ k => XS.dup X1119.here hx rfl (hb hby at_53) rfl rfl k) ?_
          refine oCallNW (y := (⟨"com/example/wildsolve/wildsolve/infer/Fresh", "<init>", "()V"⟩ : MethodName)) X1119 hx hZ rfl hown (hw _ (List.mem_of_getElem? (i := 3) rfl)) (hw _ (List.mem_of_getElem? (i := 4) rfl)) (hw _ (List.mem_of_getElem? (i := 2) rfl)) (hw _ (List.mem_of_getElem? (i := 5) rfl)) (by decide) (rmFI l Z a0 hw a1126 h1122 n0 Z1132) e1120 [] [(.ref a1126)] rfl rfl (by rw [hml]; rfl) (lenOf own_pd___V rfl) 1 (Nat.le_of_eq rfl) (by decide) (by decide) (by decide) (by decide) (hb hby at_54) ?_
          intro v1134 T1135 L1136 X1137 q1138
          obtain ⟨rfl, N1139, e1140⟩ := q1138
          have N1141 := Fr.app (Fr.nil n0) N1139
          show OGoalW p e below s _ _ _ (T1135.setTop (mkF m 57 #[.val (.int p1), .val (.int (1 : Int32)), .val (.int (0 : Int32)), .val (.int (0 : Int32)), .val (.int (1 : Int32)), .unset, .unset, .unset, .unset] [(.ref a1126)]))
          refine OGoalW.mp (S' := (T1135.setTop (mkF m 59 #[.val (.int p1), .val (.int (1 : Int32)), .val (.int (0 : Int32)), .val (.int (0 : Int32)), .val (.int (1 : Int32)), .val (.ref a1126), .unset, .unset, .unset] []))) (fun _ k => XS.astore X1137.here hx rfl (hb hby at_57) rfl rfl (l' := #[.val (.int p1), .val (.int (1 : Int32)), .val (.int (0 : Int32)), .val (.int (0 : Int32)), .val (.int (1 : Int32)), .val (.ref a1126), .unset, .unset, .unset]) rfl k) ?_
          refine OGoalW.mp (S' := (T1135.setTop (mkF m 61 #[.val (.int p1), .val (.int (1 : Int32)), .val (.int (0 : Int32)), .val (.int (0 : Int32)), .val (.int (1 : Int32)), .val (.ref a1126), .unset, .unset, .unset] [(.ref a1126)]))) (fun _ k => XS.aload X1137.here hx rfl (hb hby at_59) rfl rfl k) ?_
          refine OGoalW.mp (S' := (T1135.setTop (mkF m 62 #[.val (.int p1), .val (.int (1 : Int32)), .val (.int (0 : Int32)), .val (.int (0 : Int32)), .val (.int (1 : Int32)), .val (.ref a1126), .unset, .unset, .unset] [(.int (1 : Int32)), (.ref a1126)]))) (fun _ k => XS.iloadN X1137.here hx rfl (hb hby at_61) rfl k) ?_
          refine oCallSW (y := (⟨"com/example/wildsolve/wildsolve/infer/FreshOrdinaryPinLaw", "step", "(Lcom/example/wildsolve/wildsolve/infer/Fresh;Z)Lcom/example/wildsolve/wildsolve/solver/Placeholder;"⟩ : MethodName)) X1137 hx hZ hown (hw _ (List.mem_of_getElem? (i := 9) rfl)) (hw _ (List.mem_of_getElem? (i := 10) rfl)) (hw _ (List.mem_of_getElem? (i := 11) rfl)) (hw _ (List.mem_of_getElem? (i := 12) rfl)) (by decide) (rmSt1 l Z a0 hw a1126 h1122 n0 Z1132 (0 : Int32) (1 : Int32) (0 : Int32) (by decide) A1124 F1130 F1131 ab1133) e1140 [(.ref a1126), (.int (1 : Int32))] [] rfl rfl (by rw [hml]; rfl) (lenOf own_pd__Lcom_example_wildsolve_wildsolve_infer_Fresh_Z_Lcom_example_wildsolve_wildsolve_solver_Placeholder_ rfl) 0 (Nat.le_of_eq rfl) (by decide) (by decide) (by decide) (by decide) (hb hby at_62) ?_
          intro v1143 T1144 L1145 X1146 q1147
          obtain ⟨r1142, rfl, N1148, K1149, hr1150, E1151, F1152, F1153, E1154, F1155, F1156⟩ := q1147
          have N1157 := Fr.app N1141 N1148
          have lt1158 : a1126 < r1142 := Nat.lt_of_lt_of_le A1124.lt hr1150
          have K1159 : Keep h0 T1144.heap [] := K1129.trans K1149 (allS (Or.inr fr1128) all0)
          have Z1160 : n0 ≤ T1144.heap.size := Nat.le_trans Z1132 K1149.1
          show OGoalW p e below s _ _ _ (T1144.setTop (mkF m 65 #[.val (.int p1), .val (.int (1 : Int32)), .val (.int (0 : Int32)), .val (.int (0 : Int32)), .val (.int (1 : Int32)), .val (.ref a1126), .unset, .unset, .unset] [(.ref r1142)]))
          refine OGoalW.mp (S' := (T1144.setTop (mkF m 67 #[.val (.int p1), .val (.int (1 : Int32)), .val (.int (0 : Int32)), .val (.int (0 : Int32)), .val (.int (1 : Int32)), .val (.ref a1126), .val (.ref r1142), .unset, .unset] []))) (fun _ k => XS.astore X1146.here hx rfl (hb hby at_65) rfl rfl (l' := #[.val (.int p1), .val (.int (1 : Int32)), .val (.int (0 : Int32)), .val (.int (0 : Int32)), .val (.int (1 : Int32)), .val (.ref a1126), .val (.ref r1142), .unset, .unset]) rfl k) ?_
          refine OGoalW.mp (S' := (T1144.setTop (mkF m 69 #[.val (.int p1), .val (.int (1 : Int32)), .val (.int (0 : Int32)), .val (.int (0 : Int32)), .val (.int (1 : Int32)), .val (.ref a1126), .val (.ref r1142), .unset, .unset] [(.int (1 : Int32))]))) (fun _ k => XS.iload X1146.here hx rfl (hb hby at_67) rfl k) ?_
          refine OGoalW.mp (S' := (T1144.setTop (mkF m 72 #[.val (.int p1), .val (.int (1 : Int32)), .val (.int (0 : Int32)), .val (.int (0 : Int32)), .val (.int (1 : Int32)), .val (.ref a1126), .val (.ref r1142), .unset, .unset] []))) (fun _ k => XS.ifNo X1146.here hx rfl (hb hby at_69) rfl (XT.i0_eq_f (by decide)) k) ?_
          refine OGoalW.mp (S' := (T1144.setTop (mkF m 74 #[.val (.int p1), .val (.int (1 : Int32)), .val (.int (0 : Int32)), .val (.int (0 : Int32)), .val (.int (1 : Int32)), .val (.ref a1126), .val (.ref r1142), .unset, .unset] [(.ref a1126)]))) (fun _ k => XS.aload X1146.here hx rfl (hb hby at_72) rfl rfl k) ?_
          have nd1162 : dg ≠ a1126 := Nat.ne_of_lt (Nat.lt_of_lt_of_le Adg.lt fr1128)
          refine oCallVS (y := (⟨"com/example/wildsolve/wildsolve/infer/Fresh", "variable", "()Ljava/lang/String;"⟩ : MethodName)) (z := (⟨"com/example/wildsolve/wildsolve/infer/Fresh", "variable", "()Ljava/lang/String;"⟩ : MethodName)) X1146 hx hS0 (Nat.le_trans (Nat.le_trans (Nat.le_trans (Nat.le_of_eq (congrArg Array.size hsh)) E1123.1) K1149.1) (Nat.le_of_eq (congrArg Array.size rfl).symm)) hI hZ hown (hw _ (List.mem_of_getElem? (i := 54) rfl)) (hw _ (List.mem_of_getElem? (i := 55) rfl)) (hw _ (List.mem_of_getElem? (i := 57) rfl)) (hw _ (List.mem_of_getElem? (i := 56) rfl)) (hw _ (List.mem_of_getElem? (i := 2) rfl)) (hw _ (List.mem_of_getElem? (i := 58) rfl)) (by decide) (rmVa l Z a0 hw a1126 T1144.heap n0 Z1160 (1 : Int32) cs hcs (Sta.ext (oKext K1159) Scs) dg (Sta.ext (oKext K1159) Sdg) df (Adg.ext (oKext K1159)) xd hdf hxd nd1162 E1154 F1156 F1155 ab1133 (fun b cl q => K1159.2.1 b cl (hkp b cl q) nin0) hcw hch) rfl E1154 [] [] rfl rfl (by rw [hml]; rfl) (notFace_of_selects (args := #[]) (mvT hZ (hw _ (List.mem_of_getElem? (i := 57) rfl)))) (lenOf own_pd___Ljava_lang_String_ rfl) 0 (Nat.le_of_eq rfl) (by decide) (by decide) (by decide) (by decide) (hb hby at_74) ?_
          intro v1163 T1164 L1165 X1166 hS1168 hg1169 hZ hown q1167
          obtain ⟨r1161, rfl, N1170, K1171, E1172, F1173, F1174⟩ := q1167
          have N1175 := Fr.app N1157 N1170
          have F1176 := E1151.keep K1171
          have F1177 := F1152.keep K1171 (ninS (Nat.ne_of_gt lt1158) nin0)
          have F1178 := F1153.keep K1171 (ninS (Nat.ne_of_gt lt1158) nin0)
          have K1179 : Keep h0 T1164.heap [] := K1159.trans K1171 (allS (Or.inr fr1128) all0)
          have Z1180 : n0 ≤ T1164.heap.size := Nat.le_trans Z1160 K1171.1
          show OGoalW p e below s _ _ _ (T1164.setTop (mkF m 77 #[.val (.int p1), .val (.int (1 : Int32)), .val (.int (0 : Int32)), .val (.int (0 : Int32)), .val (.int (1 : Int32)), .val (.ref a1126), .val (.ref r1142), .unset, .unset] [(.ref r1161)]))
          refine OGoalW.mp (S' := (T1164.setTop (mkF m 78 #[.val (.int p1), .val (.int (1 : Int32)), .val (.int (0 : Int32)), .val (.int (0 : Int32)), .val (.int (1 : Int32)), .val (.ref a1126), .val (.ref r1142), .unset, .unset] []))) (fun _ k => XT.pop X1166.here hx rfl (hb hby at_77) rfl rfl k) ?_
          refine OGoalW.mp (S' := (T1164.setTop (mkF m 80 #[.val (.int p1), .val (.int (1 : Int32)), .val (.int (0 : Int32)), .val (.int (0 : Int32)), .val (.int (1 : Int32)), .val (.ref a1126), .val (.ref r1142), .unset, .unset] [(.ref a1126)]))) (fun _ k => XS.aload X1166.here hx rfl (hb hby at_78) rfl rfl k) ?_
          refine OGoalW.mp (S' := (T1164.setTop (mkF m 81 #[.val (.int p1), .val (.int (1 : Int32)), .val (.int (0 : Int32)), .val (.int (0 : Int32)), .val (.int (1 : Int32)), .val (.ref a1126), .val (.ref r1142), .unset, .unset] [(.int (0 : Int32)), (.ref a1126)]))) (fun _ k => XS.iloadN X1166.here hx rfl (hb hby at_80) rfl k) ?_
          refine oCallSW (y := (⟨"com/example/wildsolve/wildsolve/infer/FreshOrdinaryPinLaw", "step", "(Lcom/example/wildsolve/wildsolve/infer/Fresh;Z)Lcom/example/wildsolve/wildsolve/solver/Placeholder;"⟩ : MethodName)) X1166 hx hZ hown (hw _ (List.mem_of_getElem? (i := 9) rfl)) (hw _ (List.mem_of_getElem? (i := 10) rfl)) (hw _ (List.mem_of_getElem? (i := 11) rfl)) (hw _ (List.mem_of_getElem? (i := 12) rfl)) (by decide) (rmSt0 l Z a0 hw a1126 T1164.heap n0 Z1180 (1 : Int32) (2 : Int32) (1 : Int32) (by decide) E1172 F1173 F1174 ab1133) rfl [(.ref a1126), (.int (0 : Int32))] [] rfl rfl (by rw [hml]; rfl) (lenOf own_pd__Lcom_example_wildsolve_wildsolve_infer_Fresh_Z_Lcom_example_wildsolve_wildsolve_solver_Placeholder_ rfl) 0 (Nat.le_of_eq rfl) (by decide) (by decide) (by decide) (by decide) (hb hby at_81) ?_
          intro v1182 T1183 L1184 X1185 q1186
          obtain ⟨r1181, rfl, N1187, K1188, hr1189, E1190, F1191, F1192, E1193, F1194, F1195⟩ := q1186
          have N1196 := Fr.app N1175 N1187
          have lt1197 : a1126 < r1181 := Nat.lt_of_lt_of_le E1172.lt hr1189
          have F1198 := F1176.keep K1188
          have F1199 := F1177.keep K1188 (ninS (Nat.ne_of_gt lt1158) nin0)
          have F1200 := F1178.keep K1188 (ninS (Nat.ne_of_gt lt1158) nin0)
          have K1201 : Keep h0 T1183.heap [] := K1179.trans K1188 (allS (Or.inr fr1128) all0)
          have Z1202 : n0 ≤ T1183.heap.size := Nat.le_trans Z1180 K1188.1
          show OGoalW p e below s _ _ _ (T1183.setTop (mkF m 84 #[.val (.int p1), .val (.int (1 : Int32)), .val (.int (0 : Int32)), .val (.int (0 : Int32)), .val (.int (1 : Int32)), .val (.ref a1126), .val (.ref r1142), .unset, .unset] [(.ref r1181)]))
          refine OGoalW.mp (S' := (T1183.setTop (mkF m 86 #[.val (.int p1), .val (.int (1 : Int32)), .val (.int (0 : Int32)), .val (.int (0 : Int32)), .val (.int (1 : Int32)), .val (.ref a1126), .val (.ref r1142), .val (.ref r1181), .unset] []))) (fun _ k => XS.astore X1185.here hx rfl (hb hby at_84) rfl rfl (l' := #[.val (.int p1), .val (.int (1 : Int32)), .val (.int (0 : Int32)), .val (.int (0 : Int32)), .val (.int (1 : Int32)), .val (.ref a1126), .val (.ref r1142), .val (.ref r1181), .unset]) rfl k) ?_
          refine OGoalW.mp (S' := (T1183.setTop (mkF m 88 #[.val (.int p1), .val (.int (1 : Int32)), .val (.int (0 : Int32)), .val (.int (0 : Int32)), .val (.int (1 : Int32)), .val (.ref a1126), .val (.ref r1142), .val (.ref r1181), .unset] [(.ref a1126)]))) (fun _ k => XS.aload X1185.here hx rfl (hb hby at_86) rfl rfl k) ?_
          refine OGoalW.mp (S' := (T1183.setTop (mkF m 89 #[.val (.int p1), .val (.int (1 : Int32)), .val (.int (0 : Int32)), .val (.int (0 : Int32)), .val (.int (1 : Int32)), .val (.ref a1126), .val (.ref r1142), .val (.ref r1181), .unset] [(.int (0 : Int32)), (.ref a1126)]))) (fun _ k => XS.iloadN X1185.here hx rfl (hb hby at_88) rfl k) ?_
          refine oCallSW (y := (⟨"com/example/wildsolve/wildsolve/infer/FreshOrdinaryPinLaw", "step", "(Lcom/example/wildsolve/wildsolve/infer/Fresh;Z)Lcom/example/wildsolve/wildsolve/solver/Placeholder;"⟩ : MethodName)) X1185 hx hZ hown (hw _ (List.mem_of_getElem? (i := 9) rfl)) (hw _ (List.mem_of_getElem? (i := 10) rfl)) (hw _ (List.mem_of_getElem? (i := 11) rfl)) (hw _ (List.mem_of_getElem? (i := 12) rfl)) (by decide) (rmSt0 l Z a0 hw a1126 T1183.heap n0 Z1202 (2 : Int32) (3 : Int32) (1 : Int32) (by decide) E1193 F1194 F1195 ab1133) rfl [(.ref a1126), (.int (0 : Int32))] [] rfl rfl (by rw [hml]; rfl) (lenOf own_pd__Lcom_example_wildsolve_wildsolve_infer_Fresh_Z_Lcom_example_wildsolve_wildsolve_solver_Placeholder_ rfl) 0 (Nat.le_of_eq rfl) (by decide) (by decide) (by decide) (by decide) (hb hby at_89) ?_
          intro v1204 T1205 L1206 X1207 q1208
          obtain ⟨r1203, rfl, N1209, K1210, hr1211, E1212, F1213, F1214, E1215, F1216, F1217⟩ := q1208
          have N1218 := Fr.app N1196 N1209
          have lt1219 : a1126 < r1203 := Nat.lt_of_lt_of_le E1193.lt hr1211
          have F1220 := F1198.keep K1210
          have F1221 := F1199.keep K1210 (ninS (Nat.ne_of_gt lt1158) nin0)
          have F1222 := F1200.keep K1210 (ninS (Nat.ne_of_gt lt1158) nin0)
          have F1223 := E1190.keep K1210
          have F1224 := F1191.keep K1210 (ninS (Nat.ne_of_gt lt1197) nin0)
          have F1225 := F1192.keep K1210 (ninS (Nat.ne_of_gt lt1197) nin0)
          have K1226 : Keep h0 T1205.heap [] := K1201.trans K1210 (allS (Or.inr fr1128) all0)
          have Z1227 : n0 ≤ T1205.heap.size := Nat.le_trans Z1202 K1210.1
          show OGoalW p e below s _ _ _ (T1205.setTop (mkF m 92 #[.val (.int p1), .val (.int (1 : Int32)), .val (.int (0 : Int32)), .val (.int (0 : Int32)), .val (.int (1 : Int32)), .val (.ref a1126), .val (.ref r1142), .val (.ref r1181), .unset] [(.ref r1203)]))
          refine OGoalW.mp (S' := (T1205.setTop (mkF m 94 #[.val (.int p1), .val (.int (1 : Int32)), .val (.int (0 : Int32)), .val (.int (0 : Int32)), .val (.int (1 : Int32)), .val (.ref a1126), .val (.ref r1142), .val (.ref r1181), .val (.ref r1203)] []))) (fun _ k => XS.astore X1207.here hx rfl (hb hby at_92) rfl rfl (l' := #[.val (.int p1), .val (.int (1 : Int32)), .val (.int (0 : Int32)), .val (.int (0 : Int32)), .val (.int (1 : Int32)), .val (.ref a1126), .val (.ref r1142), .val (.ref r1181), .val (.ref r1203)]) rfl k) ?_
          refine OGoalW.mp (S' := (T1205.setTop (mkF m 96 #[.val (.int p1), .val (.int (1 : Int32)), .val (.int (0 : Int32)), .val (.int (0 : Int32)), .val (.int (1 : Int32)), .val (.ref a1126), .val (.ref r1142), .val (.ref r1181), .val (.ref r1203)] [(.ref r1142)]))) (fun _ k => XS.aload X1207.here hx rfl (hb hby at_94) rfl rfl k) ?_
          refine OGoalW.mp (S' := (T1205.setTop (mkF m 97 #[.val (.int p1), .val (.int (1 : Int32)), .val (.int (0 : Int32)), .val (.int (0 : Int32)), .val (.int (1 : Int32)), .val (.ref a1126), .val (.ref r1142), .val (.ref r1181), .val (.ref r1203)] [(.int (1 : Int32)), (.ref r1142)]))) (fun _ k => XS.iconst X1207.here hx rfl (hb hby at_96) k) ?_
          refine OGoalW.mp (S' := (T1205.setTop (mkF m 98 #[.val (.int p1), .val (.int (1 : Int32)), .val (.int (0 : Int32)), .val (.int (0 : Int32)), .val (.int (1 : Int32)), .val (.ref a1126), .val (.ref r1142), .val (.ref r1181), .val (.ref r1203)] [(.int (1 : Int32)), (.int (1 : Int32)), (.ref r1142)]))) (fun _ k => XS.iloadN X1207.here hx rfl (hb hby at_97) rfl k) ?_
          refine oCallSW (y := (⟨"com/example/wildsolve/wildsolve/infer/FreshOrdinaryPinLaw", "check", "(Lcom/example/wildsolve/wildsolve/solver/Placeholder;IZ)Z"⟩ : MethodName)) X1207 hx hZ hown (hw _ (List.mem_of_getElem? (i := 36) rfl)) (hw _ (List.mem_of_getElem? (i := 37) rfl)) (hw _ (List.mem_of_getElem? (i := 11) rfl)) (hw _ (List.mem_of_getElem? (i := 38) rfl)) (by decide) (rmCk11 l Z a0 hw r1142 T1205.heap n0 Z1227 F1220 F1221 F1222) rfl [(.ref r1142), (.int (1 : Int32)), (.int (1 : Int32))] [] rfl rfl (by rw [hml]; rfl) (lenOf own_pd__Lcom_example_wildsolve_wildsolve_solver_Placeholder_IZ_Z rfl) 0 (Nat.le_of_eq rfl) (by decide) (by decide) (by decide) (by decide) (hb hby at_98) ?_
          intro v1228 T1229 L1230 X1231 q1232
          obtain ⟨rfl, N1233, e1234⟩ := q1232
          have N1235 := Fr.app N1218 N1233
          show OGoalW p e below s _ _ _ (T1229.setTop (mkF m 101 #[.val (.int p1), .val (.int (1 : Int32)), .val (.int (0 : Int32)), .val (.int (0 : Int32)), .val (.int (1 : Int32)), .val (.ref a1126), .val (.ref r1142), .val (.ref r1181), .val (.ref r1203)] [(.int (1 : Int32))]))
          refine OGoalW.mp (S' := (T1229.setTop (mkF m 104 #[.val (.int p1), .val (.int (1 : Int32)), .val (.int (0 : Int32)), .val (.int (0 : Int32)), .val (.int (1 : Int32)), .val (.ref a1126), .val (.ref r1142), .val (.ref r1181), .val (.ref r1203)] []))) (fun _ k => XS.ifNo X1231.here hx rfl (hb hby at_101) rfl (XT.i0_eq_f (by decide)) k) ?_
          refine OGoalW.mp (S' := (T1229.setTop (mkF m 106 #[.val (.int p1), .val (.int (1 : Int32)), .val (.int (0 : Int32)), .val (.int (0 : Int32)), .val (.int (1 : Int32)), .val (.ref a1126), .val (.ref r1142), .val (.ref r1181), .val (.ref r1203)] [(.ref r1181)]))) (fun _ k => XS.aload X1231.here hx rfl (hb hby at_104) rfl rfl k) ?_
          refine OGoalW.mp (S' := (T1229.setTop (mkF m 107 #[.val (.int p1), .val (.int (1 : Int32)), .val (.int (0 : Int32)), .val (.int (0 : Int32)), .val (.int (1 : Int32)), .val (.ref a1126), .val (.ref r1142), .val (.ref r1181), .val (.ref r1203)] [(.int (2 : Int32)), (.ref r1181)]))) (fun _ k => XS.iconst X1231.here hx rfl (hb hby at_106) k) ?_
          refine OGoalW.mp (S' := (T1229.setTop (mkF m 108 #[.val (.int p1), .val (.int (1 : Int32)), .val (.int (0 : Int32)), .val (.int (0 : Int32)), .val (.int (1 : Int32)), .val (.ref a1126), .val (.ref r1142), .val (.ref r1181), .val (.ref r1203)] [(.int (0 : Int32)), (.int (2 : Int32)), (.ref r1181)]))) (fun _ k => XS.iloadN X1231.here hx rfl (hb hby at_107) rfl k) ?_
          refine oCallSW (y := (⟨"com/example/wildsolve/wildsolve/infer/FreshOrdinaryPinLaw", "check", "(Lcom/example/wildsolve/wildsolve/solver/Placeholder;IZ)Z"⟩ : MethodName)) X1231 hx hZ hown (hw _ (List.mem_of_getElem? (i := 36) rfl)) (hw _ (List.mem_of_getElem? (i := 37) rfl)) (hw _ (List.mem_of_getElem? (i := 11) rfl)) (hw _ (List.mem_of_getElem? (i := 38) rfl)) (by decide) (rmCk20 l Z a0 hw r1181 T1205.heap n0 Z1227 F1223 F1224 F1225) e1234 [(.ref r1181), (.int (2 : Int32)), (.int (0 : Int32))] [] rfl rfl (by rw [hml]; rfl) (lenOf own_pd__Lcom_example_wildsolve_wildsolve_solver_Placeholder_IZ_Z rfl) 0 (Nat.le_of_eq rfl) (by decide) (by decide) (by decide) (by decide) (hb hby at_108) ?_
          intro v1236 T1237 L1238 X1239 q1240
          obtain ⟨rfl, N1241, e1242⟩ := q1240
          have N1243 := Fr.app N1235 N1241
          show OGoalW p e below s _ _ _ (T1237.setTop (mkF m 111 #[.val (.int p1), .val (.int (1 : Int32)), .val (.int (0 : Int32)), .val (.int (0 : Int32)), .val (.int (1 : Int32)), .val (.ref a1126), .val (.ref r1142), .val (.ref r1181), .val (.ref r1203)] [(.int (1 : Int32))]))
          refine OGoalW.mp (S' := (T1237.setTop (mkF m 114 #[.val (.int p1), .val (.int (1 : Int32)), .val (.int (0 : Int32)), .val (.int (0 : Int32)), .val (.int (1 : Int32)), .val (.ref a1126), .val (.ref r1142), .val (.ref r1181), .val (.ref r1203)] []))) (fun _ k => XS.ifNo X1239.here hx rfl (hb hby at_111) rfl (XT.i0_eq_f (by decide)) k) ?_
          refine OGoalW.mp (S' := (T1237.setTop (mkF m 116 #[.val (.int p1), .val (.int (1 : Int32)), .val (.int (0 : Int32)), .val (.int (0 : Int32)), .val (.int (1 : Int32)), .val (.ref a1126), .val (.ref r1142), .val (.ref r1181), .val (.ref r1203)] [(.ref r1203)]))) (fun _ k => XS.aload X1239.here hx rfl (hb hby at_114) rfl rfl k) ?_
          refine OGoalW.mp (S' := (T1237.setTop (mkF m 117 #[.val (.int p1), .val (.int (1 : Int32)), .val (.int (0 : Int32)), .val (.int (0 : Int32)), .val (.int (1 : Int32)), .val (.ref a1126), .val (.ref r1142), .val (.ref r1181), .val (.ref r1203)] [(.int (3 : Int32)), (.ref r1203)]))) (fun _ k => XS.iconst X1239.here hx rfl (hb hby at_116) k) ?_
          refine OGoalW.mp (S' := (T1237.setTop (mkF m 118 #[.val (.int p1), .val (.int (1 : Int32)), .val (.int (0 : Int32)), .val (.int (0 : Int32)), .val (.int (1 : Int32)), .val (.ref a1126), .val (.ref r1142), .val (.ref r1181), .val (.ref r1203)] [(.int (0 : Int32)), (.int (3 : Int32)), (.ref r1203)]))) (fun _ k => XS.iloadN X1239.here hx rfl (hb hby at_117) rfl k) ?_
          refine oCallSW (y := (⟨"com/example/wildsolve/wildsolve/infer/FreshOrdinaryPinLaw", "check", "(Lcom/example/wildsolve/wildsolve/solver/Placeholder;IZ)Z"⟩ : MethodName)) X1239 hx hZ hown (hw _ (List.mem_of_getElem? (i := 36) rfl)) (hw _ (List.mem_of_getElem? (i := 37) rfl)) (hw _ (List.mem_of_getElem? (i := 11) rfl)) (hw _ (List.mem_of_getElem? (i := 38) rfl)) (by decide) (rmCk30 l Z a0 hw r1203 T1205.heap n0 Z1227 E1212 F1213 F1214) e1242 [(.ref r1203), (.int (3 : Int32)), (.int (0 : Int32))] [] rfl rfl (by rw [hml]; rfl) (lenOf own_pd__Lcom_example_wildsolve_wildsolve_solver_Placeholder_IZ_Z rfl) 0 (Nat.le_of_eq rfl) (by decide) (by decide) (by decide) (by decide) (hb hby at_118) ?_
          intro v1244 T1245 L1246 X1247 q1248
          obtain ⟨rfl, N1249, e1250⟩ := q1248
          have N1251 := Fr.app N1243 N1249
          show OGoalW p e below s _ _ _ (T1245.setTop (mkF m 121 #[.val (.int p1), .val (.int (1 : Int32)), .val (.int (0 : Int32)), .val (.int (0 : Int32)), .val (.int (1 : Int32)), .val (.ref a1126), .val (.ref r1142), .val (.ref r1181), .val (.ref r1203)] [(.int (1 : Int32))]))
          refine OGoalW.mp (S' := (T1245.setTop (mkF m 124 #[.val (.int p1), .val (.int (1 : Int32)), .val (.int (0 : Int32)), .val (.int (0 : Int32)), .val (.int (1 : Int32)), .val (.ref a1126), .val (.ref r1142), .val (.ref r1181), .val (.ref r1203)] []))) (fun _ k => XS.ifNo X1247.here hx rfl (hb hby at_121) rfl (XT.i0_eq_f (by decide)) k) ?_
          refine OGoalW.mp (S' := (T1245.setTop (mkF m 125 #[.val (.int p1), .val (.int (1 : Int32)), .val (.int (0 : Int32)), .val (.int (0 : Int32)), .val (.int (1 : Int32)), .val (.ref a1126), .val (.ref r1142), .val (.ref r1181), .val (.ref r1203)] [(.int (1 : Int32))]))) (fun _ k => XS.iconst X1247.here hx rfl (hb hby at_124) k) ?_
          refine OGoalW.mp (S' := (T1245.setTop (mkF m 129 #[.val (.int p1), .val (.int (1 : Int32)), .val (.int (0 : Int32)), .val (.int (0 : Int32)), .val (.int (1 : Int32)), .val (.ref a1126), .val (.ref r1142), .val (.ref r1181), .val (.ref r1203)] [(.int (1 : Int32))]))) (fun _ k => XS.goto X1247.here hx rfl (pc0 := 125) (pc' := 129) rfl (hb hby at_125) (by decide) (by decide) k) ?_
          refine oRetZW X1247 hS1168 (Nat.le_trans (Nat.le_trans (Nat.le_trans (Nat.le_refl _) K1188.1) K1210.1) (Nat.le_of_eq (congrArg Array.size e1250).symm)) hx hlk hret (Or.inr rfl) (hb hby at_129) ?_ (by decide) (by decide)
          exact ⟨rfl, N1251⟩
      · refine OGoalW.mp (S' := (s₁.setTop (mkF m 30 #[.val (.int p1), .val (.int (1 : Int32)), .val (.int (0 : Int32)), .unset, .unset, .unset, .unset, .unset, .unset] []))) (fun _ k => XS.ifNo X0.here hx rfl (hb hby at_27) rfl (XT.i0_eq_f hc1002) k) ?_
        refine OGoalW.mp (S' := (s₁.setTop (mkF m 31 #[.val (.int p1), .val (.int (1 : Int32)), .val (.int (0 : Int32)), .unset, .unset, .unset, .unset, .unset, .unset] [(.int (1 : Int32))]))) (fun _ k => XS.iconst X0.here hx rfl (hb hby at_30) k) ?_
        refine OGoalW.mp (S' := (s₁.setTop (mkF m 35 #[.val (.int p1), .val (.int (1 : Int32)), .val (.int (0 : Int32)), .unset, .unset, .unset, .unset, .unset, .unset] [(.int (1 : Int32))]))) (fun _ k => XS.goto X0.here hx rfl (pc0 := 31) (pc' := 35) rfl (hb hby at_31) (by decide) (by decide) k) ?_
        refine OGoalW.mp (S' := (s₁.setTop (mkF m 36 #[.val (.int p1), .val (.int (1 : Int32)), .val (.int (0 : Int32)), .val (.int (1 : Int32)), .unset, .unset, .unset, .unset, .unset] []))) (fun _ k => XS.istoreN X0.here hx rfl (hb hby at_35) rfl (l' := #[.val (.int p1), .val (.int (1 : Int32)), .val (.int (0 : Int32)), .val (.int (1 : Int32)), .unset, .unset, .unset, .unset, .unset]) rfl k) ?_
        refine OGoalW.mp (S' := (s₁.setTop (mkF m 37 #[.val (.int p1), .val (.int (1 : Int32)), .val (.int (0 : Int32)), .val (.int (1 : Int32)), .unset, .unset, .unset, .unset, .unset] [(.int p1)]))) (fun _ k => XS.iloadN X0.here hx rfl (hb hby at_36) rfl k) ?_
        refine OGoalW.mp (S' := (s₁.setTop (mkF m 39 #[.val (.int p1), .val (.int (1 : Int32)), .val (.int (0 : Int32)), .val (.int (1 : Int32)), .unset, .unset, .unset, .unset, .unset] [(.int (8 : Int32)), (.int p1)]))) (fun _ k => XS.bipush X0.here hx rfl (hb hby at_37) k) ?_
        refine OGoalW.mp (S' := (s₁.setTop (mkF m 40 #[.val (.int p1), .val (.int (1 : Int32)), .val (.int (0 : Int32)), .val (.int (1 : Int32)), .unset, .unset, .unset, .unset, .unset] [(.int (p1 &&& (8 : Int32)))]))) (fun _ k => XS.iand X0.here hx rfl (hb hby at_39) rfl k) ?_
        by_cases hc1252 : (p1 &&& (8 : Int32)) = 0
        · refine OGoalW.mp (S' := (s₁.setTop (mkF m 47 #[.val (.int p1), .val (.int (1 : Int32)), .val (.int (0 : Int32)), .val (.int (1 : Int32)), .unset, .unset, .unset, .unset, .unset] []))) (fun _ k => XS.ifYes X0.here hx rfl (pc0 := 40) (pc' := 47) rfl (hb hby at_40) rfl (XT.i0_eq_t hc1252) (by decide) (by decide) k) ?_
          refine OGoalW.mp (S' := (s₁.setTop (mkF m 48 #[.val (.int p1), .val (.int (1 : Int32)), .val (.int (0 : Int32)), .val (.int (1 : Int32)), .unset, .unset, .unset, .unset, .unset] [(.int (0 : Int32))]))) (fun _ k => XS.iconst X0.here hx rfl (hb hby at_47) k) ?_
          refine OGoalW.mp (S' := (s₁.setTop (mkF m 50 #[.val (.int p1), .val (.int (1 : Int32)), .val (.int (0 : Int32)), .val (.int (1 : Int32)), .val (.int (0 : Int32)), .unset, .unset, .unset, .unset] []))) (fun _ k => XS.istore X0.here hx rfl (hb hby at_48) rfl (l' := #[.val (.int p1), .val (.int (1 : Int32)), .val (.int (0 : Int32)), .val (.int (1 : Int32)), .val (.int (0 : Int32)), .unset, .unset, .unset, .unset]) rfl k) ?_
          obtain ⟨T1253, h1257, X1254, e1255, E1258, A1259, D1260, -, st1256⟩ := newO X0 hx hZ hown (hw _ (List.mem_of_getElem? (i := 0) rfl)) (hw _ (List.mem_of_getElem? (i := 1) rfl)) (hw _ (List.mem_of_getElem? (i := 2) rfl)) e0 (g := mkF m 50 #[.val (.int p1), .val (.int (1 : Int32)), .val (.int (0 : Int32)), .val (.int (1 : Int32)), .val (.int (0 : Int32)), .unset, .unset, .unset, .unset] []) rfl (hb hby at_50) (by decide) (by decide)
          obtain ⟨a1261, g1262⟩ : ∃ z, z = h0.size := ⟨_, rfl⟩
          rw [← g1262] at A1259 D1260 st1256
          have fr1263 : h0.size ≤ a1261 := by rw [g1262]; exact (Keep.refl h0 []).1
          have K1264 : Keep h0 h1257 [] := (Keep.refl h0 []).ext E1258
          have F1265 : Fld Z h1257 a1261 "com/example/wildsolve/wildsolve/infer/Fresh" "placeholders" "I" (.int (0 : Int32)) := D1260 (Or.inl (hw _ (List.mem_of_getElem? (i := 22) rfl))) (ty := .int) (by decide)
          have F1266 : Fld Z h1257 a1261 "com/example/wildsolve/wildsolve/infer/Fresh" "variables" "I" (.int (0 : Int32)) := D1260 (Or.inl (hw _ (List.mem_of_getElem? (i := 136) rfl))) (ty := .int) (by decide)
          have Z1267 : n0 ≤ h1257.size := Nat.le_trans Z0 E1258.1
          have ab1268 : n0 ≤ a1261 := Nat.le_trans Z0 (Nat.le_of_eq g1262.symm)
          refine OGoalW.mp (S' := (T1253.setTop (mkF m 53 #[.val (.int p1), .val (.int (1 : Int32)), .val (.int (0 : Int32)), .val (.int (1 : Int32)), .val (.int (0 : Int32)), .unset, .unset, .unset, .unset] [(.ref a1261)]))) (fun _ k => st1256 _ k) ?_
          refine OGoalW.mp (S' := (T1253.setTop (mkF m 54 #[.val (.int p1), .val (.int (1 : Int32)), .val (.int (0 : Int32)), .val (.int (1 : Int32)), .val (.int (0 : Int32)), .unset, .unset, .unset, .unset] [(.ref a1261), (.ref a1261)]))) (fun _ k => XS.dup X1254.here hx rfl (hb hby at_53) rfl rfl k) ?_
          refine oCallNW (y := (⟨"com/example/wildsolve/wildsolve/infer/Fresh", "<init>", "()V"⟩ : MethodName)) X1254 hx hZ rfl hown (hw _ (List.mem_of_getElem? (i := 3) rfl)) (hw _ (List.mem_of_getElem? (i := 4) rfl)) (hw _ (List.mem_of_getElem? (i := 2) rfl)) (hw _ (List.mem_of_getElem? (i := 5) rfl)) (by decide) (rmFI l Z a0 hw a1261 h1257 n0 Z1267) e1255 [] [(.ref a1261)] rfl rfl (by rw [hml]; rfl) (lenOf own_pd___V rfl) 1 (Nat.le_of_eq rfl) (by decide) (by decide) (by decide) (by decide) (hb hby at_54) ?_
          intro v1269 T1270 L1271 X1272 q1273
          obtain ⟨rfl, N1274, e1275⟩ := q1273
          have N1276 := Fr.app (Fr.nil n0) N1274
          show OGoalW p e below s _ _ _ (T1270.setTop (mkF m 57 #[.val (.int p1), .val (.int (1 : Int32)), .val (.int (0 : Int32)), .val (.int (1 : Int32)), .val (.int (0 : Int32)), .unset, .unset, .unset, .unset] [(.ref a1261)]))
          refine OGoalW.mp (S' := (T1270.setTop (mkF m 59 #[.val (.int p1), .val (.int (1 : Int32)), .val (.int (0 : Int32)), .val (.int (1 : Int32)), .val (.int (0 : Int32)), .val (.ref a1261), .unset, .unset, .unset] []))) (fun _ k => XS.astore X1272.here hx rfl (hb hby at_57) rfl rfl (l' := #[.val (.int p1), .val (.int (1 : Int32)), .val (.int (0 : Int32)), .val (.int (1 : Int32)), .val (.int (0 : Int32)), .val (.ref a1261), .unset, .unset, .unset]) rfl k) ?_
          refine OGoalW.mp (S' := (T1270.setTop (mkF m 61 #[.val (.int p1), .val (.int (1 : Int32)), .val (.int (0 : Int32)), .val (.int (1 : Int32)), .val (.int (0 : Int32)), .val (.ref a1261), .unset, .unset, .unset] [(.ref a1261)]))) (fun _ k => XS.aload X1272.here hx rfl (hb hby at_59) rfl rfl k) ?_
          refine OGoalW.mp (S' := (T1270.setTop (mkF m 62 #[.val (.int p1), .val (.int (1 : Int32)), .val (.int (0 : Int32)), .val (.int (1 : Int32)), .val (.int (0 : Int32)), .val (.ref a1261), .unset, .unset, .unset] [(.int (1 : Int32)), (.ref a1261)]))) (fun _ k => XS.iloadN X1272.here hx rfl (hb hby at_61) rfl k) ?_
          refine oCallSW (y := (⟨"com/example/wildsolve/wildsolve/infer/FreshOrdinaryPinLaw", "step", "(Lcom/example/wildsolve/wildsolve/infer/Fresh;Z)Lcom/example/wildsolve/wildsolve/solver/Placeholder;"⟩ : MethodName)) X1272 hx hZ hown (hw _ (List.mem_of_getElem? (i := 9) rfl)) (hw _ (List.mem_of_getElem? (i := 10) rfl)) (hw _ (List.mem_of_getElem? (i := 11) rfl)) (hw _ (List.mem_of_getElem? (i := 12) rfl)) (by decide) (rmSt1 l Z a0 hw a1261 h1257 n0 Z1267 (0 : Int32) (1 : Int32) (0 : Int32) (by decide) A1259 F1265 F1266 ab1268) e1275 [(.ref a1261), (.int (1 : Int32))] [] rfl rfl (by rw [hml]; rfl) (lenOf own_pd__Lcom_example_wildsolve_wildsolve_infer_Fresh_Z_Lcom_example_wildsolve_wildsolve_solver_Placeholder_ rfl) 0 (Nat.le_of_eq rfl) (by decide) (by decide) (by decide) (by decide) (hb hby at_62) ?_
          intro v1278 T1279 L1280 X1281 q1282
          obtain ⟨r1277, rfl, N1283, K1284, hr1285, E1286, F1287, F1288, E1289, F1290, F1291⟩ := q1282
          have N1292 := Fr.app N1276 N1283
          have lt1293 : a1261 < r1277 := Nat.lt_of_lt_of_le A1259.lt hr1285
          have K1294 : Keep h0 T1279.heap [] := K1264.trans K1284 (allS (Or.inr fr1263) all0)
          have Z1295 : n0 ≤ T1279.heap.size := Nat.le_trans Z1267 K1284.1
          show OGoalW p e below s _ _ _ (T1279.setTop (mkF m 65 #[.val (.int p1), .val (.int (1 : Int32)), .val (.int (0 : Int32)), .val (.int (1 : Int32)), .val (.int (0 : Int32)), .val (.ref a1261), .unset, .unset, .unset] [(.ref r1277)]))
          refine OGoalW.mp (S' := (T1279.setTop (mkF m 67 #[.val (.int p1), .val (.int (1 : Int32)), .val (.int (0 : Int32)), .val (.int (1 : Int32)), .val (.int (0 : Int32)), .val (.ref a1261), .val (.ref r1277), .unset, .unset] []))) (fun _ k => XS.astore X1281.here hx rfl (hb hby at_65) rfl rfl (l' := #[.val (.int p1), .val (.int (1 : Int32)), .val (.int (0 : Int32)), .val (.int (1 : Int32)), .val (.int (0 : Int32)), .val (.ref a1261), .val (.ref r1277), .unset, .unset]) rfl k) ?_
          refine OGoalW.mp (S' := (T1279.setTop (mkF m 69 #[.val (.int p1), .val (.int (1 : Int32)), .val (.int (0 : Int32)), .val (.int (1 : Int32)), .val (.int (0 : Int32)), .val (.ref a1261), .val (.ref r1277), .unset, .unset] [(.int (0 : Int32))]))) (fun _ k => XS.iload X1281.here hx rfl (hb hby at_67) rfl k) ?_
          refine OGoalW.mp (S' := (T1279.setTop (mkF m 78 #[.val (.int p1), .val (.int (1 : Int32)), .val (.int (0 : Int32)), .val (.int (1 : Int32)), .val (.int (0 : Int32)), .val (.ref a1261), .val (.ref r1277), .unset, .unset] []))) (fun _ k => XS.ifYes X1281.here hx rfl (pc0 := 69) (pc' := 78) rfl (hb hby at_69) rfl (XT.i0_eq_t (by decide)) (by decide) (by decide) k) ?_
          refine OGoalW.mp (S' := (T1279.setTop (mkF m 80 #[.val (.int p1), .val (.int (1 : Int32)), .val (.int (0 : Int32)), .val (.int (1 : Int32)), .val (.int (0 : Int32)), .val (.ref a1261), .val (.ref r1277), .unset, .unset] [(.ref a1261)]))) (fun _ k => XS.aload X1281.here hx rfl (hb hby at_78) rfl rfl k) ?_
          refine OGoalW.mp (S' := (T1279.setTop (mkF m 81 #[.val (.int p1), .val (.int (1 : Int32)), .val (.int (0 : Int32)), .val (.int (1 : Int32)), .val (.int (0 : Int32)), .val (.ref a1261), .val (.ref r1277), .unset, .unset] [(.int (0 : Int32)), (.ref a1261)]))) (fun _ k => XS.iloadN X1281.here hx rfl (hb hby at_80) rfl k) ?_
          refine oCallSW (y := (⟨"com/example/wildsolve/wildsolve/infer/FreshOrdinaryPinLaw", "step", "(Lcom/example/wildsolve/wildsolve/infer/Fresh;Z)Lcom/example/wildsolve/wildsolve/solver/Placeholder;"⟩ : MethodName)) X1281 hx hZ hown (hw _ (List.mem_of_getElem? (i := 9) rfl)) (hw _ (List.mem_of_getElem? (i := 10) rfl)) (hw _ (List.mem_of_getElem? (i := 11) rfl)) (hw _ (List.mem_of_getElem? (i := 12) rfl)) (by decide) (rmSt0 l Z a0 hw a1261 T1279.heap n0 Z1295 (1 : Int32) (2 : Int32) (0 : Int32) (by decide) E1289 F1290 F1291 ab1268) rfl [(.ref a1261), (.int (0 : Int32))] [] rfl rfl (by rw [hml]; rfl) (lenOf own_pd__Lcom_example_wildsolve_wildsolve_infer_Fresh_Z_Lcom_example_wildsolve_wildsolve_solver_Placeholder_ rfl) 0 (Nat.le_of_eq rfl) (by decide) (by decide) (by decide) (by decide) (hb hby at_81) ?_
          intro v1297 T1298 L1299 X1300 q1301
          obtain ⟨r1296, rfl, N1302, K1303, hr1304, E1305, F1306, F1307, E1308, F1309, F1310⟩ := q1301
          have N1311 := Fr.app N1292 N1302
          have lt1312 : a1261 < r1296 := Nat.lt_of_lt_of_le E1289.lt hr1304
          have F1313 := E1286.keep K1303
          have F1314 := F1287.keep K1303 (ninS (Nat.ne_of_gt lt1293) nin0)
          have F1315 := F1288.keep K1303 (ninS (Nat.ne_of_gt lt1293) nin0)
          have K1316 : Keep h0 T1298.heap [] := K1294.trans K1303 (allS (Or.inr fr1263) all0)
          have Z1317 : n0 ≤ T1298.heap.size := Nat.le_trans Z1295 K1303.1
          show OGoalW p e below s _ _ _ (T1298.setTop (mkF m 84 #[.val (.int p1), .val (.int (1 : Int32)), .val (.int (0 : Int32)), .val (.int (1 : Int32)), .val (.int (0 : Int32)), .val (.ref a1261), .val (.ref r1277), .unset, .unset] [(.ref r1296)]))
          refine OGoalW.mp (S' := (T1298.setTop (mkF m 86 #[.val (.int p1), .val (.int (1 : Int32)), .val (.int (0 : Int32)), .val (.int (1 : Int32)), .val (.int (0 : Int32)), .val (.ref a1261), .val (.ref r1277), .val (.ref r1296), .unset] []))) (fun _ k => XS.astore X1300.here hx rfl (hb hby at_84) rfl rfl (l' := #[.val (.int p1), .val (.int (1 : Int32)), .val (.int (0 : Int32)), .val (.int (1 : Int32)), .val (.int (0 : Int32)), .val (.ref a1261), .val (.ref r1277), .val (.ref r1296), .unset]) rfl k) ?_
          refine OGoalW.mp (S' := (T1298.setTop (mkF m 88 #[.val (.int p1), .val (.int (1 : Int32)), .val (.int (0 : Int32)), .val (.int (1 : Int32)), .val (.int (0 : Int32)), .val (.ref a1261), .val (.ref r1277), .val (.ref r1296), .unset] [(.ref a1261)]))) (fun _ k => XS.aload X1300.here hx rfl (hb hby at_86) rfl rfl k) ?_
          refine OGoalW.mp (S' := (T1298.setTop (mkF m 89 #[.val (.int p1), .val (.int (1 : Int32)), .val (.int (0 : Int32)), .val (.int (1 : Int32)), .val (.int (0 : Int32)), .val (.ref a1261), .val (.ref r1277), .val (.ref r1296), .unset] [(.int (1 : Int32)), (.ref a1261)]))) (fun _ k => XS.iloadN X1300.here hx rfl (hb hby at_88) rfl k) ?_
          refine oCallSW (y := (⟨"com/example/wildsolve/wildsolve/infer/FreshOrdinaryPinLaw", "step", "(Lcom/example/wildsolve/wildsolve/infer/Fresh;Z)Lcom/example/wildsolve/wildsolve/solver/Placeholder;"⟩ : MethodName)) X1300 hx hZ hown (hw _ (List.mem_of_getElem? (i := 9) rfl)) (hw _ (List.mem_of_getElem? (i := 10) rfl)) (hw _ (List.mem_of_getElem? (i := 11) rfl)) (hw _ (List.mem_of_getElem? (i := 12) rfl)) (by decide) (rmSt1 l Z a0 hw a1261 T1298.heap n0 Z1317 (2 : Int32) (3 : Int32) (0 : Int32) (by decide) E1308 F1309 F1310 ab1268) rfl [(.ref a1261), (.int (1 : Int32))] [] rfl rfl (by rw [hml]; rfl) (lenOf own_pd__Lcom_example_wildsolve_wildsolve_infer_Fresh_Z_Lcom_example_wildsolve_wildsolve_solver_Placeholder_ rfl) 0 (Nat.le_of_eq rfl) (by decide) (by decide) (by decide) (by decide) (hb hby at_89) ?_
          intro v1319 T1320 L1321 X1322 q1323
          obtain ⟨r1318, rfl, N1324, K1325, hr1326, E1327, F1328, F1329, E1330, F1331, F1332⟩ := q1323
          have N1333 := Fr.app N1311 N1324
          have lt1334 : a1261 < r1318 := Nat.lt_of_lt_of_le E1308.lt hr1326
          have F1335 := F1313.keep K1325
          have F1336 := F1314.keep K1325 (ninS (Nat.ne_of_gt lt1293) nin0)
          have F1337 := F1315.keep K1325 (ninS (Nat.ne_of_gt lt1293) nin0)
          have F1338 := E1305.keep K1325
          have F1339 := F1306.keep K1325 (ninS (Nat.ne_of_gt lt1312) nin0)
          have F1340 := F1307.keep K1325 (ninS (Nat.ne_of_gt lt1312) nin0)
          have K1341 : Keep h0 T1320.heap [] := K1316.trans K1325 (allS (Or.inr fr1263) all0)
          have Z1342 : n0 ≤ T1320.heap.size := Nat.le_trans Z1317 K1325.1
          show OGoalW p e below s _ _ _ (T1320.setTop (mkF m 92 #[.val (.int p1), .val (.int (1 : Int32)), .val (.int (0 : Int32)), .val (.int (1 : Int32)), .val (.int (0 : Int32)), .val (.ref a1261), .val (.ref r1277), .val (.ref r1296), .unset] [(.ref r1318)]))
          refine OGoalW.mp (S' := (T1320.setTop (mkF m 94 #[.val (.int p1), .val (.int (1 : Int32)), .val (.int (0 : Int32)), .val (.int (1 : Int32)), .val (.int (0 : Int32)), .val (.ref a1261), .val (.ref r1277), .val (.ref r1296), .val (.ref r1318)] []))) (fun _ k => XS.astore X1322.here hx rfl (hb hby at_92) rfl rfl (l' := #[.val (.int p1), .val (.int (1 : Int32)), .val (.int (0 : Int32)), .val (.int (1 : Int32)), .val (.int (0 : Int32)), .val (.ref a1261), .val (.ref r1277), .val (.ref r1296), .val (.ref r1318)]) rfl k) ?_
          refine OGoalW.mp (S' := (T1320.setTop (mkF m 96 #[.val (.int p1), .val (.int (1 : Int32)), .val (.int (0 : Int32)), .val (.int (1 : Int32)), .val (.int (0 : Int32)), .val (.ref a1261), .val (.ref r1277), .val (.ref r1296), .val (.ref r1318)] [(.ref r1277)]))) (fun _ k => XS.aload X1322.here hx rfl (hb hby at_94) rfl rfl k) ?_
          refine OGoalW.mp (S' := (T1320.setTop (mkF m 97 #[.val (.int p1), .val (.int (1 : Int32)), .val (.int (0 : Int32)), .val (.int (1 : Int32)), .val (.int (0 : Int32)), .val (.ref a1261), .val (.ref r1277), .val (.ref r1296), .val (.ref r1318)] [(.int (1 : Int32)), (.ref r1277)]))) (fun _ k => XS.iconst X1322.here hx rfl (hb hby at_96) k) ?_
          refine OGoalW.mp (S' := (T1320.setTop (mkF m 98 #[.val (.int p1), .val (.int (1 : Int32)), .val (.int (0 : Int32)), .val (.int (1 : Int32)), .val (.int (0 : Int32)), .val (.ref a1261), .val (.ref r1277), .val (.ref r1296), .val (.ref r1318)] [(.int (1 : Int32)), (.int (1 : Int32)), (.ref r1277)]))) (fun _ k => XS.iloadN X1322.here hx rfl (hb hby at_97) rfl k) ?_
          refine oCallSW (y := (⟨"com/example/wildsolve/wildsolve/infer/FreshOrdinaryPinLaw", "check", "(Lcom/example/wildsolve/wildsolve/solver/Placeholder;IZ)Z"⟩ : MethodName)) X1322 hx hZ hown (hw _ (List.mem_of_getElem? (i := 36) rfl)) (hw _ (List.mem_of_getElem? (i := 37) rfl)) (hw _ (List.mem_of_getElem? (i := 11) rfl)) (hw _ (List.mem_of_getElem? (i := 38) rfl)) (by decide) (rmCk11 l Z a0 hw r1277 T1320.heap n0 Z1342 F1335 F1336 F1337) rfl [(.ref r1277), (.int (1 : Int32)), (.int (1 : Int32))] [] rfl rfl (by rw [hml]; rfl) (lenOf own_pd__Lcom_example_wildsolve_wildsolve_solver_Placeholder_IZ_Z rfl) 0 (Nat.le_of_eq rfl) (by decide) (by decide) (by decide) (by decide) (hb hby at_98) ?_
          intro v1343 T1344 L1345 X1346 q1347
          obtain ⟨rfl, N1348, e1349⟩ := q1347
          have N1350 := Fr.app N1333 N1348
          show OGoalW p e below s _ _ _ (T1344.setTop (mkF m 101 #[.val (.int p1), .val (.int (1 : Int32)), .val (.int (0 : Int32)), .val (.int (1 : Int32)), .val (.int (0 : Int32)), .val (.ref a1261), .val (.ref r1277), .val (.ref r1296), .val (.ref r1318)] [(.int (1 : Int32))]))
          refine OGoalW.mp (S' := (T1344.setTop (mkF m 104 #[.val (.int p1), .val (.int (1 : Int32)), .val (.int (0 : Int32)), .val (.int (1 : Int32)), .val (.int (0 : Int32)), .val (.ref a1261), .val (.ref r1277), .val (.ref r1296), .val (.ref r1318)] []))) (fun _ k => XS.ifNo X1346.here hx rfl (hb hby at_101) rfl (XT.i0_eq_f (by decide)) k) ?_
          refine OGoalW.mp (S' := (T1344.setTop (mkF m 106 #[.val (.int p1), .val (.int (1 : Int32)), .val (.int (0 : Int32)), .val (.int (1 : Int32)), .val (.int (0 : Int32)), .val (.ref a1261), .val (.ref r1277), .val (.ref r1296), .val (.ref r1318)] [(.ref r1296)]))) (fun _ k => XS.aload X1346.here hx rfl (hb hby at_104) rfl rfl k) ?_
          refine OGoalW.mp (S' := (T1344.setTop (mkF m 107 #[.val (.int p1), .val (.int (1 : Int32)), .val (.int (0 : Int32)), .val (.int (1 : Int32)), .val (.int (0 : Int32)), .val (.ref a1261), .val (.ref r1277), .val (.ref r1296), .val (.ref r1318)] [(.int (2 : Int32)), (.ref r1296)]))) (fun _ k => XS.iconst X1346.here hx rfl (hb hby at_106) k) ?_
          refine OGoalW.mp (S' := (T1344.setTop (mkF m 108 #[.val (.int p1), .val (.int (1 : Int32)), .val (.int (0 : Int32)), .val (.int (1 : Int32)), .val (.int (0 : Int32)), .val (.ref a1261), .val (.ref r1277), .val (.ref r1296), .val (.ref r1318)] [(.int (0 : Int32)), (.int (2 : Int32)), (.ref r1296)]))) (fun _ k => XS.iloadN X1346.here hx rfl (hb hby at_107) rfl k) ?_
          refine oCallSW (y := (⟨"com/example/wildsolve/wildsolve/infer/FreshOrdinaryPinLaw", "check", "(Lcom/example/wildsolve/wildsolve/solver/Placeholder;IZ)Z"⟩ : MethodName)) X1346 hx hZ hown (hw _ (List.mem_of_getElem? (i := 36) rfl)) (hw _ (List.mem_of_getElem? (i := 37) rfl)) (hw _ (List.mem_of_getElem? (i := 11) rfl)) (hw _ (List.mem_of_getElem? (i := 38) rfl)) (by decide) (rmCk20 l Z a0 hw r1296 T1320.heap n0 Z1342 F1338 F1339 F1340) e1349 [(.ref r1296), (.int (2 : Int32)), (.int (0 : Int32))] [] rfl rfl (by rw [hml]; rfl) (lenOf own_pd__Lcom_example_wildsolve_wildsolve_solver_Placeholder_IZ_Z rfl) 0 (Nat.le_of_eq rfl) (by decide) (by decide) (by decide) (by decide) (hb hby at_108) ?_
          intro v1351 T1352 L1353 X1354 q1355
          obtain ⟨rfl, N1356, e1357⟩ := q1355
          have N1358 := Fr.app N1350 N1356
          show OGoalW p e below s _ _ _ (T1352.setTop (mkF m 111 #[.val (.int p1), .val (.int (1 : Int32)), .val (.int (0 : Int32)), .val (.int (1 : Int32)), .val (.int (0 : Int32)), .val (.ref a1261), .val (.ref r1277), .val (.ref r1296), .val (.ref r1318)] [(.int (1 : Int32))]))
          refine OGoalW.mp (S' := (T1352.setTop (mkF m 114 #[.val (.int p1), .val (.int (1 : Int32)), .val (.int (0 : Int32)), .val (.int (1 : Int32)), .val (.int (0 : Int32)), .val (.ref a1261), .val (.ref r1277), .val (.ref r1296), .val (.ref r1318)] []))) (fun _ k => XS.ifNo X1354.here hx rfl (hb hby at_111) rfl (XT.i0_eq_f (by decide)) k) ?_
          refine OGoalW.mp (S' := (T1352.setTop (mkF m 116 #[.val (.int p1), .val (.int (1 : Int32)), .val (.int (0 : Int32)), .val (.int (1 : Int32)), .val (.int (0 : Int32)), .val (.ref a1261), .val (.ref r1277), .val (.ref r1296), .val (.ref r1318)] [(.ref r1318)]))) (fun _ k => XS.aload X1354.here hx rfl (hb hby at_114) rfl rfl k) ?_
          refine OGoalW.mp (S' := (T1352.setTop (mkF m 117 #[.val (.int p1), .val (.int (1 : Int32)), .val (.int (0 : Int32)), .val (.int (1 : Int32)), .val (.int (0 : Int32)), .val (.ref a1261), .val (.ref r1277), .val (.ref r1296), .val (.ref r1318)] [(.int (3 : Int32)), (.ref r1318)]))) (fun _ k => XS.iconst X1354.here hx rfl (hb hby at_116) k) ?_
          refine OGoalW.mp (S' := (T1352.setTop (mkF m 118 #[.val (.int p1), .val (.int (1 : Int32)), .val (.int (0 : Int32)), .val (.int (1 : Int32)), .val (.int (0 : Int32)), .val (.ref a1261), .val (.ref r1277), .val (.ref r1296), .val (.ref r1318)] [(.int (1 : Int32)), (.int (3 : Int32)), (.ref r1318)]))) (fun _ k => XS.iloadN X1354.here hx rfl (hb hby at_117) rfl k) ?_
          refine oCallSW (y := (⟨"com/example/wildsolve/wildsolve/infer/FreshOrdinaryPinLaw", "check", "(Lcom/example/wildsolve/wildsolve/solver/Placeholder;IZ)Z"⟩ : MethodName)) X1354 hx hZ hown (hw _ (List.mem_of_getElem? (i := 36) rfl)) (hw _ (List.mem_of_getElem? (i := 37) rfl)) (hw _ (List.mem_of_getElem? (i := 11) rfl)) (hw _ (List.mem_of_getElem? (i := 38) rfl)) (by decide) (rmCk31 l Z a0 hw r1318 T1320.heap n0 Z1342 E1327 F1328 F1329) e1357 [(.ref r1318), (.int (3 : Int32)), (.int (1 : Int32))] [] rfl rfl (by rw [hml]; rfl) (lenOf own_pd__Lcom_example_wildsolve_wildsolve_solver_Placeholder_IZ_Z rfl) 0 (Nat.le_of_eq rfl) (by decide) (by decide) (by decide) (by decide) (hb hby at_118) ?_
          intro v1359 T1360 L1361 X1362 q1363
          obtain ⟨rfl, N1364, e1365⟩ := q1363
          have N1366 := Fr.app N1358 N1364
          show OGoalW p e below s _ _ _ (T1360.setTop (mkF m 121 #[.val (.int p1), .val (.int (1 : Int32)), .val (.int (0 : Int32)), .val (.int (1 : Int32)), .val (.int (0 : Int32)), .val (.ref a1261), .val (.ref r1277), .val (.ref r1296), .val (.ref r1318)] [(.int (1 : Int32))]))
          refine OGoalW.mp (S' := (T1360.setTop (mkF m 124 #[.val (.int p1), .val (.int (1 : Int32)), .val (.int (0 : Int32)), .val (.int (1 : Int32)), .val (.int (0 : Int32)), .val (.ref a1261), .val (.ref r1277), .val (.ref r1296), .val (.ref r1318)] []))) (fun _ k => XS.ifNo X1362.here hx rfl (hb hby at_121) rfl (XT.i0_eq_f (by decide)) k) ?_
          refine OGoalW.mp (S' := (T1360.setTop (mkF m 125 #[.val (.int p1), .val (.int (1 : Int32)), .val (.int (0 : Int32)), .val (.int (1 : Int32)), .val (.int (0 : Int32)), .val (.ref a1261), .val (.ref r1277), .val (.ref r1296), .val (.ref r1318)] [(.int (1 : Int32))]))) (fun _ k => XS.iconst X1362.here hx rfl (hb hby at_124) k) ?_
          refine OGoalW.mp (S' := (T1360.setTop (mkF m 129 #[.val (.int p1), .val (.int (1 : Int32)), .val (.int (0 : Int32)), .val (.int (1 : Int32)), .val (.int (0 : Int32)), .val (.ref a1261), .val (.ref r1277), .val (.ref r1296), .val (.ref r1318)] [(.int (1 : Int32))]))) (fun _ k => XS.goto X1362.here hx rfl (pc0 := 125) (pc' := 129) rfl (hb hby at_125) (by decide) (by decide) k) ?_
          refine oRetZW X1362 hS0 (Nat.le_trans (Nat.le_trans (Nat.le_trans (Nat.le_trans (Nat.le_trans (Nat.le_of_eq (congrArg Array.size hsh)) E1258.1) K1284.1) K1303.1) K1325.1) (Nat.le_of_eq (congrArg Array.size e1365).symm)) hx hlk hret (Or.inr rfl) (hb hby at_129) ?_ (by decide) (by decide)
          exact ⟨rfl, N1366⟩
        · refine OGoalW.mp (S' := (s₁.setTop (mkF m 43 #[.val (.int p1), .val (.int (1 : Int32)), .val (.int (0 : Int32)), .val (.int (1 : Int32)), .unset, .unset, .unset, .unset, .unset] []))) (fun _ k => XS.ifNo X0.here hx rfl (hb hby at_40) rfl (XT.i0_eq_f hc1252) k) ?_
          refine OGoalW.mp (S' := (s₁.setTop (mkF m 44 #[.val (.int p1), .val (.int (1 : Int32)), .val (.int (0 : Int32)), .val (.int (1 : Int32)), .unset, .unset, .unset, .unset, .unset] [(.int (1 : Int32))]))) (fun _ k => XS.iconst X0.here hx rfl (hb hby at_43) k) ?_
          refine OGoalW.mp (S' := (s₁.setTop (mkF m 48 #[.val (.int p1), .val (.int (1 : Int32)), .val (.int (0 : Int32)), .val (.int (1 : Int32)), .unset, .unset, .unset, .unset, .unset] [(.int (1 : Int32))]))) (fun _ k => XS.goto X0.here hx rfl (pc0 := 44) (pc' := 48) rfl (hb hby at_44) (by decide) (by decide) k) ?_
          refine OGoalW.mp (S' := (s₁.setTop (mkF m 50 #[.val (.int p1), .val (.int (1 : Int32)), .val (.int (0 : Int32)), .val (.int (1 : Int32)), .val (.int (1 : Int32)), .unset, .unset, .unset, .unset] []))) (fun _ k => XS.istore X0.here hx rfl (hb hby at_48) rfl (l' := #[.val (.int p1), .val (.int (1 : Int32)), .val (.int (0 : Int32)), .val (.int (1 : Int32)), .val (.int (1 : Int32)), .unset, .unset, .unset, .unset]) rfl k) ?_
          obtain ⟨T1367, h1371, X1368, e1369, E1372, A1373, D1374, -, st1370⟩ := newO X0 hx hZ hown (hw _ (List.mem_of_getElem? (i := 0) rfl)) (hw _ (List.mem_of_getElem? (i := 1) rfl)) (hw _ (List.mem_of_getElem? (i := 2) rfl)) e0 (g := mkF m 50 #[.val (.int p1), .val (.int (1 : Int32)), .val (.int (0 : Int32)), .val (.int (1 : Int32)), .val (.int (1 : Int32)), .unset, .unset, .unset, .unset] []) rfl (hb hby at_50) (by decide) (by decide)
          obtain ⟨a1375, g1376⟩ : ∃ z, z = h0.size := ⟨_, rfl⟩
          rw [← g1376] at A1373 D1374 st1370
          have fr1377 : h0.size ≤ a1375 := by rw [g1376]; exact (Keep.refl h0 []).1
          have K1378 : Keep h0 h1371 [] := (Keep.refl h0 []).ext E1372
          have F1379 : Fld Z h1371 a1375 "com/example/wildsolve/wildsolve/infer/Fresh" "placeholders" "I" (.int (0 : Int32)) := D1374 (Or.inl (hw _ (List.mem_of_getElem? (i := 22) rfl))) (ty := .int) (by decide)
          have F1380 : Fld Z h1371 a1375 "com/example/wildsolve/wildsolve/infer/Fresh" "variables" "I" (.int (0 : Int32)) := D1374 (Or.inl (hw _ (List.mem_of_getElem? (i := 136) rfl))) (ty := .int) (by decide)
          have Z1381 : n0 ≤ h1371.size := Nat.le_trans Z0 E1372.1
          have ab1382 : n0 ≤ a1375 := Nat.le_trans Z0 (Nat.le_of_eq g1376.symm)
          refine OGoalW.mp (S' := (T1367.setTop (mkF m 53 #[.val (.int p1), .val (.int (1 : Int32)), .val (.int (0 : Int32)), .val (.int (1 : Int32)), .val (.int (1 : Int32)), .unset, .unset, .unset, .unset] [(.ref a1375)]))) (fun _ k => st1370 _ k) ?_
          refine OGoalW.mp (S' := (T1367.setTop (mkF m 54 #[.val (.int p1), .val (.int (1 : Int32)), .val (.int (0 : Int32)), .val (.int (1 : Int32)), .val (.int (1 : Int32)), .unset, .unset, .unset, .unset] [(.ref a1375), (.ref a1375)]))) (fun _ k => XS.dup X1368.here hx rfl (hb hby at_53) rfl rfl k) ?_
          refine oCallNW (y := (⟨"com/example/wildsolve/wildsolve/infer/Fresh", "<init>", "()V"⟩ : MethodName)) X1368 hx hZ rfl hown (hw _ (List.mem_of_getElem? (i := 3) rfl)) (hw _ (List.mem_of_getElem? (i := 4) rfl)) (hw _ (List.mem_of_getElem? (i := 2) rfl)) (hw _ (List.mem_of_getElem? (i := 5) rfl)) (by decide) (rmFI l Z a0 hw a1375 h1371 n0 Z1381) e1369 [] [(.ref a1375)] rfl rfl (by rw [hml]; rfl) (lenOf own_pd___V rfl) 1 (Nat.le_of_eq rfl) (by decide) (by decide) (by decide) (by decide) (hb hby at_54) ?_
          intro v1383 T1384 L1385 X1386 q1387
          obtain ⟨rfl, N1388, e1389⟩ := q1387
          have N1390 := Fr.app (Fr.nil n0) N1388
          show OGoalW p e below s _ _ _ (T1384.setTop (mkF m 57 #[.val (.int p1), .val (.int (1 : Int32)), .val (.int (0 : Int32)), .val (.int (1 : Int32)), .val (.int (1 : Int32)), .unset, .unset, .unset, .unset] [(.ref a1375)]))
          refine OGoalW.mp (S' := (T1384.setTop (mkF m 59 #[.val (.int p1), .val (.int (1 : Int32)), .val (.int (0 : Int32)), .val (.int (1 : Int32)), .val (.int (1 : Int32)), .val (.ref a1375), .unset, .unset, .unset] []))) (fun _ k => XS.astore X1386.here hx rfl (hb hby at_57) rfl rfl (l' := #[.val (.int p1), .val (.int (1 : Int32)), .val (.int (0 : Int32)), .val (.int (1 : Int32)), .val (.int (1 : Int32)), .val (.ref a1375), .unset, .unset, .unset]) rfl k) ?_
          refine OGoalW.mp (S' := (T1384.setTop (mkF m 61 #[.val (.int p1), .val (.int (1 : Int32)), .val (.int (0 : Int32)), .val (.int (1 : Int32)), .val (.int (1 : Int32)), .val (.ref a1375), .unset, .unset, .unset] [(.ref a1375)]))) (fun _ k => XS.aload X1386.here hx rfl (hb hby at_59) rfl rfl k) ?_
          refine OGoalW.mp (S' := (T1384.setTop (mkF m 62 #[.val (.int p1), .val (.int (1 : Int32)), .val (.int (0 : Int32)), .val (.int (1 : Int32)), .val (.int (1 : Int32)), .val (.ref a1375), .unset, .unset, .unset] [(.int (1 : Int32)), (.ref a1375)]))) (fun _ k => XS.iloadN X1386.here hx rfl (hb hby at_61) rfl k) ?_
          refine oCallSW (y := (⟨"com/example/wildsolve/wildsolve/infer/FreshOrdinaryPinLaw", "step", "(Lcom/example/wildsolve/wildsolve/infer/Fresh;Z)Lcom/example/wildsolve/wildsolve/solver/Placeholder;"⟩ : MethodName)) X1386 hx hZ hown (hw _ (List.mem_of_getElem? (i := 9) rfl)) (hw _ (List.mem_of_getElem? (i := 10) rfl)) (hw _ (List.mem_of_getElem? (i := 11) rfl)) (hw _ (List.mem_of_getElem? (i := 12) rfl)) (by decide) (rmSt1 l Z a0 hw a1375 h1371 n0 Z1381 (0 : Int32) (1 : Int32) (0 : Int32) (by decide) A1373 F1379 F1380 ab1382) e1389 [(.ref a1375), (.int (1 : Int32))] [] rfl rfl (by rw [hml]; rfl) (lenOf own_pd__Lcom_example_wildsolve_wildsolve_infer_Fresh_Z_Lcom_example_wildsolve_wildsolve_solver_Placeholder_ rfl) 0 (Nat.le_of_eq rfl) (by decide) (by decide) (by decide) (by decide) (hb hby at_62) ?_
          intro v1392 T1393 L1394 X1395 q1396
          obtain ⟨r1391, rfl, N1397, K1398, hr1399, E1400, F1401, F1402, E1403, F1404, F1405⟩ := q1396
          have N1406 := Fr.app N1390 N1397
          have lt1407 : a1375 < r1391 := Nat.lt_of_lt_of_le A1373.lt hr1399
          have K1408 : Keep h0 T1393.heap [] := K1378.trans K1398 (allS (Or.inr fr1377) all0)
          have Z1409 : n0 ≤ T1393.heap.size := Nat.le_trans Z1381 K1398.1
          show OGoalW p e below s _ _ _ (T1393.setTop (mkF m 65 #[.val (.int p1), .val (.int (1 : Int32)), .val (.int (0 : Int32)), .val (.int (1 : Int32)), .val (.int (1 : Int32)), .val (.ref a1375), .unset, .unset, .unset] [(.ref r1391)]))
          refine OGoalW.mp (S' := (T1393.setTop (mkF m 67 #[.val (.int p1), .val (.int (1 : Int32)), .val (.int (0 : Int32)), .val (.int (1 : Int32)), .val (.int (1 : Int32)), .val (.ref a1375), .val (.ref r1391), .unset, .unset] []))) (fun _ k => XS.astore X1395.here hx rfl (hb hby at_65) rfl rfl (l' := #[.val (.int p1), .val (.int (1 : Int32)), .val (.int (0 : Int32)), .val (.int (1 : Int32)), .val (.int (1 : Int32)), .val (.ref a1375), .val (.ref r1391), .unset, .unset]) rfl k) ?_
          refine OGoalW.mp (S' := (T1393.setTop (mkF m 69 #[.val (.int p1), .val (.int (1 : Int32)), .val (.int (0 : Int32)), .val (.int (1 : Int32)), .val (.int (1 : Int32)), .val (.ref a1375), .val (.ref r1391), .unset, .unset] [(.int (1 : Int32))]))) (fun _ k => XS.iload X1395.here hx rfl (hb hby at_67) rfl k) ?_
          refine OGoalW.mp (S' := (T1393.setTop (mkF m 72 #[.val (.int p1), .val (.int (1 : Int32)), .val (.int (0 : Int32)), .val (.int (1 : Int32)), .val (.int (1 : Int32)), .val (.ref a1375), .val (.ref r1391), .unset, .unset] []))) (fun _ k => XS.ifNo X1395.here hx rfl (hb hby at_69) rfl (XT.i0_eq_f (by decide)) k) ?_
          refine OGoalW.mp (S' := (T1393.setTop (mkF m 74 #[.val (.int p1), .val (.int (1 : Int32)), .val (.int (0 : Int32)), .val (.int (1 : Int32)), .val (.int (1 : Int32)), .val (.ref a1375), .val (.ref r1391), .unset, .unset] [(.ref a1375)]))) (fun _ k => XS.aload X1395.here hx rfl (hb hby at_72) rfl rfl k) ?_
          have nd1411 : dg ≠ a1375 := Nat.ne_of_lt (Nat.lt_of_lt_of_le Adg.lt fr1377)
          refine oCallVS (y := (⟨"com/example/wildsolve/wildsolve/infer/Fresh", "variable", "()Ljava/lang/String;"⟩ : MethodName)) (z := (⟨"com/example/wildsolve/wildsolve/infer/Fresh", "variable", "()Ljava/lang/String;"⟩ : MethodName)) X1395 hx hS0 (Nat.le_trans (Nat.le_trans (Nat.le_trans (Nat.le_of_eq (congrArg Array.size hsh)) E1372.1) K1398.1) (Nat.le_of_eq (congrArg Array.size rfl).symm)) hI hZ hown (hw _ (List.mem_of_getElem? (i := 54) rfl)) (hw _ (List.mem_of_getElem? (i := 55) rfl)) (hw _ (List.mem_of_getElem? (i := 57) rfl)) (hw _ (List.mem_of_getElem? (i := 56) rfl)) (hw _ (List.mem_of_getElem? (i := 2) rfl)) (hw _ (List.mem_of_getElem? (i := 58) rfl)) (by decide) (rmVa l Z a0 hw a1375 T1393.heap n0 Z1409 (1 : Int32) cs hcs (Sta.ext (oKext K1408) Scs) dg (Sta.ext (oKext K1408) Sdg) df (Adg.ext (oKext K1408)) xd hdf hxd nd1411 E1403 F1405 F1404 ab1382 (fun b cl q => K1408.2.1 b cl (hkp b cl q) nin0) hcw hch) rfl E1403 [] [] rfl rfl (by rw [hml]; rfl) (notFace_of_selects (args := #[]) (mvT hZ (hw _ (List.mem_of_getElem? (i := 57) rfl)))) (lenOf own_pd___Ljava_lang_String_ rfl) 0 (Nat.le_of_eq rfl) (by decide) (by decide) (by decide) (by decide) (hb hby at_74) ?_
          intro v1412 T1413 L1414 X1415 hS1417 hg1418 hZ hown q1416
          obtain ⟨r1410, rfl, N1419, K1420, E1421, F1422, F1423⟩ := q1416
          have N1424 := Fr.app N1406 N1419
          have F1425 := E1400.keep K1420
          have F1426 := F1401.keep K1420 (ninS (Nat.ne_of_gt lt1407) nin0)
          have F1427 := F1402.keep K1420 (ninS (Nat.ne_of_gt lt1407) nin0)
          have K1428 : Keep h0 T1413.heap [] := K1408.trans K1420 (allS (Or.inr fr1377) all0)
          have Z1429 : n0 ≤ T1413.heap.size := Nat.le_trans Z1409 K1420.1
          show OGoalW p e below s _ _ _ (T1413.setTop (mkF m 77 #[.val (.int p1), .val (.int (1 : Int32)), .val (.int (0 : Int32)), .val (.int (1 : Int32)), .val (.int (1 : Int32)), .val (.ref a1375), .val (.ref r1391), .unset, .unset] [(.ref r1410)]))
          refine OGoalW.mp (S' := (T1413.setTop (mkF m 78 #[.val (.int p1), .val (.int (1 : Int32)), .val (.int (0 : Int32)), .val (.int (1 : Int32)), .val (.int (1 : Int32)), .val (.ref a1375), .val (.ref r1391), .unset, .unset] []))) (fun _ k => XT.pop X1415.here hx rfl (hb hby at_77) rfl rfl k) ?_
          refine OGoalW.mp (S' := (T1413.setTop (mkF m 80 #[.val (.int p1), .val (.int (1 : Int32)), .val (.int (0 : Int32)), .val (.int (1 : Int32)), .val (.int (1 : Int32)), .val (.ref a1375), .val (.ref r1391), .unset, .unset] [(.ref a1375)]))) (fun _ k => XS.aload X1415.here hx rfl (hb hby at_78) rfl rfl k) ?_
          refine OGoalW.mp (S' := (T1413.setTop (mkF m 81 #[.val (.int p1), .val (.int (1 : Int32)), .val (.int (0 : Int32)), .val (.int (1 : Int32)), .val (.int (1 : Int32)), .val (.ref a1375), .val (.ref r1391), .unset, .unset] [(.int (0 : Int32)), (.ref a1375)]))) (fun _ k => XS.iloadN X1415.here hx rfl (hb hby at_80) rfl k) ?_
          refine oCallSW (y := (⟨"com/example/wildsolve/wildsolve/infer/FreshOrdinaryPinLaw", "step", "(Lcom/example/wildsolve/wildsolve/infer/Fresh;Z)Lcom/example/wildsolve/wildsolve/solver/Placeholder;"⟩ : MethodName)) X1415 hx hZ hown (hw _ (List.mem_of_getElem? (i := 9) rfl)) (hw _ (List.mem_of_getElem? (i := 10) rfl)) (hw _ (List.mem_of_getElem? (i := 11) rfl)) (hw _ (List.mem_of_getElem? (i := 12) rfl)) (by decide) (rmSt0 l Z a0 hw a1375 T1413.heap n0 Z1429 (1 : Int32) (2 : Int32) (1 : Int32) (by decide) E1421 F1422 F1423 ab1382) rfl [(.ref a1375), (.int (0 : Int32))] [] rfl rfl (by rw [hml]; rfl) (lenOf own_pd__Lcom_example_wildsolve_wildsolve_infer_Fresh_Z_Lcom_example_wildsolve_wildsolve_solver_Placeholder_ rfl) 0 (Nat.le_of_eq rfl) (by decide) (by decide) (by decide) (by decide) (hb hby at_81) ?_
          intro v1431 T1432 L1433 X1434 q1435
          obtain ⟨r1430, rfl, N1436, K1437, hr1438, E1439, F1440, F1441, E1442, F1443, F1444⟩ := q1435
          have N1445 := Fr.app N1424 N1436
          have lt1446 : a1375 < r1430 := Nat.lt_of_lt_of_le E1421.lt hr1438
          have F1447 := F1425.keep K1437
          have F1448 := F1426.keep K1437 (ninS (Nat.ne_of_gt lt1407) nin0)
          have F1449 := F1427.keep K1437 (ninS (Nat.ne_of_gt lt1407) nin0)
          have K1450 : Keep h0 T1432.heap [] := K1428.trans K1437 (allS (Or.inr fr1377) all0)
          have Z1451 : n0 ≤ T1432.heap.size := Nat.le_trans Z1429 K1437.1
          show OGoalW p e below s _ _ _ (T1432.setTop (mkF m 84 #[.val (.int p1), .val (.int (1 : Int32)), .val (.int (0 : Int32)), .val (.int (1 : Int32)), .val (.int (1 : Int32)), .val (.ref a1375), .val (.ref r1391), .unset, .unset] [(.ref r1430)]))
          refine OGoalW.mp (S' := (T1432.setTop (mkF m 86 #[.val (.int p1), .val (.int (1 : Int32)), .val (.int (0 : Int32)), .val (.int (1 : Int32)), .val (.int (1 : Int32)), .val (.ref a1375), .val (.ref r1391), .val (.ref r1430), .unset] []))) (fun _ k => XS.astore X1434.here hx rfl (hb hby at_84) rfl rfl (l' := #[.val (.int p1), .val (.int (1 : Int32)), .val (.int (0 : Int32)), .val (.int (1 : Int32)), .val (.int (1 : Int32)), .val (.ref a1375), .val (.ref r1391), .val (.ref r1430), .unset]) rfl k) ?_
          refine OGoalW.mp (S' := (T1432.setTop (mkF m 88 #[.val (.int p1), .val (.int (1 : Int32)), .val (.int (0 : Int32)), .val (.int (1 : Int32)), .val (.int (1 : Int32)), .val (.ref a1375), .val (.ref r1391), .val (.ref r1430), .unset] [(.ref a1375)]))) (fun _ k => XS.aload X1434.here hx rfl (hb hby at_86) rfl rfl k) ?_
          refine OGoalW.mp (S' := (T1432.setTop (mkF m 89 #[.val (.int p1), .val (.int (1 : Int32)), .val (.int (0 : Int32)), .val (.int (1 : Int32)), .val (.int (1 : Int32)), .val (.ref a1375), .val (.ref r1391), .val (.ref r1430), .unset] [(.int (1 : Int32)), (.ref a1375)]))) (fun _ k => XS.iloadN X1434.here hx rfl (hb hby at_88) rfl k) ?_
          refine oCallSW (y := (⟨"com/example/wildsolve/wildsolve/infer/FreshOrdinaryPinLaw", "step", "(Lcom/example/wildsolve/wildsolve/infer/Fresh;Z)Lcom/example/wildsolve/wildsolve/solver/Placeholder;"⟩ : MethodName)) X1434 hx hZ hown (hw _ (List.mem_of_getElem? (i := 9) rfl)) (hw _ (List.mem_of_getElem? (i := 10) rfl)) (hw _ (List.mem_of_getElem? (i := 11) rfl)) (hw _ (List.mem_of_getElem? (i := 12) rfl)) (by decide) (rmSt1 l Z a0 hw a1375 T1432.heap n0 Z1451 (2 : Int32) (3 : Int32) (1 : Int32) (by decide) E1442 F1443 F1444 ab1382) rfl [(.ref a1375), (.int (1 : Int32))] [] rfl rfl (by rw [hml]; rfl) (lenOf own_pd__Lcom_example_wildsolve_wildsolve_infer_Fresh_Z_Lcom_example_wildsolve_wildsolve_solver_Placeholder_ rfl) 0 (Nat.le_of_eq rfl) (by decide) (by decide) (by decide) (by decide) (hb hby at_89) ?_
          intro v1453 T1454 L1455 X1456 q1457
          obtain ⟨r1452, rfl, N1458, K1459, hr1460, E1461, F1462, F1463, E1464, F1465, F1466⟩ := q1457
          have N1467 := Fr.app N1445 N1458
          have lt1468 : a1375 < r1452 := Nat.lt_of_lt_of_le E1442.lt hr1460
          have F1469 := F1447.keep K1459
          have F1470 := F1448.keep K1459 (ninS (Nat.ne_of_gt lt1407) nin0)
          have F1471 := F1449.keep K1459 (ninS (Nat.ne_of_gt lt1407) nin0)
          have F1472 := E1439.keep K1459
          have F1473 := F1440.keep K1459 (ninS (Nat.ne_of_gt lt1446) nin0)
          have F1474 := F1441.keep K1459 (ninS (Nat.ne_of_gt lt1446) nin0)
          have K1475 : Keep h0 T1454.heap [] := K1450.trans K1459 (allS (Or.inr fr1377) all0)
          have Z1476 : n0 ≤ T1454.heap.size := Nat.le_trans Z1451 K1459.1
          show OGoalW p e below s _ _ _ (T1454.setTop (mkF m 92 #[.val (.int p1), .val (.int (1 : Int32)), .val (.int (0 : Int32)), .val (.int (1 : Int32)), .val (.int (1 : Int32)), .val (.ref a1375), .val (.ref r1391), .val (.ref r1430), .unset] [(.ref r1452)]))
          refine OGoalW.mp (S' := (T1454.setTop (mkF m 94 #[.val (.int p1), .val (.int (1 : Int32)), .val (.int (0 : Int32)), .val (.int (1 : Int32)), .val (.int (1 : Int32)), .val (.ref a1375), .val (.ref r1391), .val (.ref r1430), .val (.ref r1452)] []))) (fun _ k => XS.astore X1456.here hx rfl (hb hby at_92) rfl rfl (l' := #[.val (.int p1), .val (.int (1 : Int32)), .val (.int (0 : Int32)), .val (.int (1 : Int32)), .val (.int (1 : Int32)), .val (.ref a1375), .val (.ref r1391), .val (.ref r1430), .val (.ref r1452)]) rfl k) ?_
          refine OGoalW.mp (S' := (T1454.setTop (mkF m 96 #[.val (.int p1), .val (.int (1 : Int32)), .val (.int (0 : Int32)), .val (.int (1 : Int32)), .val (.int (1 : Int32)), .val (.ref a1375), .val (.ref r1391), .val (.ref r1430), .val (.ref r1452)] [(.ref r1391)]))) (fun _ k => XS.aload X1456.here hx rfl (hb hby at_94) rfl rfl k) ?_
          refine OGoalW.mp (S' := (T1454.setTop (mkF m 97 #[.val (.int p1), .val (.int (1 : Int32)), .val (.int (0 : Int32)), .val (.int (1 : Int32)), .val (.int (1 : Int32)), .val (.ref a1375), .val (.ref r1391), .val (.ref r1430), .val (.ref r1452)] [(.int (1 : Int32)), (.ref r1391)]))) (fun _ k => XS.iconst X1456.here hx rfl (hb hby at_96) k) ?_
          refine OGoalW.mp (S' := (T1454.setTop (mkF m 98 #[.val (.int p1), .val (.int (1 : Int32)), .val (.int (0 : Int32)), .val (.int (1 : Int32)), .val (.int (1 : Int32)), .val (.ref a1375), .val (.ref r1391), .val (.ref r1430), .val (.ref r1452)] [(.int (1 : Int32)), (.int (1 : Int32)), (.ref r1391)]))) (fun _ k => XS.iloadN X1456.here hx rfl (hb hby at_97) rfl k) ?_
          refine oCallSW (y := (⟨"com/example/wildsolve/wildsolve/infer/FreshOrdinaryPinLaw", "check", "(Lcom/example/wildsolve/wildsolve/solver/Placeholder;IZ)Z"⟩ : MethodName)) X1456 hx hZ hown (hw _ (List.mem_of_getElem? (i := 36) rfl)) (hw _ (List.mem_of_getElem? (i := 37) rfl)) (hw _ (List.mem_of_getElem? (i := 11) rfl)) (hw _ (List.mem_of_getElem? (i := 38) rfl)) (by decide) (rmCk11 l Z a0 hw r1391 T1454.heap n0 Z1476 F1469 F1470 F1471) rfl [(.ref r1391), (.int (1 : Int32)), (.int (1 : Int32))] [] rfl rfl (by rw [hml]; rfl) (lenOf own_pd__Lcom_example_wildsolve_wildsolve_solver_Placeholder_IZ_Z rfl) 0 (Nat.le_of_eq rfl) (by decide) (by decide) (by decide) (by decide) (hb hby at_98) ?_
          intro v1477 T1478 L1479 X1480 q1481
          obtain ⟨rfl, N1482, e1483⟩ := q1481
          have N1484 := Fr.app N1467 N1482
          show OGoalW p e below s _ _ _ (T1478.setTop (mkF m 101 #[.val (.int p1), .val (.int (1 : Int32)), .val (.int (0 : Int32)), .val (.int (1 : Int32)), .val (.int (1 : Int32)), .val (.ref a1375), .val (.ref r1391), .val (.ref r1430), .val (.ref r1452)] [(.int (1 : Int32))]))
          refine OGoalW.mp (S' := (T1478.setTop (mkF m 104 #[.val (.int p1), .val (.int (1 : Int32)), .val (.int (0 : Int32)), .val (.int (1 : Int32)), .val (.int (1 : Int32)), .val (.ref a1375), .val (.ref r1391), .val (.ref r1430), .val (.ref r1452)] []))) (fun _ k => XS.ifNo X1480.here hx rfl (hb hby at_101) rfl (XT.i0_eq_f (by decide)) k) ?_
          refine OGoalW.mp (S' := (T1478.setTop (mkF m 106 #[.val (.int p1), .val (.int (1 : Int32)), .val (.int (0 : Int32)), .val (.int (1 : Int32)), .val (.int (1 : Int32)), .val (.ref a1375), .val (.ref r1391), .val (.ref r1430), .val (.ref r1452)] [(.ref r1430)]))) (fun _ k => XS.aload X1480.here hx rfl (hb hby at_104) rfl rfl k) ?_
          refine OGoalW.mp (S' := (T1478.setTop (mkF m 107 #[.val (.int p1), .val (.int (1 : Int32)), .val (.int (0 : Int32)), .val (.int (1 : Int32)), .val (.int (1 : Int32)), .val (.ref a1375), .val (.ref r1391), .val (.ref r1430), .val (.ref r1452)] [(.int (2 : Int32)), (.ref r1430)]))) (fun _ k => XS.iconst X1480.here hx rfl (hb hby at_106) k) ?_
          refine OGoalW.mp (S' := (T1478.setTop (mkF m 108 #[.val (.int p1), .val (.int (1 : Int32)), .val (.int (0 : Int32)), .val (.int (1 : Int32)), .val (.int (1 : Int32)), .val (.ref a1375), .val (.ref r1391), .val (.ref r1430), .val (.ref r1452)] [(.int (0 : Int32)), (.int (2 : Int32)), (.ref r1430)]))) (fun _ k => XS.iloadN X1480.here hx rfl (hb hby at_107) rfl k) ?_
          refine oCallSW (y := (⟨"com/example/wildsolve/wildsolve/infer/FreshOrdinaryPinLaw", "check", "(Lcom/example/wildsolve/wildsolve/solver/Placeholder;IZ)Z"⟩ : MethodName)) X1480 hx hZ hown (hw _ (List.mem_of_getElem? (i := 36) rfl)) (hw _ (List.mem_of_getElem? (i := 37) rfl)) (hw _ (List.mem_of_getElem? (i := 11) rfl)) (hw _ (List.mem_of_getElem? (i := 38) rfl)) (by decide) (rmCk20 l Z a0 hw r1430 T1454.heap n0 Z1476 F1472 F1473 F1474) e1483 [(.ref r1430), (.int (2 : Int32)), (.int (0 : Int32))] [] rfl rfl (by rw [hml]; rfl) (lenOf own_pd__Lcom_example_wildsolve_wildsolve_solver_Placeholder_IZ_Z rfl) 0 (Nat.le_of_eq rfl) (by decide) (by decide) (by decide) (by decide) (hb hby at_108) ?_
          intro v1485 T1486 L1487 X1488 q1489
          obtain ⟨rfl, N1490, e1491⟩ := q1489
          have N1492 := Fr.app N1484 N1490
          show OGoalW p e below s _ _ _ (T1486.setTop (mkF m 111 #[.val (.int p1), .val (.int (1 : Int32)), .val (.int (0 : Int32)), .val (.int (1 : Int32)), .val (.int (1 : Int32)), .val (.ref a1375), .val (.ref r1391), .val (.ref r1430), .val (.ref r1452)] [(.int (1 : Int32))]))
          refine OGoalW.mp (S' := (T1486.setTop (mkF m 114 #[.val (.int p1), .val (.int (1 : Int32)), .val (.int (0 : Int32)), .val (.int (1 : Int32)), .val (.int (1 : Int32)), .val (.ref a1375), .val (.ref r1391), .val (.ref r1430), .val (.ref r1452)] []))) (fun _ k => XS.ifNo X1488.here hx rfl (hb hby at_111) rfl (XT.i0_eq_f (by decide)) k) ?_
          refine OGoalW.mp (S' := (T1486.setTop (mkF m 116 #[.val (.int p1), .val (.int (1 : Int32)), .val (.int (0 : Int32)), .val (.int (1 : Int32)), .val (.int (1 : Int32)), .val (.ref a1375), .val (.ref r1391), .val (.ref r1430), .val (.ref r1452)] [(.ref r1452)]))) (fun _ k => XS.aload X1488.here hx rfl (hb hby at_114) rfl rfl k) ?_
          refine OGoalW.mp (S' := (T1486.setTop (mkF m 117 #[.val (.int p1), .val (.int (1 : Int32)), .val (.int (0 : Int32)), .val (.int (1 : Int32)), .val (.int (1 : Int32)), .val (.ref a1375), .val (.ref r1391), .val (.ref r1430), .val (.ref r1452)] [(.int (3 : Int32)), (.ref r1452)]))) (fun _ k => XS.iconst X1488.here hx rfl (hb hby at_116) k) ?_
          refine OGoalW.mp (S' := (T1486.setTop (mkF m 118 #[.val (.int p1), .val (.int (1 : Int32)), .val (.int (0 : Int32)), .val (.int (1 : Int32)), .val (.int (1 : Int32)), .val (.ref a1375), .val (.ref r1391), .val (.ref r1430), .val (.ref r1452)] [(.int (1 : Int32)), (.int (3 : Int32)), (.ref r1452)]))) (fun _ k => XS.iloadN X1488.here hx rfl (hb hby at_117) rfl k) ?_
          refine oCallSW (y := (⟨"com/example/wildsolve/wildsolve/infer/FreshOrdinaryPinLaw", "check", "(Lcom/example/wildsolve/wildsolve/solver/Placeholder;IZ)Z"⟩ : MethodName)) X1488 hx hZ hown (hw _ (List.mem_of_getElem? (i := 36) rfl)) (hw _ (List.mem_of_getElem? (i := 37) rfl)) (hw _ (List.mem_of_getElem? (i := 11) rfl)) (hw _ (List.mem_of_getElem? (i := 38) rfl)) (by decide) (rmCk31 l Z a0 hw r1452 T1454.heap n0 Z1476 E1461 F1462 F1463) e1491 [(.ref r1452), (.int (3 : Int32)), (.int (1 : Int32))] [] rfl rfl (by rw [hml]; rfl) (lenOf own_pd__Lcom_example_wildsolve_wildsolve_solver_Placeholder_IZ_Z rfl) 0 (Nat.le_of_eq rfl) (by decide) (by decide) (by decide) (by decide) (hb hby at_118) ?_
          intro v1493 T1494 L1495 X1496 q1497
          obtain ⟨rfl, N1498, e1499⟩ := q1497
          have N1500 := Fr.app N1492 N1498
          show OGoalW p e below s _ _ _ (T1494.setTop (mkF m 121 #[.val (.int p1), .val (.int (1 : Int32)), .val (.int (0 : Int32)), .val (.int (1 : Int32)), .val (.int (1 : Int32)), .val (.ref a1375), .val (.ref r1391), .val (.ref r1430), .val (.ref r1452)] [(.int (1 : Int32))]))
          refine OGoalW.mp (S' := (T1494.setTop (mkF m 124 #[.val (.int p1), .val (.int (1 : Int32)), .val (.int (0 : Int32)), .val (.int (1 : Int32)), .val (.int (1 : Int32)), .val (.ref a1375), .val (.ref r1391), .val (.ref r1430), .val (.ref r1452)] []))) (fun _ k => XS.ifNo X1496.here hx rfl (hb hby at_121) rfl (XT.i0_eq_f (by decide)) k) ?_
          refine OGoalW.mp (S' := (T1494.setTop (mkF m 125 #[.val (.int p1), .val (.int (1 : Int32)), .val (.int (0 : Int32)), .val (.int (1 : Int32)), .val (.int (1 : Int32)), .val (.ref a1375), .val (.ref r1391), .val (.ref r1430), .val (.ref r1452)] [(.int (1 : Int32))]))) (fun _ k => XS.iconst X1496.here hx rfl (hb hby at_124) k) ?_
          refine OGoalW.mp (S' := (T1494.setTop (mkF m 129 #[.val (.int p1), .val (.int (1 : Int32)), .val (.int (0 : Int32)), .val (.int (1 : Int32)), .val (.int (1 : Int32)), .val (.ref a1375), .val (.ref r1391), .val (.ref r1430), .val (.ref r1452)] [(.int (1 : Int32))]))) (fun _ k => XS.goto X1496.here hx rfl (pc0 := 125) (pc' := 129) rfl (hb hby at_125) (by decide) (by decide) k) ?_
          refine oRetZW X1496 hS1417 (Nat.le_trans (Nat.le_trans (Nat.le_trans (Nat.le_refl _) K1437.1) K1459.1) (Nat.le_of_eq (congrArg Array.size e1499).symm)) hx hlk hret (Or.inr rfl) (hb hby at_129) ?_ (by decide) (by decide)
          exact ⟨rfl, N1500⟩
    · refine OGoalW.mp (S' := (s₁.setTop (mkF m 18 #[.val (.int p1), .val (.int (1 : Int32)), .unset, .unset, .unset, .unset, .unset, .unset, .unset] []))) (fun _ k => XS.ifNo X0.here hx rfl (hb hby at_15) rfl (XT.i0_eq_f hc1001) k) ?_
      refine OGoalW.mp (S' := (s₁.setTop (mkF m 19 #[.val (.int p1), .val (.int (1 : Int32)), .unset, .unset, .unset, .unset, .unset, .unset, .unset] [(.int (1 : Int32))]))) (fun _ k => XS.iconst X0.here hx rfl (hb hby at_18) k) ?_
      refine OGoalW.mp (S' := (s₁.setTop (mkF m 23 #[.val (.int p1), .val (.int (1 : Int32)), .unset, .unset, .unset, .unset, .unset, .unset, .unset] [(.int (1 : Int32))]))) (fun _ k => XS.goto X0.here hx rfl (pc0 := 19) (pc' := 23) rfl (hb hby at_19) (by decide) (by decide) k) ?_
      refine OGoalW.mp (S' := (s₁.setTop (mkF m 24 #[.val (.int p1), .val (.int (1 : Int32)), .val (.int (1 : Int32)), .unset, .unset, .unset, .unset, .unset, .unset] []))) (fun _ k => XS.istoreN X0.here hx rfl (hb hby at_23) rfl (l' := #[.val (.int p1), .val (.int (1 : Int32)), .val (.int (1 : Int32)), .unset, .unset, .unset, .unset, .unset, .unset]) rfl k) ?_
      refine OGoalW.mp (S' := (s₁.setTop (mkF m 25 #[.val (.int p1), .val (.int (1 : Int32)), .val (.int (1 : Int32)), .unset, .unset, .unset, .unset, .unset, .unset] [(.int p1)]))) (fun _ k => XS.iloadN X0.here hx rfl (hb hby at_24) rfl k) ?_
      refine OGoalW.mp (S' := (s₁.setTop (mkF m 26 #[.val (.int p1), .val (.int (1 : Int32)), .val (.int (1 : Int32)), .unset, .unset, .unset, .unset, .unset, .unset] [(.int (4 : Int32)), (.int p1)]))) (fun _ k => XS.iconst X0.here hx rfl (hb hby at_25) k) ?_
      refine OGoalW.mp (S' := (s₁.setTop (mkF m 27 #[.val (.int p1), .val (.int (1 : Int32)), .val (.int (1 : Int32)), .unset, .unset, .unset, .unset, .unset, .unset] [(.int (p1 &&& (4 : Int32)))]))) (fun _ k => XS.iand X0.here hx rfl (hb hby at_26) rfl k) ?_
      by_cases hc1501 : (p1 &&& (4 : Int32)) = 0
      · refine OGoalW.mp (S' := (s₁.setTop (mkF m 34 #[.val (.int p1), .val (.int (1 : Int32)), .val (.int (1 : Int32)), .unset, .unset, .unset, .unset, .unset, .unset] []))) (fun _ k => XS.ifYes X0.here hx rfl (pc0 := 27) (pc' := 34) rfl (hb hby at_27) rfl (XT.i0_eq_t hc1501) (by decide) (by decide) k) ?_
        refine OGoalW.mp (S' := (s₁.setTop (mkF m 35 #[.val (.int p1), .val (.int (1 : Int32)), .val (.int (1 : Int32)), .unset, .unset, .unset, .unset, .unset, .unset] [(.int (0 : Int32))]))) (fun _ k => XS.iconst X0.here hx rfl (hb hby at_34) k) ?_
        refine OGoalW.mp (S' := (s₁.setTop (mkF m 36 #[.val (.int p1), .val (.int (1 : Int32)), .val (.int (1 : Int32)), .val (.int (0 : Int32)), .unset, .unset, .unset, .unset, .unset] []))) (fun _ k => XS.istoreN X0.here hx rfl (hb hby at_35) rfl (l' := #[.val (.int p1), .val (.int (1 : Int32)), .val (.int (1 : Int32)), .val (.int (0 : Int32)), .unset, .unset, .unset, .unset, .unset]) rfl k) ?_
        refine OGoalW.mp (S' := (s₁.setTop (mkF m 37 #[.val (.int p1), .val (.int (1 : Int32)), .val (.int (1 : Int32)), .val (.int (0 : Int32)), .unset, .unset, .unset, .unset, .unset] [(.int p1)]))) (fun _ k => XS.iloadN X0.here hx rfl (hb hby at_36) rfl k) ?_
        refine OGoalW.mp (S' := (s₁.setTop (mkF m 39 #[.val (.int p1), .val (.int (1 : Int32)), .val (.int (1 : Int32)), .val (.int (0 : Int32)), .unset, .unset, .unset, .unset, .unset] [(.int (8 : Int32)), (.int p1)]))) (fun _ k => XS.bipush X0.here hx rfl (hb hby at_37) k) ?_
        refine OGoalW.mp (S' := (s₁.setTop (mkF m 40 #[.val (.int p1), .val (.int (1 : Int32)), .val (.int (1 : Int32)), .val (.int (0 : Int32)), .unset, .unset, .unset, .unset, .unset] [(.int (p1 &&& (8 : Int32)))]))) (fun _ k => XS.iand X0.here hx rfl (hb hby at_39) rfl k) ?_
        by_cases hc1502 : (p1 &&& (8 : Int32)) = 0
        · refine OGoalW.mp (S' := (s₁.setTop (mkF m 47 #[.val (.int p1), .val (.int (1 : Int32)), .val (.int (1 : Int32)), .val (.int (0 : Int32)), .unset, .unset, .unset, .unset, .unset] []))) (fun _ k => XS.ifYes X0.here hx rfl (pc0 := 40) (pc' := 47) rfl (hb hby at_40) rfl (XT.i0_eq_t hc1502) (by decide) (by decide) k) ?_
          refine OGoalW.mp (S' := (s₁.setTop (mkF m 48 #[.val (.int p1), .val (.int (1 : Int32)), .val (.int (1 : Int32)), .val (.int (0 : Int32)), .unset, .unset, .unset, .unset, .unset] [(.int (0 : Int32))]))) (fun _ k => XS.iconst X0.here hx rfl (hb hby at_47) k) ?_
          refine OGoalW.mp (S' := (s₁.setTop (mkF m 50 #[.val (.int p1), .val (.int (1 : Int32)), .val (.int (1 : Int32)), .val (.int (0 : Int32)), .val (.int (0 : Int32)), .unset, .unset, .unset, .unset] []))) (fun _ k => XS.istore X0.here hx rfl (hb hby at_48) rfl (l' := #[.val (.int p1), .val (.int (1 : Int32)), .val (.int (1 : Int32)), .val (.int (0 : Int32)), .val (.int (0 : Int32)), .unset, .unset, .unset, .unset]) rfl k) ?_
          obtain ⟨T1503, h1507, X1504, e1505, E1508, A1509, D1510, -, st1506⟩ := newO X0 hx hZ hown (hw _ (List.mem_of_getElem? (i := 0) rfl)) (hw _ (List.mem_of_getElem? (i := 1) rfl)) (hw _ (List.mem_of_getElem? (i := 2) rfl)) e0 (g := mkF m 50 #[.val (.int p1), .val (.int (1 : Int32)), .val (.int (1 : Int32)), .val (.int (0 : Int32)), .val (.int (0 : Int32)), .unset, .unset, .unset, .unset] []) rfl (hb hby at_50) (by decide) (by decide)
          obtain ⟨a1511, g1512⟩ : ∃ z, z = h0.size := ⟨_, rfl⟩
          rw [← g1512] at A1509 D1510 st1506
          have fr1513 : h0.size ≤ a1511 := by rw [g1512]; exact (Keep.refl h0 []).1
          have K1514 : Keep h0 h1507 [] := (Keep.refl h0 []).ext E1508
          have F1515 : Fld Z h1507 a1511 "com/example/wildsolve/wildsolve/infer/Fresh" "placeholders" "I" (.int (0 : Int32)) := D1510 (Or.inl (hw _ (List.mem_of_getElem? (i := 22) rfl))) (ty := .int) (by decide)
          have F1516 : Fld Z h1507 a1511 "com/example/wildsolve/wildsolve/infer/Fresh" "variables" "I" (.int (0 : Int32)) := D1510 (Or.inl (hw _ (List.mem_of_getElem? (i := 136) rfl))) (ty := .int) (by decide)
          have Z1517 : n0 ≤ h1507.size := Nat.le_trans Z0 E1508.1
          have ab1518 : n0 ≤ a1511 := Nat.le_trans Z0 (Nat.le_of_eq g1512.symm)
          refine OGoalW.mp (S' := (T1503.setTop (mkF m 53 #[.val (.int p1), .val (.int (1 : Int32)), .val (.int (1 : Int32)), .val (.int (0 : Int32)), .val (.int (0 : Int32)), .unset, .unset, .unset, .unset] [(.ref a1511)]))) (fun _ k => st1506 _ k) ?_
          refine OGoalW.mp (S' := (T1503.setTop (mkF m 54 #[.val (.int p1), .val (.int (1 : Int32)), .val (.int (1 : Int32)), .val (.int (0 : Int32)), .val (.int (0 : Int32)), .unset, .unset, .unset, .unset] [(.ref a1511), (.ref a1511)]))) (fun _ k => XS.dup X1504.here hx rfl (hb hby at_53) rfl rfl k) ?_
          refine oCallNW (y := (⟨"com/example/wildsolve/wildsolve/infer/Fresh", "<init>", "()V"⟩ : MethodName)) X1504 hx hZ rfl hown (hw _ (List.mem_of_getElem? (i := 3) rfl)) (hw _ (List.mem_of_getElem? (i := 4) rfl)) (hw _ (List.mem_of_getElem? (i := 2) rfl)) (hw _ (List.mem_of_getElem? (i := 5) rfl)) (by decide) (rmFI l Z a0 hw a1511 h1507 n0 Z1517) e1505 [] [(.ref a1511)] rfl rfl (by rw [hml]; rfl) (lenOf own_pd___V rfl) 1 (Nat.le_of_eq rfl) (by decide) (by decide) (by decide) (by decide) (hb hby at_54) ?_
          intro v1519 T1520 L1521 X1522 q1523
          obtain ⟨rfl, N1524, e1525⟩ := q1523
          have N1526 := Fr.app (Fr.nil n0) N1524
          show OGoalW p e below s _ _ _ (T1520.setTop (mkF m 57 #[.val (.int p1), .val (.int (1 : Int32)), .val (.int (1 : Int32)), .val (.int (0 : Int32)), .val (.int (0 : Int32)), .unset, .unset, .unset, .unset] [(.ref a1511)]))
          refine OGoalW.mp (S' := (T1520.setTop (mkF m 59 #[.val (.int p1), .val (.int (1 : Int32)), .val (.int (1 : Int32)), .val (.int (0 : Int32)), .val (.int (0 : Int32)), .val (.ref a1511), .unset, .unset, .unset] []))) (fun _ k => XS.astore X1522.here hx rfl (hb hby at_57) rfl rfl (l' := #[.val (.int p1), .val (.int (1 : Int32)), .val (.int (1 : Int32)), .val (.int (0 : Int32)), .val (.int (0 : Int32)), .val (.ref a1511), .unset, .unset, .unset]) rfl k) ?_
          refine OGoalW.mp (S' := (T1520.setTop (mkF m 61 #[.val (.int p1), .val (.int (1 : Int32)), .val (.int (1 : Int32)), .val (.int (0 : Int32)), .val (.int (0 : Int32)), .val (.ref a1511), .unset, .unset, .unset] [(.ref a1511)]))) (fun _ k => XS.aload X1522.here hx rfl (hb hby at_59) rfl rfl k) ?_
          refine OGoalW.mp (S' := (T1520.setTop (mkF m 62 #[.val (.int p1), .val (.int (1 : Int32)), .val (.int (1 : Int32)), .val (.int (0 : Int32)), .val (.int (0 : Int32)), .val (.ref a1511), .unset, .unset, .unset] [(.int (1 : Int32)), (.ref a1511)]))) (fun _ k => XS.iloadN X1522.here hx rfl (hb hby at_61) rfl k) ?_
          refine oCallSW (y := (⟨"com/example/wildsolve/wildsolve/infer/FreshOrdinaryPinLaw", "step", "(Lcom/example/wildsolve/wildsolve/infer/Fresh;Z)Lcom/example/wildsolve/wildsolve/solver/Placeholder;"⟩ : MethodName)) X1522 hx hZ hown (hw _ (List.mem_of_getElem? (i := 9) rfl)) (hw _ (List.mem_of_getElem? (i := 10) rfl)) (hw _ (List.mem_of_getElem? (i := 11) rfl)) (hw _ (List.mem_of_getElem? (i := 12) rfl)) (by decide) (rmSt1 l Z a0 hw a1511 h1507 n0 Z1517 (0 : Int32) (1 : Int32) (0 : Int32) (by decide) A1509 F1515 F1516 ab1518) e1525 [(.ref a1511), (.int (1 : Int32))] [] rfl rfl (by rw [hml]; rfl) (lenOf own_pd__Lcom_example_wildsolve_wildsolve_infer_Fresh_Z_Lcom_example_wildsolve_wildsolve_solver_Placeholder_ rfl) 0 (Nat.le_of_eq rfl) (by decide) (by decide) (by decide) (by decide) (hb hby at_62) ?_
          intro v1528 T1529 L1530 X1531 q1532
          obtain ⟨r1527, rfl, N1533, K1534, hr1535, E1536, F1537, F1538, E1539, F1540, F1541⟩ := q1532
          have N1542 := Fr.app N1526 N1533
          have lt1543 : a1511 < r1527 := Nat.lt_of_lt_of_le A1509.lt hr1535
          have K1544 : Keep h0 T1529.heap [] := K1514.trans K1534 (allS (Or.inr fr1513) all0)
          have Z1545 : n0 ≤ T1529.heap.size := Nat.le_trans Z1517 K1534.1
          show OGoalW p e below s _ _ _ (T1529.setTop (mkF m 65 #[.val (.int p1), .val (.int (1 : Int32)), .val (.int (1 : Int32)), .val (.int (0 : Int32)), .val (.int (0 : Int32)), .val (.ref a1511), .unset, .unset, .unset] [(.ref r1527)]))
          refine OGoalW.mp (S' := (T1529.setTop (mkF m 67 #[.val (.int p1), .val (.int (1 : Int32)), .val (.int (1 : Int32)), .val (.int (0 : Int32)), .val (.int (0 : Int32)), .val (.ref a1511), .val (.ref r1527), .unset, .unset] []))) (fun _ k => XS.astore X1531.here hx rfl (hb hby at_65) rfl rfl (l' := #[.val (.int p1), .val (.int (1 : Int32)), .val (.int (1 : Int32)), .val (.int (0 : Int32)), .val (.int (0 : Int32)), .val (.ref a1511), .val (.ref r1527), .unset, .unset]) rfl k) ?_
          refine OGoalW.mp (S' := (T1529.setTop (mkF m 69 #[.val (.int p1), .val (.int (1 : Int32)), .val (.int (1 : Int32)), .val (.int (0 : Int32)), .val (.int (0 : Int32)), .val (.ref a1511), .val (.ref r1527), .unset, .unset] [(.int (0 : Int32))]))) (fun _ k => XS.iload X1531.here hx rfl (hb hby at_67) rfl k) ?_
          refine OGoalW.mp (S' := (T1529.setTop (mkF m 78 #[.val (.int p1), .val (.int (1 : Int32)), .val (.int (1 : Int32)), .val (.int (0 : Int32)), .val (.int (0 : Int32)), .val (.ref a1511), .val (.ref r1527), .unset, .unset] []))) (fun _ k => XS.ifYes X1531.here hx rfl (pc0 := 69) (pc' := 78) rfl (hb hby at_69) rfl (XT.i0_eq_t (by decide)) (by decide) (by decide) k) ?_
          refine OGoalW.mp (S' := (T1529.setTop (mkF m 80 #[.val (.int p1), .val (.int (1 : Int32)), .val (.int (1 : Int32)), .val (.int (0 : Int32)), .val (.int (0 : Int32)), .val (.ref a1511), .val (.ref r1527), .unset, .unset] [(.ref a1511)]))) (fun _ k => XS.aload X1531.here hx rfl (hb hby at_78) rfl rfl k) ?_
          refine OGoalW.mp (S' := (T1529.setTop (mkF m 81 #[.val (.int p1), .val (.int (1 : Int32)), .val (.int (1 : Int32)), .val (.int (0 : Int32)), .val (.int (0 : Int32)), .val (.ref a1511), .val (.ref r1527), .unset, .unset] [(.int (1 : Int32)), (.ref a1511)]))) (fun _ k => XS.iloadN X1531.here hx rfl (hb hby at_80) rfl k) ?_
          refine oCallSW (y := (⟨"com/example/wildsolve/wildsolve/infer/FreshOrdinaryPinLaw", "step", "(Lcom/example/wildsolve/wildsolve/infer/Fresh;Z)Lcom/example/wildsolve/wildsolve/solver/Placeholder;"⟩ : MethodName)) X1531 hx hZ hown (hw _ (List.mem_of_getElem? (i := 9) rfl)) (hw _ (List.mem_of_getElem? (i := 10) rfl)) (hw _ (List.mem_of_getElem? (i := 11) rfl)) (hw _ (List.mem_of_getElem? (i := 12) rfl)) (by decide) (rmSt1 l Z a0 hw a1511 T1529.heap n0 Z1545 (1 : Int32) (2 : Int32) (0 : Int32) (by decide) E1539 F1540 F1541 ab1518) rfl [(.ref a1511), (.int (1 : Int32))] [] rfl rfl (by rw [hml]; rfl) (lenOf own_pd__Lcom_example_wildsolve_wildsolve_infer_Fresh_Z_Lcom_example_wildsolve_wildsolve_solver_Placeholder_ rfl) 0 (Nat.le_of_eq rfl) (by decide) (by decide) (by decide) (by decide) (hb hby at_81) ?_
          intro v1547 T1548 L1549 X1550 q1551
          obtain ⟨r1546, rfl, N1552, K1553, hr1554, E1555, F1556, F1557, E1558, F1559, F1560⟩ := q1551
          have N1561 := Fr.app N1542 N1552
          have lt1562 : a1511 < r1546 := Nat.lt_of_lt_of_le E1539.lt hr1554
          have F1563 := E1536.keep K1553
          have F1564 := F1537.keep K1553 (ninS (Nat.ne_of_gt lt1543) nin0)
          have F1565 := F1538.keep K1553 (ninS (Nat.ne_of_gt lt1543) nin0)
          have K1566 : Keep h0 T1548.heap [] := K1544.trans K1553 (allS (Or.inr fr1513) all0)
          have Z1567 : n0 ≤ T1548.heap.size := Nat.le_trans Z1545 K1553.1
          show OGoalW p e below s _ _ _ (T1548.setTop (mkF m 84 #[.val (.int p1), .val (.int (1 : Int32)), .val (.int (1 : Int32)), .val (.int (0 : Int32)), .val (.int (0 : Int32)), .val (.ref a1511), .val (.ref r1527), .unset, .unset] [(.ref r1546)]))
          refine OGoalW.mp (S' := (T1548.setTop (mkF m 86 #[.val (.int p1), .val (.int (1 : Int32)), .val (.int (1 : Int32)), .val (.int (0 : Int32)), .val (.int (0 : Int32)), .val (.ref a1511), .val (.ref r1527), .val (.ref r1546), .unset] []))) (fun _ k => XS.astore X1550.here hx rfl (hb hby at_84) rfl rfl (l' := #[.val (.int p1), .val (.int (1 : Int32)), .val (.int (1 : Int32)), .val (.int (0 : Int32)), .val (.int (0 : Int32)), .val (.ref a1511), .val (.ref r1527), .val (.ref r1546), .unset]) rfl k) ?_
          refine OGoalW.mp (S' := (T1548.setTop (mkF m 88 #[.val (.int p1), .val (.int (1 : Int32)), .val (.int (1 : Int32)), .val (.int (0 : Int32)), .val (.int (0 : Int32)), .val (.ref a1511), .val (.ref r1527), .val (.ref r1546), .unset] [(.ref a1511)]))) (fun _ k => XS.aload X1550.here hx rfl (hb hby at_86) rfl rfl k) ?_
          refine OGoalW.mp (S' := (T1548.setTop (mkF m 89 #[.val (.int p1), .val (.int (1 : Int32)), .val (.int (1 : Int32)), .val (.int (0 : Int32)), .val (.int (0 : Int32)), .val (.ref a1511), .val (.ref r1527), .val (.ref r1546), .unset] [(.int (0 : Int32)), (.ref a1511)]))) (fun _ k => XS.iloadN X1550.here hx rfl (hb hby at_88) rfl k) ?_
          refine oCallSW (y := (⟨"com/example/wildsolve/wildsolve/infer/FreshOrdinaryPinLaw", "step", "(Lcom/example/wildsolve/wildsolve/infer/Fresh;Z)Lcom/example/wildsolve/wildsolve/solver/Placeholder;"⟩ : MethodName)) X1550 hx hZ hown (hw _ (List.mem_of_getElem? (i := 9) rfl)) (hw _ (List.mem_of_getElem? (i := 10) rfl)) (hw _ (List.mem_of_getElem? (i := 11) rfl)) (hw _ (List.mem_of_getElem? (i := 12) rfl)) (by decide) (rmSt0 l Z a0 hw a1511 T1548.heap n0 Z1567 (2 : Int32) (3 : Int32) (0 : Int32) (by decide) E1558 F1559 F1560 ab1518) rfl [(.ref a1511), (.int (0 : Int32))] [] rfl rfl (by rw [hml]; rfl) (lenOf own_pd__Lcom_example_wildsolve_wildsolve_infer_Fresh_Z_Lcom_example_wildsolve_wildsolve_solver_Placeholder_ rfl) 0 (Nat.le_of_eq rfl) (by decide) (by decide) (by decide) (by decide) (hb hby at_89) ?_
          intro v1569 T1570 L1571 X1572 q1573
          obtain ⟨r1568, rfl, N1574, K1575, hr1576, E1577, F1578, F1579, E1580, F1581, F1582⟩ := q1573
          have N1583 := Fr.app N1561 N1574
          have lt1584 : a1511 < r1568 := Nat.lt_of_lt_of_le E1558.lt hr1576
          have F1585 := F1563.keep K1575
          have F1586 := F1564.keep K1575 (ninS (Nat.ne_of_gt lt1543) nin0)
          have F1587 := F1565.keep K1575 (ninS (Nat.ne_of_gt lt1543) nin0)
          have F1588 := E1555.keep K1575
          have F1589 := F1556.keep K1575 (ninS (Nat.ne_of_gt lt1562) nin0)
          have F1590 := F1557.keep K1575 (ninS (Nat.ne_of_gt lt1562) nin0)
          have K1591 : Keep h0 T1570.heap [] := K1566.trans K1575 (allS (Or.inr fr1513) all0)
          have Z1592 : n0 ≤ T1570.heap.size := Nat.le_trans Z1567 K1575.1
          show OGoalW p e below s _ _ _ (T1570.setTop (mkF m 92 #[.val (.int p1), .val (.int (1 : Int32)), .val (.int (1 : Int32)), .val (.int (0 : Int32)), .val (.int (0 : Int32)), .val (.ref a1511), .val (.ref r1527), .val (.ref r1546), .unset] [(.ref r1568)]))
          refine OGoalW.mp (S' := (T1570.setTop (mkF m 94 #[.val (.int p1), .val (.int (1 : Int32)), .val (.int (1 : Int32)), .val (.int (0 : Int32)), .val (.int (0 : Int32)), .val (.ref a1511), .val (.ref r1527), .val (.ref r1546), .val (.ref r1568)] []))) (fun _ k => XS.astore X1572.here hx rfl (hb hby at_92) rfl rfl (l' := #[.val (.int p1), .val (.int (1 : Int32)), .val (.int (1 : Int32)), .val (.int (0 : Int32)), .val (.int (0 : Int32)), .val (.ref a1511), .val (.ref r1527), .val (.ref r1546), .val (.ref r1568)]) rfl k) ?_
          refine OGoalW.mp (S' := (T1570.setTop (mkF m 96 #[.val (.int p1), .val (.int (1 : Int32)), .val (.int (1 : Int32)), .val (.int (0 : Int32)), .val (.int (0 : Int32)), .val (.ref a1511), .val (.ref r1527), .val (.ref r1546), .val (.ref r1568)] [(.ref r1527)]))) (fun _ k => XS.aload X1572.here hx rfl (hb hby at_94) rfl rfl k) ?_
          refine OGoalW.mp (S' := (T1570.setTop (mkF m 97 #[.val (.int p1), .val (.int (1 : Int32)), .val (.int (1 : Int32)), .val (.int (0 : Int32)), .val (.int (0 : Int32)), .val (.ref a1511), .val (.ref r1527), .val (.ref r1546), .val (.ref r1568)] [(.int (1 : Int32)), (.ref r1527)]))) (fun _ k => XS.iconst X1572.here hx rfl (hb hby at_96) k) ?_
          refine OGoalW.mp (S' := (T1570.setTop (mkF m 98 #[.val (.int p1), .val (.int (1 : Int32)), .val (.int (1 : Int32)), .val (.int (0 : Int32)), .val (.int (0 : Int32)), .val (.ref a1511), .val (.ref r1527), .val (.ref r1546), .val (.ref r1568)] [(.int (1 : Int32)), (.int (1 : Int32)), (.ref r1527)]))) (fun _ k => XS.iloadN X1572.here hx rfl (hb hby at_97) rfl k) ?_
          refine oCallSW (y := (⟨"com/example/wildsolve/wildsolve/infer/FreshOrdinaryPinLaw", "check", "(Lcom/example/wildsolve/wildsolve/solver/Placeholder;IZ)Z"⟩ : MethodName)) X1572 hx hZ hown (hw _ (List.mem_of_getElem? (i := 36) rfl)) (hw _ (List.mem_of_getElem? (i := 37) rfl)) (hw _ (List.mem_of_getElem? (i := 11) rfl)) (hw _ (List.mem_of_getElem? (i := 38) rfl)) (by decide) (rmCk11 l Z a0 hw r1527 T1570.heap n0 Z1592 F1585 F1586 F1587) rfl [(.ref r1527), (.int (1 : Int32)), (.int (1 : Int32))] [] rfl rfl (by rw [hml]; rfl) (lenOf own_pd__Lcom_example_wildsolve_wildsolve_solver_Placeholder_IZ_Z rfl) 0 (Nat.le_of_eq rfl) (by decide) (by decide) (by decide) (by decide) (hb hby at_98) ?_
          intro v1593 T1594 L1595 X1596 q1597
          obtain ⟨rfl, N1598, e1599⟩ := q1597
          have N1600 := Fr.app N1583 N1598
          show OGoalW p e below s _ _ _ (T1594.setTop (mkF m 101 #[.val (.int p1), .val (.int (1 : Int32)), .val (.int (1 : Int32)), .val (.int (0 : Int32)), .val (.int (0 : Int32)), .val (.ref a1511), .val (.ref r1527), .val (.ref r1546), .val (.ref r1568)] [(.int (1 : Int32))]))
          refine OGoalW.mp (S' := (T1594.setTop (mkF m 104 #[.val (.int p1), .val (.int (1 : Int32)), .val (.int (1 : Int32)), .val (.int (0 : Int32)), .val (.int (0 : Int32)), .val (.ref a1511), .val (.ref r1527), .val (.ref r1546), .val (.ref r1568)] []))) (fun _ k => XS.ifNo X1596.here hx rfl (hb hby at_101) rfl (XT.i0_eq_f (by decide)) k) ?_
          refine OGoalW.mp (S' := (T1594.setTop (mkF m 106 #[.val (.int p1), .val (.int (1 : Int32)), .val (.int (1 : Int32)), .val (.int (0 : Int32)), .val (.int (0 : Int32)), .val (.ref a1511), .val (.ref r1527), .val (.ref r1546), .val (.ref r1568)] [(.ref r1546)]))) (fun _ k => XS.aload X1596.here hx rfl (hb hby at_104) rfl rfl k) ?_
          refine OGoalW.mp (S' := (T1594.setTop (mkF m 107 #[.val (.int p1), .val (.int (1 : Int32)), .val (.int (1 : Int32)), .val (.int (0 : Int32)), .val (.int (0 : Int32)), .val (.ref a1511), .val (.ref r1527), .val (.ref r1546), .val (.ref r1568)] [(.int (2 : Int32)), (.ref r1546)]))) (fun _ k => XS.iconst X1596.here hx rfl (hb hby at_106) k) ?_
          refine OGoalW.mp (S' := (T1594.setTop (mkF m 108 #[.val (.int p1), .val (.int (1 : Int32)), .val (.int (1 : Int32)), .val (.int (0 : Int32)), .val (.int (0 : Int32)), .val (.ref a1511), .val (.ref r1527), .val (.ref r1546), .val (.ref r1568)] [(.int (1 : Int32)), (.int (2 : Int32)), (.ref r1546)]))) (fun _ k => XS.iloadN X1596.here hx rfl (hb hby at_107) rfl k) ?_
          refine oCallSW (y := (⟨"com/example/wildsolve/wildsolve/infer/FreshOrdinaryPinLaw", "check", "(Lcom/example/wildsolve/wildsolve/solver/Placeholder;IZ)Z"⟩ : MethodName)) X1596 hx hZ hown (hw _ (List.mem_of_getElem? (i := 36) rfl)) (hw _ (List.mem_of_getElem? (i := 37) rfl)) (hw _ (List.mem_of_getElem? (i := 11) rfl)) (hw _ (List.mem_of_getElem? (i := 38) rfl)) (by decide) (rmCk21 l Z a0 hw r1546 T1570.heap n0 Z1592 F1588 F1589 F1590) e1599 [(.ref r1546), (.int (2 : Int32)), (.int (1 : Int32))] [] rfl rfl (by rw [hml]; rfl) (lenOf own_pd__Lcom_example_wildsolve_wildsolve_solver_Placeholder_IZ_Z rfl) 0 (Nat.le_of_eq rfl) (by decide) (by decide) (by decide) (by decide) (hb hby at_108) ?_
          intro v1601 T1602 L1603 X1604 q1605
          obtain ⟨rfl, N1606, e1607⟩ := q1605
          have N1608 := Fr.app N1600 N1606
          show OGoalW p e below s _ _ _ (T1602.setTop (mkF m 111 #[.val (.int p1), .val (.int (1 : Int32)), .val (.int (1 : Int32)), .val (.int (0 : Int32)), .val (.int (0 : Int32)), .val (.ref a1511), .val (.ref r1527), .val (.ref r1546), .val (.ref r1568)] [(.int (1 : Int32))]))
          refine OGoalW.mp (S' := (T1602.setTop (mkF m 114 #[.val (.int p1), .val (.int (1 : Int32)), .val (.int (1 : Int32)), .val (.int (0 : Int32)), .val (.int (0 : Int32)), .val (.ref a1511), .val (.ref r1527), .val (.ref r1546), .val (.ref r1568)] []))) (fun _ k => XS.ifNo X1604.here hx rfl (hb hby at_111) rfl (XT.i0_eq_f (by decide)) k) ?_
          refine OGoalW.mp (S' := (T1602.setTop (mkF m 116 #[.val (.int p1), .val (.int (1 : Int32)), .val (.int (1 : Int32)), .val (.int (0 : Int32)), .val (.int (0 : Int32)), .val (.ref a1511), .val (.ref r1527), .val (.ref r1546), .val (.ref r1568)] [(.ref r1568)]))) (fun _ k => XS.aload X1604.here hx rfl (hb hby at_114) rfl rfl k) ?_
          refine OGoalW.mp (S' := (T1602.setTop (mkF m 117 #[.val (.int p1), .val (.int (1 : Int32)), .val (.int (1 : Int32)), .val (.int (0 : Int32)), .val (.int (0 : Int32)), .val (.ref a1511), .val (.ref r1527), .val (.ref r1546), .val (.ref r1568)] [(.int (3 : Int32)), (.ref r1568)]))) (fun _ k => XS.iconst X1604.here hx rfl (hb hby at_116) k) ?_
          refine OGoalW.mp (S' := (T1602.setTop (mkF m 118 #[.val (.int p1), .val (.int (1 : Int32)), .val (.int (1 : Int32)), .val (.int (0 : Int32)), .val (.int (0 : Int32)), .val (.ref a1511), .val (.ref r1527), .val (.ref r1546), .val (.ref r1568)] [(.int (0 : Int32)), (.int (3 : Int32)), (.ref r1568)]))) (fun _ k => XS.iloadN X1604.here hx rfl (hb hby at_117) rfl k) ?_
          refine oCallSW (y := (⟨"com/example/wildsolve/wildsolve/infer/FreshOrdinaryPinLaw", "check", "(Lcom/example/wildsolve/wildsolve/solver/Placeholder;IZ)Z"⟩ : MethodName)) X1604 hx hZ hown (hw _ (List.mem_of_getElem? (i := 36) rfl)) (hw _ (List.mem_of_getElem? (i := 37) rfl)) (hw _ (List.mem_of_getElem? (i := 11) rfl)) (hw _ (List.mem_of_getElem? (i := 38) rfl)) (by decide) (rmCk30 l Z a0 hw r1568 T1570.heap n0 Z1592 E1577 F1578 F1579) e1607 [(.ref r1568), (.int (3 : Int32)), (.int (0 : Int32))] [] rfl rfl (by rw [hml]; rfl) (lenOf own_pd__Lcom_example_wildsolve_wildsolve_solver_Placeholder_IZ_Z rfl) 0 (Nat.le_of_eq rfl) (by decide) (by decide) (by decide) (by decide) (hb hby at_118) ?_
          intro v1609 T1610 L1611 X1612 q1613
          obtain ⟨rfl, N1614, e1615⟩ := q1613
          have N1616 := Fr.app N1608 N1614
          show OGoalW p e below s _ _ _ (T1610.setTop (mkF m 121 #[.val (.int p1), .val (.int (1 : Int32)), .val (.int (1 : Int32)), .val (.int (0 : Int32)), .val (.int (0 : Int32)), .val (.ref a1511), .val (.ref r1527), .val (.ref r1546), .val (.ref r1568)] [(.int (1 : Int32))]))
          refine OGoalW.mp (S' := (T1610.setTop (mkF m 124 #[.val (.int p1), .val (.int (1 : Int32)), .val (.int (1 : Int32)), .val (.int (0 : Int32)), .val (.int (0 : Int32)), .val (.ref a1511), .val (.ref r1527), .val (.ref r1546), .val (.ref r1568)] []))) (fun _ k => XS.ifNo X1612.here hx rfl (hb hby at_121) rfl (XT.i0_eq_f (by decide)) k) ?_
          refine OGoalW.mp (S' := (T1610.setTop (mkF m 125 #[.val (.int p1), .val (.int (1 : Int32)), .val (.int (1 : Int32)), .val (.int (0 : Int32)), .val (.int (0 : Int32)), .val (.ref a1511), .val (.ref r1527), .val (.ref r1546), .val (.ref r1568)] [(.int (1 : Int32))]))) (fun _ k => XS.iconst X1612.here hx rfl (hb hby at_124) k) ?_
          refine OGoalW.mp (S' := (T1610.setTop (mkF m 129 #[.val (.int p1), .val (.int (1 : Int32)), .val (.int (1 : Int32)), .val (.int (0 : Int32)), .val (.int (0 : Int32)), .val (.ref a1511), .val (.ref r1527), .val (.ref r1546), .val (.ref r1568)] [(.int (1 : Int32))]))) (fun _ k => XS.goto X1612.here hx rfl (pc0 := 125) (pc' := 129) rfl (hb hby at_125) (by decide) (by decide) k) ?_
          refine oRetZW X1612 hS0 (Nat.le_trans (Nat.le_trans (Nat.le_trans (Nat.le_trans (Nat.le_trans (Nat.le_of_eq (congrArg Array.size hsh)) E1508.1) K1534.1) K1553.1) K1575.1) (Nat.le_of_eq (congrArg Array.size e1615).symm)) hx hlk hret (Or.inr rfl) (hb hby at_129) ?_ (by decide) (by decide)
          exact ⟨rfl, N1616⟩
        · refine OGoalW.mp (S' := (s₁.setTop (mkF m 43 #[.val (.int p1), .val (.int (1 : Int32)), .val (.int (1 : Int32)), .val (.int (0 : Int32)), .unset, .unset, .unset, .unset, .unset] []))) (fun _ k => XS.ifNo X0.here hx rfl (hb hby at_40) rfl (XT.i0_eq_f hc1502) k) ?_
          refine OGoalW.mp (S' := (s₁.setTop (mkF m 44 #[.val (.int p1), .val (.int (1 : Int32)), .val (.int (1 : Int32)), .val (.int (0 : Int32)), .unset, .unset, .unset, .unset, .unset] [(.int (1 : Int32))]))) (fun _ k => XS.iconst X0.here hx rfl (hb hby at_43) k) ?_
          refine OGoalW.mp (S' := (s₁.setTop (mkF m 48 #[.val (.int p1), .val (.int (1 : Int32)), .val (.int (1 : Int32)), .val (.int (0 : Int32)), .unset, .unset, .unset, .unset, .unset] [(.int (1 : Int32))]))) (fun _ k => XS.goto X0.here hx rfl (pc0 := 44) (pc' := 48) rfl (hb hby at_44) (by decide) (by decide) k) ?_
          refine OGoalW.mp (S' := (s₁.setTop (mkF m 50 #[.val (.int p1), .val (.int (1 : Int32)), .val (.int (1 : Int32)), .val (.int (0 : Int32)), .val (.int (1 : Int32)), .unset, .unset, .unset, .unset] []))) (fun _ k => XS.istore X0.here hx rfl (hb hby at_48) rfl (l' := #[.val (.int p1), .val (.int (1 : Int32)), .val (.int (1 : Int32)), .val (.int (0 : Int32)), .val (.int (1 : Int32)), .unset, .unset, .unset, .unset]) rfl k) ?_
          obtain ⟨T1617, h1621, X1618, e1619, E1622, A1623, D1624, -, st1620⟩ := newO X0 hx hZ hown (hw _ (List.mem_of_getElem? (i := 0) rfl)) (hw _ (List.mem_of_getElem? (i := 1) rfl)) (hw _ (List.mem_of_getElem? (i := 2) rfl)) e0 (g := mkF m 50 #[.val (.int p1), .val (.int (1 : Int32)), .val (.int (1 : Int32)), .val (.int (0 : Int32)), .val (.int (1 : Int32)), .unset, .unset, .unset, .unset] []) rfl (hb hby at_50) (by decide) (by decide)
          obtain ⟨a1625, g1626⟩ : ∃ z, z = h0.size := ⟨_, rfl⟩
          rw [← g1626] at A1623 D1624 st1620
          have fr1627 : h0.size ≤ a1625 := by rw [g1626]; exact (Keep.refl h0 []).1
          have K1628 : Keep h0 h1621 [] := (Keep.refl h0 []).ext E1622
          have F1629 : Fld Z h1621 a1625 "com/example/wildsolve/wildsolve/infer/Fresh" "placeholders" "I" (.int (0 : Int32)) := D1624 (Or.inl (hw _ (List.mem_of_getElem? (i := 22) rfl))) (ty := .int) (by decide)
          have F1630 : Fld Z h1621 a1625 "com/example/wildsolve/wildsolve/infer/Fresh" "variables" "I" (.int (0 : Int32)) := D1624 (Or.inl (hw _ (List.mem_of_getElem? (i := 136) rfl))) (ty := .int) (by decide)
          have Z1631 : n0 ≤ h1621.size := Nat.le_trans Z0 E1622.1
          have ab1632 : n0 ≤ a1625 := Nat.le_trans Z0 (Nat.le_of_eq g1626.symm)
          refine OGoalW.mp (S' := (T1617.setTop (mkF m 53 #[.val (.int p1), .val (.int (1 : Int32)), .val (.int (1 : Int32)), .val (.int (0 : Int32)), .val (.int (1 : Int32)), .unset, .unset, .unset, .unset] [(.ref a1625)]))) (fun _ k => st1620 _ k) ?_
          refine OGoalW.mp (S' := (T1617.setTop (mkF m 54 #[.val (.int p1), .val (.int (1 : Int32)), .val (.int (1 : Int32)), .val (.int (0 : Int32)), .val (.int (1 : Int32)), .unset, .unset, .unset, .unset] [(.ref a1625), (.ref a1625)]))) (fun _ k => XS.dup X1618.here hx rfl (hb hby at_53) rfl rfl k) ?_
          refine oCallNW (y := (⟨"com/example/wildsolve/wildsolve/infer/Fresh", "<init>", "()V"⟩ : MethodName)) X1618 hx hZ rfl hown (hw _ (List.mem_of_getElem? (i := 3) rfl)) (hw _ (List.mem_of_getElem? (i := 4) rfl)) (hw _ (List.mem_of_getElem? (i := 2) rfl)) (hw _ (List.mem_of_getElem? (i := 5) rfl)) (by decide) (rmFI l Z a0 hw a1625 h1621 n0 Z1631) e1619 [] [(.ref a1625)] rfl rfl (by rw [hml]; rfl) (lenOf own_pd___V rfl) 1 (Nat.le_of_eq rfl) (by decide) (by decide) (by decide) (by decide) (hb hby at_54) ?_
          intro v1633 T1634 L1635 X1636 q1637
          obtain ⟨rfl, N1638, e1639⟩ := q1637
          have N1640 := Fr.app (Fr.nil n0) N1638
          show OGoalW p e below s _ _ _ (T1634.setTop (mkF m 57 #[.val (.int p1), .val (.int (1 : Int32)), .val (.int (1 : Int32)), .val (.int (0 : Int32)), .val (.int (1 : Int32)), .unset, .unset, .unset, .unset] [(.ref a1625)]))
          refine OGoalW.mp (S' := (T1634.setTop (mkF m 59 #[.val (.int p1), .val (.int (1 : Int32)), .val (.int (1 : Int32)), .val (.int (0 : Int32)), .val (.int (1 : Int32)), .val (.ref a1625), .unset, .unset, .unset] []))) (fun _ k => XS.astore X1636.here hx rfl (hb hby at_57) rfl rfl (l' := #[.val (.int p1), .val (.int (1 : Int32)), .val (.int (1 : Int32)), .val (.int (0 : Int32)), .val (.int (1 : Int32)), .val (.ref a1625), .unset, .unset, .unset]) rfl k) ?_
          refine OGoalW.mp (S' := (T1634.setTop (mkF m 61 #[.val (.int p1), .val (.int (1 : Int32)), .val (.int (1 : Int32)), .val (.int (0 : Int32)), .val (.int (1 : Int32)), .val (.ref a1625), .unset, .unset, .unset] [(.ref a1625)]))) (fun _ k => XS.aload X1636.here hx rfl (hb hby at_59) rfl rfl k) ?_
          refine OGoalW.mp (S' := (T1634.setTop (mkF m 62 #[.val (.int p1), .val (.int (1 : Int32)), .val (.int (1 : Int32)), .val (.int (0 : Int32)), .val (.int (1 : Int32)), .val (.ref a1625), .unset, .unset, .unset] [(.int (1 : Int32)), (.ref a1625)]))) (fun _ k => XS.iloadN X1636.here hx rfl (hb hby at_61) rfl k) ?_
          refine oCallSW (y := (⟨"com/example/wildsolve/wildsolve/infer/FreshOrdinaryPinLaw", "step", "(Lcom/example/wildsolve/wildsolve/infer/Fresh;Z)Lcom/example/wildsolve/wildsolve/solver/Placeholder;"⟩ : MethodName)) X1636 hx hZ hown (hw _ (List.mem_of_getElem? (i := 9) rfl)) (hw _ (List.mem_of_getElem? (i := 10) rfl)) (hw _ (List.mem_of_getElem? (i := 11) rfl)) (hw _ (List.mem_of_getElem? (i := 12) rfl)) (by decide) (rmSt1 l Z a0 hw a1625 h1621 n0 Z1631 (0 : Int32) (1 : Int32) (0 : Int32) (by decide) A1623 F1629 F1630 ab1632) e1639 [(.ref a1625), (.int (1 : Int32))] [] rfl rfl (by rw [hml]; rfl) (lenOf own_pd__Lcom_example_wildsolve_wildsolve_infer_Fresh_Z_Lcom_example_wildsolve_wildsolve_solver_Placeholder_ rfl) 0 (Nat.le_of_eq rfl) (by decide) (by decide) (by decide) (by decide) (hb hby at_62) ?_
          intro v1642 T1643 L1644 X1645 q1646
          obtain ⟨r1641, rfl, N1647, K1648, hr1649, E1650, F1651, F1652, E1653, F1654, F1655⟩ := q1646
          have N1656 := Fr.app N1640 N1647
          have lt1657 : a1625 < r1641 := Nat.lt_of_lt_of_le A1623.lt hr1649
          have K1658 : Keep h0 T1643.heap [] := K1628.trans K1648 (allS (Or.inr fr1627) all0)
          have Z1659 : n0 ≤ T1643.heap.size := Nat.le_trans Z1631 K1648.1
          show OGoalW p e below s _ _ _ (T1643.setTop (mkF m 65 #[.val (.int p1), .val (.int (1 : Int32)), .val (.int (1 : Int32)), .val (.int (0 : Int32)), .val (.int (1 : Int32)), .val (.ref a1625), .unset, .unset, .unset] [(.ref r1641)]))
          refine OGoalW.mp (S' := (T1643.setTop (mkF m 67 #[.val (.int p1), .val (.int (1 : Int32)), .val (.int (1 : Int32)), .val (.int (0 : Int32)), .val (.int (1 : Int32)), .val (.ref a1625), .val (.ref r1641), .unset, .unset] []))) (fun _ k => XS.astore X1645.here hx rfl (hb hby at_65) rfl rfl (l' := #[.val (.int p1), .val (.int (1 : Int32)), .val (.int (1 : Int32)), .val (.int (0 : Int32)), .val (.int (1 : Int32)), .val (.ref a1625), .val (.ref r1641), .unset, .unset]) rfl k) ?_
          refine OGoalW.mp (S' := (T1643.setTop (mkF m 69 #[.val (.int p1), .val (.int (1 : Int32)), .val (.int (1 : Int32)), .val (.int (0 : Int32)), .val (.int (1 : Int32)), .val (.ref a1625), .val (.ref r1641), .unset, .unset] [(.int (1 : Int32))]))) (fun _ k => XS.iload X1645.here hx rfl (hb hby at_67) rfl k) ?_
          refine OGoalW.mp (S' := (T1643.setTop (mkF m 72 #[.val (.int p1), .val (.int (1 : Int32)), .val (.int (1 : Int32)), .val (.int (0 : Int32)), .val (.int (1 : Int32)), .val (.ref a1625), .val (.ref r1641), .unset, .unset] []))) (fun _ k => XS.ifNo X1645.here hx rfl (hb hby at_69) rfl (XT.i0_eq_f (by decide)) k) ?_
          refine OGoalW.mp (S' := (T1643.setTop (mkF m 74 #[.val (.int p1), .val (.int (1 : Int32)), .val (.int (1 : Int32)), .val (.int (0 : Int32)), .val (.int (1 : Int32)), .val (.ref a1625), .val (.ref r1641), .unset, .unset] [(.ref a1625)]))) (fun _ k => XS.aload X1645.here hx rfl (hb hby at_72) rfl rfl k) ?_
          have nd1661 : dg ≠ a1625 := Nat.ne_of_lt (Nat.lt_of_lt_of_le Adg.lt fr1627)
          refine oCallVS (y := (⟨"com/example/wildsolve/wildsolve/infer/Fresh", "variable", "()Ljava/lang/String;"⟩ : MethodName)) (z := (⟨"com/example/wildsolve/wildsolve/infer/Fresh", "variable", "()Ljava/lang/String;"⟩ : MethodName)) X1645 hx hS0 (Nat.le_trans (Nat.le_trans (Nat.le_trans (Nat.le_of_eq (congrArg Array.size hsh)) E1622.1) K1648.1) (Nat.le_of_eq (congrArg Array.size rfl).symm)) hI hZ hown (hw _ (List.mem_of_getElem? (i := 54) rfl)) (hw _ (List.mem_of_getElem? (i := 55) rfl)) (hw _ (List.mem_of_getElem? (i := 57) rfl)) (hw _ (List.mem_of_getElem? (i := 56) rfl)) (hw _ (List.mem_of_getElem? (i := 2) rfl)) (hw _ (List.mem_of_getElem? (i := 58) rfl)) (by decide) (rmVa l Z a0 hw a1625 T1643.heap n0 Z1659 (1 : Int32) cs hcs (Sta.ext (oKext K1658) Scs) dg (Sta.ext (oKext K1658) Sdg) df (Adg.ext (oKext K1658)) xd hdf hxd nd1661 E1653 F1655 F1654 ab1632 (fun b cl q => K1658.2.1 b cl (hkp b cl q) nin0) hcw hch) rfl E1653 [] [] rfl rfl (by rw [hml]; rfl) (notFace_of_selects (args := #[]) (mvT hZ (hw _ (List.mem_of_getElem? (i := 57) rfl)))) (lenOf own_pd___Ljava_lang_String_ rfl) 0 (Nat.le_of_eq rfl) (by decide) (by decide) (by decide) (by decide) (hb hby at_74) ?_
          intro v1662 T1663 L1664 X1665 hS1667 hg1668 hZ hown q1666
          obtain ⟨r1660, rfl, N1669, K1670, E1671, F1672, F1673⟩ := q1666
          have N1674 := Fr.app N1656 N1669
          have F1675 := E1650.keep K1670
          have F1676 := F1651.keep K1670 (ninS (Nat.ne_of_gt lt1657) nin0)
          have F1677 := F1652.keep K1670 (ninS (Nat.ne_of_gt lt1657) nin0)
          have K1678 : Keep h0 T1663.heap [] := K1658.trans K1670 (allS (Or.inr fr1627) all0)
          have Z1679 : n0 ≤ T1663.heap.size := Nat.le_trans Z1659 K1670.1
          show OGoalW p e below s _ _ _ (T1663.setTop (mkF m 77 #[.val (.int p1), .val (.int (1 : Int32)), .val (.int (1 : Int32)), .val (.int (0 : Int32)), .val (.int (1 : Int32)), .val (.ref a1625), .val (.ref r1641), .unset, .unset] [(.ref r1660)]))
          refine OGoalW.mp (S' := (T1663.setTop (mkF m 78 #[.val (.int p1), .val (.int (1 : Int32)), .val (.int (1 : Int32)), .val (.int (0 : Int32)), .val (.int (1 : Int32)), .val (.ref a1625), .val (.ref r1641), .unset, .unset] []))) (fun _ k => XT.pop X1665.here hx rfl (hb hby at_77) rfl rfl k) ?_
          refine OGoalW.mp (S' := (T1663.setTop (mkF m 80 #[.val (.int p1), .val (.int (1 : Int32)), .val (.int (1 : Int32)), .val (.int (0 : Int32)), .val (.int (1 : Int32)), .val (.ref a1625), .val (.ref r1641), .unset, .unset] [(.ref a1625)]))) (fun _ k => XS.aload X1665.here hx rfl (hb hby at_78) rfl rfl k) ?_
          refine OGoalW.mp (S' := (T1663.setTop (mkF m 81 #[.val (.int p1), .val (.int (1 : Int32)), .val (.int (1 : Int32)), .val (.int (0 : Int32)), .val (.int (1 : Int32)), .val (.ref a1625), .val (.ref r1641), .unset, .unset] [(.int (1 : Int32)), (.ref a1625)]))) (fun _ k => XS.iloadN X1665.here hx rfl (hb hby at_80) rfl k) ?_
          refine oCallSW (y := (⟨"com/example/wildsolve/wildsolve/infer/FreshOrdinaryPinLaw", "step", "(Lcom/example/wildsolve/wildsolve/infer/Fresh;Z)Lcom/example/wildsolve/wildsolve/solver/Placeholder;"⟩ : MethodName)) X1665 hx hZ hown (hw _ (List.mem_of_getElem? (i := 9) rfl)) (hw _ (List.mem_of_getElem? (i := 10) rfl)) (hw _ (List.mem_of_getElem? (i := 11) rfl)) (hw _ (List.mem_of_getElem? (i := 12) rfl)) (by decide) (rmSt1 l Z a0 hw a1625 T1663.heap n0 Z1679 (1 : Int32) (2 : Int32) (1 : Int32) (by decide) E1671 F1672 F1673 ab1632) rfl [(.ref a1625), (.int (1 : Int32))] [] rfl rfl (by rw [hml]; rfl) (lenOf own_pd__Lcom_example_wildsolve_wildsolve_infer_Fresh_Z_Lcom_example_wildsolve_wildsolve_solver_Placeholder_ rfl) 0 (Nat.le_of_eq rfl) (by decide) (by decide) (by decide) (by decide) (hb hby at_81) ?_
          intro v1681 T1682 L1683 X1684 q1685
          obtain ⟨r1680, rfl, N1686, K1687, hr1688, E1689, F1690, F1691, E1692, F1693, F1694⟩ := q1685
          have N1695 := Fr.app N1674 N1686
          have lt1696 : a1625 < r1680 := Nat.lt_of_lt_of_le E1671.lt hr1688
          have F1697 := F1675.keep K1687
          have F1698 := F1676.keep K1687 (ninS (Nat.ne_of_gt lt1657) nin0)
          have F1699 := F1677.keep K1687 (ninS (Nat.ne_of_gt lt1657) nin0)
          have K1700 : Keep h0 T1682.heap [] := K1678.trans K1687 (allS (Or.inr fr1627) all0)
          have Z1701 : n0 ≤ T1682.heap.size := Nat.le_trans Z1679 K1687.1
          show OGoalW p e below s _ _ _ (T1682.setTop (mkF m 84 #[.val (.int p1), .val (.int (1 : Int32)), .val (.int (1 : Int32)), .val (.int (0 : Int32)), .val (.int (1 : Int32)), .val (.ref a1625), .val (.ref r1641), .unset, .unset] [(.ref r1680)]))
          refine OGoalW.mp (S' := (T1682.setTop (mkF m 86 #[.val (.int p1), .val (.int (1 : Int32)), .val (.int (1 : Int32)), .val (.int (0 : Int32)), .val (.int (1 : Int32)), .val (.ref a1625), .val (.ref r1641), .val (.ref r1680), .unset] []))) (fun _ k => XS.astore X1684.here hx rfl (hb hby at_84) rfl rfl (l' := #[.val (.int p1), .val (.int (1 : Int32)), .val (.int (1 : Int32)), .val (.int (0 : Int32)), .val (.int (1 : Int32)), .val (.ref a1625), .val (.ref r1641), .val (.ref r1680), .unset]) rfl k) ?_
          refine OGoalW.mp (S' := (T1682.setTop (mkF m 88 #[.val (.int p1), .val (.int (1 : Int32)), .val (.int (1 : Int32)), .val (.int (0 : Int32)), .val (.int (1 : Int32)), .val (.ref a1625), .val (.ref r1641), .val (.ref r1680), .unset] [(.ref a1625)]))) (fun _ k => XS.aload X1684.here hx rfl (hb hby at_86) rfl rfl k) ?_
          refine OGoalW.mp (S' := (T1682.setTop (mkF m 89 #[.val (.int p1), .val (.int (1 : Int32)), .val (.int (1 : Int32)), .val (.int (0 : Int32)), .val (.int (1 : Int32)), .val (.ref a1625), .val (.ref r1641), .val (.ref r1680), .unset] [(.int (0 : Int32)), (.ref a1625)]))) (fun _ k => XS.iloadN X1684.here hx rfl (hb hby at_88) rfl k) ?_
          refine oCallSW (y := (⟨"com/example/wildsolve/wildsolve/infer/FreshOrdinaryPinLaw", "step", "(Lcom/example/wildsolve/wildsolve/infer/Fresh;Z)Lcom/example/wildsolve/wildsolve/solver/Placeholder;"⟩ : MethodName)) X1684 hx hZ hown (hw _ (List.mem_of_getElem? (i := 9) rfl)) (hw _ (List.mem_of_getElem? (i := 10) rfl)) (hw _ (List.mem_of_getElem? (i := 11) rfl)) (hw _ (List.mem_of_getElem? (i := 12) rfl)) (by decide) (rmSt0 l Z a0 hw a1625 T1682.heap n0 Z1701 (2 : Int32) (3 : Int32) (1 : Int32) (by decide) E1692 F1693 F1694 ab1632) rfl [(.ref a1625), (.int (0 : Int32))] [] rfl rfl (by rw [hml]; rfl) (lenOf own_pd__Lcom_example_wildsolve_wildsolve_infer_Fresh_Z_Lcom_example_wildsolve_wildsolve_solver_Placeholder_ rfl) 0 (Nat.le_of_eq rfl) (by decide) (by decide) (by decide) (by decide) (hb hby at_89) ?_
          intro v1703 T1704 L1705 X1706 q1707
          obtain ⟨r1702, rfl, N1708, K1709, hr1710, E1711, F1712, F1713, E1714, F1715, F1716⟩ := q1707
          have N1717 := Fr.app N1695 N1708
          have lt1718 : a1625 < r1702 := Nat.lt_of_lt_of_le E1692.lt hr1710
          have F1719 := F1697.keep K1709
          have F1720 := F1698.keep K1709 (ninS (Nat.ne_of_gt lt1657) nin0)
          have F1721 := F1699.keep K1709 (ninS (Nat.ne_of_gt lt1657) nin0)
          have F1722 := E1689.keep K1709
          have F1723 := F1690.keep K1709 (ninS (Nat.ne_of_gt lt1696) nin0)
          have F1724 := F1691.keep K1709 (ninS (Nat.ne_of_gt lt1696) nin0)
          have K1725 : Keep h0 T1704.heap [] := K1700.trans K1709 (allS (Or.inr fr1627) all0)
          have Z1726 : n0 ≤ T1704.heap.size := Nat.le_trans Z1701 K1709.1
          show OGoalW p e below s _ _ _ (T1704.setTop (mkF m 92 #[.val (.int p1), .val (.int (1 : Int32)), .val (.int (1 : Int32)), .val (.int (0 : Int32)), .val (.int (1 : Int32)), .val (.ref a1625), .val (.ref r1641), .val (.ref r1680), .unset] [(.ref r1702)]))
          refine OGoalW.mp (S' := (T1704.setTop (mkF m 94 #[.val (.int p1), .val (.int (1 : Int32)), .val (.int (1 : Int32)), .val (.int (0 : Int32)), .val (.int (1 : Int32)), .val (.ref a1625), .val (.ref r1641), .val (.ref r1680), .val (.ref r1702)] []))) (fun _ k => XS.astore X1706.here hx rfl (hb hby at_92) rfl rfl (l' := #[.val (.int p1), .val (.int (1 : Int32)), .val (.int (1 : Int32)), .val (.int (0 : Int32)), .val (.int (1 : Int32)), .val (.ref a1625), .val (.ref r1641), .val (.ref r1680), .val (.ref r1702)]) rfl k) ?_
          refine OGoalW.mp (S' := (T1704.setTop (mkF m 96 #[.val (.int p1), .val (.int (1 : Int32)), .val (.int (1 : Int32)), .val (.int (0 : Int32)), .val (.int (1 : Int32)), .val (.ref a1625), .val (.ref r1641), .val (.ref r1680), .val (.ref r1702)] [(.ref r1641)]))) (fun _ k => XS.aload X1706.here hx rfl (hb hby at_94) rfl rfl k) ?_
          refine OGoalW.mp (S' := (T1704.setTop (mkF m 97 #[.val (.int p1), .val (.int (1 : Int32)), .val (.int (1 : Int32)), .val (.int (0 : Int32)), .val (.int (1 : Int32)), .val (.ref a1625), .val (.ref r1641), .val (.ref r1680), .val (.ref r1702)] [(.int (1 : Int32)), (.ref r1641)]))) (fun _ k => XS.iconst X1706.here hx rfl (hb hby at_96) k) ?_
          refine OGoalW.mp (S' := (T1704.setTop (mkF m 98 #[.val (.int p1), .val (.int (1 : Int32)), .val (.int (1 : Int32)), .val (.int (0 : Int32)), .val (.int (1 : Int32)), .val (.ref a1625), .val (.ref r1641), .val (.ref r1680), .val (.ref r1702)] [(.int (1 : Int32)), (.int (1 : Int32)), (.ref r1641)]))) (fun _ k => XS.iloadN X1706.here hx rfl (hb hby at_97) rfl k) ?_
          refine oCallSW (y := (⟨"com/example/wildsolve/wildsolve/infer/FreshOrdinaryPinLaw", "check", "(Lcom/example/wildsolve/wildsolve/solver/Placeholder;IZ)Z"⟩ : MethodName)) X1706 hx hZ hown (hw _ (List.mem_of_getElem? (i := 36) rfl)) (hw _ (List.mem_of_getElem? (i := 37) rfl)) (hw _ (List.mem_of_getElem? (i := 11) rfl)) (hw _ (List.mem_of_getElem? (i := 38) rfl)) (by decide) (rmCk11 l Z a0 hw r1641 T1704.heap n0 Z1726 F1719 F1720 F1721) rfl [(.ref r1641), (.int (1 : Int32)), (.int (1 : Int32))] [] rfl rfl (by rw [hml]; rfl) (lenOf own_pd__Lcom_example_wildsolve_wildsolve_solver_Placeholder_IZ_Z rfl) 0 (Nat.le_of_eq rfl) (by decide) (by decide) (by decide) (by decide) (hb hby at_98) ?_
          intro v1727 T1728 L1729 X1730 q1731
          obtain ⟨rfl, N1732, e1733⟩ := q1731
          have N1734 := Fr.app N1717 N1732
          show OGoalW p e below s _ _ _ (T1728.setTop (mkF m 101 #[.val (.int p1), .val (.int (1 : Int32)), .val (.int (1 : Int32)), .val (.int (0 : Int32)), .val (.int (1 : Int32)), .val (.ref a1625), .val (.ref r1641), .val (.ref r1680), .val (.ref r1702)] [(.int (1 : Int32))]))
          refine OGoalW.mp (S' := (T1728.setTop (mkF m 104 #[.val (.int p1), .val (.int (1 : Int32)), .val (.int (1 : Int32)), .val (.int (0 : Int32)), .val (.int (1 : Int32)), .val (.ref a1625), .val (.ref r1641), .val (.ref r1680), .val (.ref r1702)] []))) (fun _ k => XS.ifNo X1730.here hx rfl (hb hby at_101) rfl (XT.i0_eq_f (by decide)) k) ?_
          refine OGoalW.mp (S' := (T1728.setTop (mkF m 106 #[.val (.int p1), .val (.int (1 : Int32)), .val (.int (1 : Int32)), .val (.int (0 : Int32)), .val (.int (1 : Int32)), .val (.ref a1625), .val (.ref r1641), .val (.ref r1680), .val (.ref r1702)] [(.ref r1680)]))) (fun _ k => XS.aload X1730.here hx rfl (hb hby at_104) rfl rfl k) ?_
          refine OGoalW.mp (S' := (T1728.setTop (mkF m 107 #[.val (.int p1), .val (.int (1 : Int32)), .val (.int (1 : Int32)), .val (.int (0 : Int32)), .val (.int (1 : Int32)), .val (.ref a1625), .val (.ref r1641), .val (.ref r1680), .val (.ref r1702)] [(.int (2 : Int32)), (.ref r1680)]))) (fun _ k => XS.iconst X1730.here hx rfl (hb hby at_106) k) ?_
          refine OGoalW.mp (S' := (T1728.setTop (mkF m 108 #[.val (.int p1), .val (.int (1 : Int32)), .val (.int (1 : Int32)), .val (.int (0 : Int32)), .val (.int (1 : Int32)), .val (.ref a1625), .val (.ref r1641), .val (.ref r1680), .val (.ref r1702)] [(.int (1 : Int32)), (.int (2 : Int32)), (.ref r1680)]))) (fun _ k => XS.iloadN X1730.here hx rfl (hb hby at_107) rfl k) ?_
          refine oCallSW (y := (⟨"com/example/wildsolve/wildsolve/infer/FreshOrdinaryPinLaw", "check", "(Lcom/example/wildsolve/wildsolve/solver/Placeholder;IZ)Z"⟩ : MethodName)) X1730 hx hZ hown (hw _ (List.mem_of_getElem? (i := 36) rfl)) (hw _ (List.mem_of_getElem? (i := 37) rfl)) (hw _ (List.mem_of_getElem? (i := 11) rfl)) (hw _ (List.mem_of_getElem? (i := 38) rfl)) (by decide) (rmCk21 l Z a0 hw r1680 T1704.heap n0 Z1726 F1722 F1723 F1724) e1733 [(.ref r1680), (.int (2 : Int32)), (.int (1 : Int32))] [] rfl rfl (by rw [hml]; rfl) (lenOf own_pd__Lcom_example_wildsolve_wildsolve_solver_Placeholder_IZ_Z rfl) 0 (Nat.le_of_eq rfl) (by decide) (by decide) (by decide) (by decide) (hb hby at_108) ?_
          intro v1735 T1736 L1737 X1738 q1739
          obtain ⟨rfl, N1740, e1741⟩ := q1739
          have N1742 := Fr.app N1734 N1740
          show OGoalW p e below s _ _ _ (T1736.setTop (mkF m 111 #[.val (.int p1), .val (.int (1 : Int32)), .val (.int (1 : Int32)), .val (.int (0 : Int32)), .val (.int (1 : Int32)), .val (.ref a1625), .val (.ref r1641), .val (.ref r1680), .val (.ref r1702)] [(.int (1 : Int32))]))
          refine OGoalW.mp (S' := (T1736.setTop (mkF m 114 #[.val (.int p1), .val (.int (1 : Int32)), .val (.int (1 : Int32)), .val (.int (0 : Int32)), .val (.int (1 : Int32)), .val (.ref a1625), .val (.ref r1641), .val (.ref r1680), .val (.ref r1702)] []))) (fun _ k => XS.ifNo X1738.here hx rfl (hb hby at_111) rfl (XT.i0_eq_f (by decide)) k) ?_
          refine OGoalW.mp (S' := (T1736.setTop (mkF m 116 #[.val (.int p1), .val (.int (1 : Int32)), .val (.int (1 : Int32)), .val (.int (0 : Int32)), .val (.int (1 : Int32)), .val (.ref a1625), .val (.ref r1641), .val (.ref r1680), .val (.ref r1702)] [(.ref r1702)]))) (fun _ k => XS.aload X1738.here hx rfl (hb hby at_114) rfl rfl k) ?_
          refine OGoalW.mp (S' := (T1736.setTop (mkF m 117 #[.val (.int p1), .val (.int (1 : Int32)), .val (.int (1 : Int32)), .val (.int (0 : Int32)), .val (.int (1 : Int32)), .val (.ref a1625), .val (.ref r1641), .val (.ref r1680), .val (.ref r1702)] [(.int (3 : Int32)), (.ref r1702)]))) (fun _ k => XS.iconst X1738.here hx rfl (hb hby at_116) k) ?_
          refine OGoalW.mp (S' := (T1736.setTop (mkF m 118 #[.val (.int p1), .val (.int (1 : Int32)), .val (.int (1 : Int32)), .val (.int (0 : Int32)), .val (.int (1 : Int32)), .val (.ref a1625), .val (.ref r1641), .val (.ref r1680), .val (.ref r1702)] [(.int (0 : Int32)), (.int (3 : Int32)), (.ref r1702)]))) (fun _ k => XS.iloadN X1738.here hx rfl (hb hby at_117) rfl k) ?_
          refine oCallSW (y := (⟨"com/example/wildsolve/wildsolve/infer/FreshOrdinaryPinLaw", "check", "(Lcom/example/wildsolve/wildsolve/solver/Placeholder;IZ)Z"⟩ : MethodName)) X1738 hx hZ hown (hw _ (List.mem_of_getElem? (i := 36) rfl)) (hw _ (List.mem_of_getElem? (i := 37) rfl)) (hw _ (List.mem_of_getElem? (i := 11) rfl)) (hw _ (List.mem_of_getElem? (i := 38) rfl)) (by decide) (rmCk30 l Z a0 hw r1702 T1704.heap n0 Z1726 E1711 F1712 F1713) e1741 [(.ref r1702), (.int (3 : Int32)), (.int (0 : Int32))] [] rfl rfl (by rw [hml]; rfl) (lenOf own_pd__Lcom_example_wildsolve_wildsolve_solver_Placeholder_IZ_Z rfl) 0 (Nat.le_of_eq rfl) (by decide) (by decide) (by decide) (by decide) (hb hby at_118) ?_
          intro v1743 T1744 L1745 X1746 q1747
          obtain ⟨rfl, N1748, e1749⟩ := q1747
          have N1750 := Fr.app N1742 N1748
          show OGoalW p e below s _ _ _ (T1744.setTop (mkF m 121 #[.val (.int p1), .val (.int (1 : Int32)), .val (.int (1 : Int32)), .val (.int (0 : Int32)), .val (.int (1 : Int32)), .val (.ref a1625), .val (.ref r1641), .val (.ref r1680), .val (.ref r1702)] [(.int (1 : Int32))]))
          refine OGoalW.mp (S' := (T1744.setTop (mkF m 124 #[.val (.int p1), .val (.int (1 : Int32)), .val (.int (1 : Int32)), .val (.int (0 : Int32)), .val (.int (1 : Int32)), .val (.ref a1625), .val (.ref r1641), .val (.ref r1680), .val (.ref r1702)] []))) (fun _ k => XS.ifNo X1746.here hx rfl (hb hby at_121) rfl (XT.i0_eq_f (by decide)) k) ?_
          refine OGoalW.mp (S' := (T1744.setTop (mkF m 125 #[.val (.int p1), .val (.int (1 : Int32)), .val (.int (1 : Int32)), .val (.int (0 : Int32)), .val (.int (1 : Int32)), .val (.ref a1625), .val (.ref r1641), .val (.ref r1680), .val (.ref r1702)] [(.int (1 : Int32))]))) (fun _ k => XS.iconst X1746.here hx rfl (hb hby at_124) k) ?_
          refine OGoalW.mp (S' := (T1744.setTop (mkF m 129 #[.val (.int p1), .val (.int (1 : Int32)), .val (.int (1 : Int32)), .val (.int (0 : Int32)), .val (.int (1 : Int32)), .val (.ref a1625), .val (.ref r1641), .val (.ref r1680), .val (.ref r1702)] [(.int (1 : Int32))]))) (fun _ k => XS.goto X1746.here hx rfl (pc0 := 125) (pc' := 129) rfl (hb hby at_125) (by decide) (by decide) k) ?_
          refine oRetZW X1746 hS1667 (Nat.le_trans (Nat.le_trans (Nat.le_trans (Nat.le_refl _) K1687.1) K1709.1) (Nat.le_of_eq (congrArg Array.size e1749).symm)) hx hlk hret (Or.inr rfl) (hb hby at_129) ?_ (by decide) (by decide)
          exact ⟨rfl, N1750⟩
      · refine OGoalW.mp (S' := (s₁.setTop (mkF m 30 #[.val (.int p1), .val (.int (1 : Int32)), .val (.int (1 : Int32)), .unset, .unset, .unset, .unset, .unset, .unset] []))) (fun _ k => XS.ifNo X0.here hx rfl (hb hby at_27) rfl (XT.i0_eq_f hc1501) k) ?_
        refine OGoalW.mp (S' := (s₁.setTop (mkF m 31 #[.val (.int p1), .val (.int (1 : Int32)), .val (.int (1 : Int32)), .unset, .unset, .unset, .unset, .unset, .unset] [(.int (1 : Int32))]))) (fun _ k => XS.iconst X0.here hx rfl (hb hby at_30) k) ?_
        refine OGoalW.mp (S' := (s₁.setTop (mkF m 35 #[.val (.int p1), .val (.int (1 : Int32)), .val (.int (1 : Int32)), .unset, .unset, .unset, .unset, .unset, .unset] [(.int (1 : Int32))]))) (fun _ k => XS.goto X0.here hx rfl (pc0 := 31) (pc' := 35) rfl (hb hby at_31) (by decide) (by decide) k) ?_
        refine OGoalW.mp (S' := (s₁.setTop (mkF m 36 #[.val (.int p1), .val (.int (1 : Int32)), .val (.int (1 : Int32)), .val (.int (1 : Int32)), .unset, .unset, .unset, .unset, .unset] []))) (fun _ k => XS.istoreN X0.here hx rfl (hb hby at_35) rfl (l' := #[.val (.int p1), .val (.int (1 : Int32)), .val (.int (1 : Int32)), .val (.int (1 : Int32)), .unset, .unset, .unset, .unset, .unset]) rfl k) ?_
        refine OGoalW.mp (S' := (s₁.setTop (mkF m 37 #[.val (.int p1), .val (.int (1 : Int32)), .val (.int (1 : Int32)), .val (.int (1 : Int32)), .unset, .unset, .unset, .unset, .unset] [(.int p1)]))) (fun _ k => XS.iloadN X0.here hx rfl (hb hby at_36) rfl k) ?_
        refine OGoalW.mp (S' := (s₁.setTop (mkF m 39 #[.val (.int p1), .val (.int (1 : Int32)), .val (.int (1 : Int32)), .val (.int (1 : Int32)), .unset, .unset, .unset, .unset, .unset] [(.int (8 : Int32)), (.int p1)]))) (fun _ k => XS.bipush X0.here hx rfl (hb hby at_37) k) ?_
        refine OGoalW.mp (S' := (s₁.setTop (mkF m 40 #[.val (.int p1), .val (.int (1 : Int32)), .val (.int (1 : Int32)), .val (.int (1 : Int32)), .unset, .unset, .unset, .unset, .unset] [(.int (p1 &&& (8 : Int32)))]))) (fun _ k => XS.iand X0.here hx rfl (hb hby at_39) rfl k) ?_
        by_cases hc1751 : (p1 &&& (8 : Int32)) = 0
        · refine OGoalW.mp (S' := (s₁.setTop (mkF m 47 #[.val (.int p1), .val (.int (1 : Int32)), .val (.int (1 : Int32)), .val (.int (1 : Int32)), .unset, .unset, .unset, .unset, .unset] []))) (fun _ k => XS.ifYes X0.here hx rfl (pc0 := 40) (pc' := 47) rfl (hb hby at_40) rfl (XT.i0_eq_t hc1751) (by decide) (by decide) k) ?_
          refine OGoalW.mp (S' := (s₁.setTop (mkF m 48 #[.val (.int p1), .val (.int (1 : Int32)), .val (.int (1 : Int32)), .val (.int (1 : Int32)), .unset, .unset, .unset, .unset, .unset] [(.int (0 : Int32))]))) (fun _ k => XS.iconst X0.here hx rfl (hb hby at_47) k) ?_
          refine OGoalW.mp (S' := (s₁.setTop (mkF m 50 #[.val (.int p1), .val (.int (1 : Int32)), .val (.int (1 : Int32)), .val (.int (1 : Int32)), .val (.int (0 : Int32)), .unset, .unset, .unset, .unset] []))) (fun _ k => XS.istore X0.here hx rfl (hb hby at_48) rfl (l' := #[.val (.int p1), .val (.int (1 : Int32)), .val (.int (1 : Int32)), .val (.int (1 : Int32)), .val (.int (0 : Int32)), .unset, .unset, .unset, .unset]) rfl k) ?_
          obtain ⟨T1752, h1756, X1753, e1754, E1757, A1758, D1759, -, st1755⟩ := newO X0 hx hZ hown (hw _ (List.mem_of_getElem? (i := 0) rfl)) (hw _ (List.mem_of_getElem? (i := 1) rfl)) (hw _ (List.mem_of_getElem? (i := 2) rfl)) e0 (g := mkF m 50 #[.val (.int p1), .val (.int (1 : Int32)), .val (.int (1 : Int32)), .val (.int (1 : Int32)), .val (.int (0 : Int32)), .unset, .unset, .unset, .unset] []) rfl (hb hby at_50) (by decide) (by decide)
          obtain ⟨a1760, g1761⟩ : ∃ z, z = h0.size := ⟨_, rfl⟩
          rw [← g1761] at A1758 D1759 st1755
          have fr1762 : h0.size ≤ a1760 := by rw [g1761]; exact (Keep.refl h0 []).1
          have K1763 : Keep h0 h1756 [] := (Keep.refl h0 []).ext E1757
          have F1764 : Fld Z h1756 a1760 "com/example/wildsolve/wildsolve/infer/Fresh" "placeholders" "I" (.int (0 : Int32)) := D1759 (Or.inl (hw _ (List.mem_of_getElem? (i := 22) rfl))) (ty := .int) (by decide)
          have F1765 : Fld Z h1756 a1760 "com/example/wildsolve/wildsolve/infer/Fresh" "variables" "I" (.int (0 : Int32)) := D1759 (Or.inl (hw _ (List.mem_of_getElem? (i := 136) rfl))) (ty := .int) (by decide)
          have Z1766 : n0 ≤ h1756.size := Nat.le_trans Z0 E1757.1
          have ab1767 : n0 ≤ a1760 := Nat.le_trans Z0 (Nat.le_of_eq g1761.symm)
          refine OGoalW.mp (S' := (T1752.setTop (mkF m 53 #[.val (.int p1), .val (.int (1 : Int32)), .val (.int (1 : Int32)), .val (.int (1 : Int32)), .val (.int (0 : Int32)), .unset, .unset, .unset, .unset] [(.ref a1760)]))) (fun _ k => st1755 _ k) ?_
          refine OGoalW.mp (S' := (T1752.setTop (mkF m 54 #[.val (.int p1), .val (.int (1 : Int32)), .val (.int (1 : Int32)), .val (.int (1 : Int32)), .val (.int (0 : Int32)), .unset, .unset, .unset, .unset] [(.ref a1760), (.ref a1760)]))) (fun _ k => XS.dup X1753.here hx rfl (hb hby at_53) rfl rfl k) ?_
          refine oCallNW (y := (⟨"com/example/wildsolve/wildsolve/infer/Fresh", "<init>", "()V"⟩ : MethodName)) X1753 hx hZ rfl hown (hw _ (List.mem_of_getElem? (i := 3) rfl)) (hw _ (List.mem_of_getElem? (i := 4) rfl)) (hw _ (List.mem_of_getElem? (i := 2) rfl)) (hw _ (List.mem_of_getElem? (i := 5) rfl)) (by decide) (rmFI l Z a0 hw a1760 h1756 n0 Z1766) e1754 [] [(.ref a1760)] rfl rfl (by rw [hml]; rfl) (lenOf own_pd___V rfl) 1 (Nat.le_of_eq rfl) (by decide) (by decide) (by decide) (by decide) (hb hby at_54) ?_
          intro v1768 T1769 L1770 X1771 q1772
          obtain ⟨rfl, N1773, e1774⟩ := q1772
          have N1775 := Fr.app (Fr.nil n0) N1773
          show OGoalW p e below s _ _ _ (T1769.setTop (mkF m 57 #[.val (.int p1), .val (.int (1 : Int32)), .val (.int (1 : Int32)), .val (.int (1 : Int32)), .val (.int (0 : Int32)), .unset, .unset, .unset, .unset] [(.ref a1760)]))
          refine OGoalW.mp (S' := (T1769.setTop (mkF m 59 #[.val (.int p1), .val (.int (1 : Int32)), .val (.int (1 : Int32)), .val (.int (1 : Int32)), .val (.int (0 : Int32)), .val (.ref a1760), .unset, .unset, .unset] []))) (fun _ k => XS.astore X1771.here hx rfl (hb hby at_57) rfl rfl (l' := #[.val (.int p1), .val (.int (1 : Int32)), .val (.int (1 : Int32)), .val (.int (1 : Int32)), .val (.int (0 : Int32)), .val (.ref a1760), .unset, .unset, .unset]) rfl k) ?_
          refine OGoalW.mp (S' := (T1769.setTop (mkF m 61 #[.val (.int p1), .val (.int (1 : Int32)), .val (.int (1 : Int32)), .val (.int (1 : Int32)), .val (.int (0 : Int32)), .val (.ref a1760), .unset, .unset, .unset] [(.ref a1760)]))) (fun _ k => XS.aload X1771.here hx rfl (hb hby at_59) rfl rfl k) ?_
          refine OGoalW.mp (S' := (T1769.setTop (mkF m 62 #[.val (.int p1), .val (.int (1 : Int32)), .val (.int (1 : Int32)), .val (.int (1 : Int32)), .val (.int (0 : Int32)), .val (.ref a1760), .unset, .unset, .unset] [(.int (1 : Int32)), (.ref a1760)]))) (fun _ k => XS.iloadN X1771.here hx rfl (hb hby at_61) rfl k) ?_
          refine oCallSW (y := (⟨"com/example/wildsolve/wildsolve/infer/FreshOrdinaryPinLaw", "step", "(Lcom/example/wildsolve/wildsolve/infer/Fresh;Z)Lcom/example/wildsolve/wildsolve/solver/Placeholder;"⟩ : MethodName)) X1771 hx hZ hown (hw _ (List.mem_of_getElem? (i := 9) rfl)) (hw _ (List.mem_of_getElem? (i := 10) rfl)) (hw _ (List.mem_of_getElem? (i := 11) rfl)) (hw _ (List.mem_of_getElem? (i := 12) rfl)) (by decide) (rmSt1 l Z a0 hw a1760 h1756 n0 Z1766 (0 : Int32) (1 : Int32) (0 : Int32) (by decide) A1758 F1764 F1765 ab1767) e1774 [(.ref a1760), (.int (1 : Int32))] [] rfl rfl (by rw [hml]; rfl) (lenOf own_pd__Lcom_example_wildsolve_wildsolve_infer_Fresh_Z_Lcom_example_wildsolve_wildsolve_solver_Placeholder_ rfl) 0 (Nat.le_of_eq rfl) (by decide) (by decide) (by decide) (by decide) (hb hby at_62) ?_
          intro v1777 T1778 L1779 X1780 q1781
          obtain ⟨r1776, rfl, N1782, K1783, hr1784, E1785, F1786, F1787, E1788, F1789, F1790⟩ := q1781
          have N1791 := Fr.app N1775 N1782
          have lt1792 : a1760 < r1776 := Nat.lt_of_lt_of_le A1758.lt hr1784
          have K1793 : Keep h0 T1778.heap [] := K1763.trans K1783 (allS (Or.inr fr1762) all0)
          have Z1794 : n0 ≤ T1778.heap.size := Nat.le_trans Z1766 K1783.1
          show OGoalW p e below s _ _ _ (T1778.setTop (mkF m 65 #[.val (.int p1), .val (.int (1 : Int32)), .val (.int (1 : Int32)), .val (.int (1 : Int32)), .val (.int (0 : Int32)), .val (.ref a1760), .unset, .unset, .unset] [(.ref r1776)]))
          refine OGoalW.mp (S' := (T1778.setTop (mkF m 67 #[.val (.int p1), .val (.int (1 : Int32)), .val (.int (1 : Int32)), .val (.int (1 : Int32)), .val (.int (0 : Int32)), .val (.ref a1760), .val (.ref r1776), .unset, .unset] []))) (fun _ k => XS.astore X1780.here hx rfl (hb hby at_65) rfl rfl (l' := #[.val (.int p1), .val (.int (1 : Int32)), .val (.int (1 : Int32)), .val (.int (1 : Int32)), .val (.int (0 : Int32)), .val (.ref a1760), .val (.ref r1776), .unset, .unset]) rfl k) ?_
          refine OGoalW.mp (S' := (T1778.setTop (mkF m 69 #[.val (.int p1), .val (.int (1 : Int32)), .val (.int (1 : Int32)), .val (.int (1 : Int32)), .val (.int (0 : Int32)), .val (.ref a1760), .val (.ref r1776), .unset, .unset] [(.int (0 : Int32))]))) (fun _ k => XS.iload X1780.here hx rfl (hb hby at_67) rfl k) ?_
          refine OGoalW.mp (S' := (T1778.setTop (mkF m 78 #[.val (.int p1), .val (.int (1 : Int32)), .val (.int (1 : Int32)), .val (.int (1 : Int32)), .val (.int (0 : Int32)), .val (.ref a1760), .val (.ref r1776), .unset, .unset] []))) (fun _ k => XS.ifYes X1780.here hx rfl (pc0 := 69) (pc' := 78) rfl (hb hby at_69) rfl (XT.i0_eq_t (by decide)) (by decide) (by decide) k) ?_
          refine OGoalW.mp (S' := (T1778.setTop (mkF m 80 #[.val (.int p1), .val (.int (1 : Int32)), .val (.int (1 : Int32)), .val (.int (1 : Int32)), .val (.int (0 : Int32)), .val (.ref a1760), .val (.ref r1776), .unset, .unset] [(.ref a1760)]))) (fun _ k => XS.aload X1780.here hx rfl (hb hby at_78) rfl rfl k) ?_
          refine OGoalW.mp (S' := (T1778.setTop (mkF m 81 #[.val (.int p1), .val (.int (1 : Int32)), .val (.int (1 : Int32)), .val (.int (1 : Int32)), .val (.int (0 : Int32)), .val (.ref a1760), .val (.ref r1776), .unset, .unset] [(.int (1 : Int32)), (.ref a1760)]))) (fun _ k => XS.iloadN X1780.here hx rfl (hb hby at_80) rfl k) ?_
          refine oCallSW (y := (⟨"com/example/wildsolve/wildsolve/infer/FreshOrdinaryPinLaw", "step", "(Lcom/example/wildsolve/wildsolve/infer/Fresh;Z)Lcom/example/wildsolve/wildsolve/solver/Placeholder;"⟩ : MethodName)) X1780 hx hZ hown (hw _ (List.mem_of_getElem? (i := 9) rfl)) (hw _ (List.mem_of_getElem? (i := 10) rfl)) (hw _ (List.mem_of_getElem? (i := 11) rfl)) (hw _ (List.mem_of_getElem? (i := 12) rfl)) (by decide) (rmSt1 l Z a0 hw a1760 T1778.heap n0 Z1794 (1 : Int32) (2 : Int32) (0 : Int32) (by decide) E1788 F1789 F1790 ab1767) rfl [(.ref a1760), (.int (1 : Int32))] [] rfl rfl (by rw [hml]; rfl) (lenOf own_pd__Lcom_example_wildsolve_wildsolve_infer_Fresh_Z_Lcom_example_wildsolve_wildsolve_solver_Placeholder_ rfl) 0 (Nat.le_of_eq rfl) (by decide) (by decide) (by decide) (by decide) (hb hby at_81) ?_
          intro v1796 T1797 L1798 X1799 q1800
          obtain ⟨r1795, rfl, N1801, K1802, hr1803, E1804, F1805, F1806, E1807, F1808, F1809⟩ := q1800
          have N1810 := Fr.app N1791 N1801
          have lt1811 : a1760 < r1795 := Nat.lt_of_lt_of_le E1788.lt hr1803
          have F1812 := E1785.keep K1802
          have F1813 := F1786.keep K1802 (ninS (Nat.ne_of_gt lt1792) nin0)
          have F1814 := F1787.keep K1802 (ninS (Nat.ne_of_gt lt1792) nin0)
          have K1815 : Keep h0 T1797.heap [] := K1793.trans K1802 (allS (Or.inr fr1762) all0)
          have Z1816 : n0 ≤ T1797.heap.size := Nat.le_trans Z1794 K1802.1
          show OGoalW p e below s _ _ _ (T1797.setTop (mkF m 84 #[.val (.int p1), .val (.int (1 : Int32)), .val (.int (1 : Int32)), .val (.int (1 : Int32)), .val (.int (0 : Int32)), .val (.ref a1760), .val (.ref r1776), .unset, .unset] [(.ref r1795)]))
          refine OGoalW.mp (S' := (T1797.setTop (mkF m 86 #[.val (.int p1), .val (.int (1 : Int32)), .val (.int (1 : Int32)), .val (.int (1 : Int32)), .val (.int (0 : Int32)), .val (.ref a1760), .val (.ref r1776), .val (.ref r1795), .unset] []))) (fun _ k => XS.astore X1799.here hx rfl (hb hby at_84) rfl rfl (l' := #[.val (.int p1), .val (.int (1 : Int32)), .val (.int (1 : Int32)), .val (.int (1 : Int32)), .val (.int (0 : Int32)), .val (.ref a1760), .val (.ref r1776), .val (.ref r1795), .unset]) rfl k) ?_
          refine OGoalW.mp (S' := (T1797.setTop (mkF m 88 #[.val (.int p1), .val (.int (1 : Int32)), .val (.int (1 : Int32)), .val (.int (1 : Int32)), .val (.int (0 : Int32)), .val (.ref a1760), .val (.ref r1776), .val (.ref r1795), .unset] [(.ref a1760)]))) (fun _ k => XS.aload X1799.here hx rfl (hb hby at_86) rfl rfl k) ?_
          refine OGoalW.mp (S' := (T1797.setTop (mkF m 89 #[.val (.int p1), .val (.int (1 : Int32)), .val (.int (1 : Int32)), .val (.int (1 : Int32)), .val (.int (0 : Int32)), .val (.ref a1760), .val (.ref r1776), .val (.ref r1795), .unset] [(.int (1 : Int32)), (.ref a1760)]))) (fun _ k => XS.iloadN X1799.here hx rfl (hb hby at_88) rfl k) ?_
          refine oCallSW (y := (⟨"com/example/wildsolve/wildsolve/infer/FreshOrdinaryPinLaw", "step", "(Lcom/example/wildsolve/wildsolve/infer/Fresh;Z)Lcom/example/wildsolve/wildsolve/solver/Placeholder;"⟩ : MethodName)) X1799 hx hZ hown (hw _ (List.mem_of_getElem? (i := 9) rfl)) (hw _ (List.mem_of_getElem? (i := 10) rfl)) (hw _ (List.mem_of_getElem? (i := 11) rfl)) (hw _ (List.mem_of_getElem? (i := 12) rfl)) (by decide) (rmSt1 l Z a0 hw a1760 T1797.heap n0 Z1816 (2 : Int32) (3 : Int32) (0 : Int32) (by decide) E1807 F1808 F1809 ab1767) rfl [(.ref a1760), (.int (1 : Int32))] [] rfl rfl (by rw [hml]; rfl) (lenOf own_pd__Lcom_example_wildsolve_wildsolve_infer_Fresh_Z_Lcom_example_wildsolve_wildsolve_solver_Placeholder_ rfl) 0 (Nat.le_of_eq rfl) (by decide) (by decide) (by decide) (by decide) (hb hby at_89) ?_
          intro v1818 T1819 L1820 X1821 q1822
          obtain ⟨r1817, rfl, N1823, K1824, hr1825, E1826, F1827, F1828, E1829, F1830, F1831⟩ := q1822
          have N1832 := Fr.app N1810 N1823
          have lt1833 : a1760 < r1817 := Nat.lt_of_lt_of_le E1807.lt hr1825
          have F1834 := F1812.keep K1824
          have F1835 := F1813.keep K1824 (ninS (Nat.ne_of_gt lt1792) nin0)
          have F1836 := F1814.keep K1824 (ninS (Nat.ne_of_gt lt1792) nin0)
          have F1837 := E1804.keep K1824
          have F1838 := F1805.keep K1824 (ninS (Nat.ne_of_gt lt1811) nin0)
          have F1839 := F1806.keep K1824 (ninS (Nat.ne_of_gt lt1811) nin0)
          have K1840 : Keep h0 T1819.heap [] := K1815.trans K1824 (allS (Or.inr fr1762) all0)
          have Z1841 : n0 ≤ T1819.heap.size := Nat.le_trans Z1816 K1824.1
          show OGoalW p e below s _ _ _ (T1819.setTop (mkF m 92 #[.val (.int p1), .val (.int (1 : Int32)), .val (.int (1 : Int32)), .val (.int (1 : Int32)), .val (.int (0 : Int32)), .val (.ref a1760), .val (.ref r1776), .val (.ref r1795), .unset] [(.ref r1817)]))
          refine OGoalW.mp (S' := (T1819.setTop (mkF m 94 #[.val (.int p1), .val (.int (1 : Int32)), .val (.int (1 : Int32)), .val (.int (1 : Int32)), .val (.int (0 : Int32)), .val (.ref a1760), .val (.ref r1776), .val (.ref r1795), .val (.ref r1817)] []))) (fun _ k => XS.astore X1821.here hx rfl (hb hby at_92) rfl rfl (l' := #[.val (.int p1), .val (.int (1 : Int32)), .val (.int (1 : Int32)), .val (.int (1 : Int32)), .val (.int (0 : Int32)), .val (.ref a1760), .val (.ref r1776), .val (.ref r1795), .val (.ref r1817)]) rfl k) ?_
          refine OGoalW.mp (S' := (T1819.setTop (mkF m 96 #[.val (.int p1), .val (.int (1 : Int32)), .val (.int (1 : Int32)), .val (.int (1 : Int32)), .val (.int (0 : Int32)), .val (.ref a1760), .val (.ref r1776), .val (.ref r1795), .val (.ref r1817)] [(.ref r1776)]))) (fun _ k => XS.aload X1821.here hx rfl (hb hby at_94) rfl rfl k) ?_
          refine OGoalW.mp (S' := (T1819.setTop (mkF m 97 #[.val (.int p1), .val (.int (1 : Int32)), .val (.int (1 : Int32)), .val (.int (1 : Int32)), .val (.int (0 : Int32)), .val (.ref a1760), .val (.ref r1776), .val (.ref r1795), .val (.ref r1817)] [(.int (1 : Int32)), (.ref r1776)]))) (fun _ k => XS.iconst X1821.here hx rfl (hb hby at_96) k) ?_
          refine OGoalW.mp (S' := (T1819.setTop (mkF m 98 #[.val (.int p1), .val (.int (1 : Int32)), .val (.int (1 : Int32)), .val (.int (1 : Int32)), .val (.int (0 : Int32)), .val (.ref a1760), .val (.ref r1776), .val (.ref r1795), .val (.ref r1817)] [(.int (1 : Int32)), (.int (1 : Int32)), (.ref r1776)]))) (fun _ k => XS.iloadN X1821.here hx rfl (hb hby at_97) rfl k) ?_
          refine oCallSW (y := (⟨"com/example/wildsolve/wildsolve/infer/FreshOrdinaryPinLaw", "check", "(Lcom/example/wildsolve/wildsolve/solver/Placeholder;IZ)Z"⟩ : MethodName)) X1821 hx hZ hown (hw _ (List.mem_of_getElem? (i := 36) rfl)) (hw _ (List.mem_of_getElem? (i := 37) rfl)) (hw _ (List.mem_of_getElem? (i := 11) rfl)) (hw _ (List.mem_of_getElem? (i := 38) rfl)) (by decide) (rmCk11 l Z a0 hw r1776 T1819.heap n0 Z1841 F1834 F1835 F1836) rfl [(.ref r1776), (.int (1 : Int32)), (.int (1 : Int32))] [] rfl rfl (by rw [hml]; rfl) (lenOf own_pd__Lcom_example_wildsolve_wildsolve_solver_Placeholder_IZ_Z rfl) 0 (Nat.le_of_eq rfl) (by decide) (by decide) (by decide) (by decide) (hb hby at_98) ?_
          intro v1842 T1843 L1844 X1845 q1846
          obtain ⟨rfl, N1847, e1848⟩ := q1846
          have N1849 := Fr.app N1832 N1847
          show OGoalW p e below s _ _ _ (T1843.setTop (mkF m 101 #[.val (.int p1), .val (.int (1 : Int32)), .val (.int (1 : Int32)), .val (.int (1 : Int32)), .val (.int (0 : Int32)), .val (.ref a1760), .val (.ref r1776), .val (.ref r1795), .val (.ref r1817)] [(.int (1 : Int32))]))
          refine OGoalW.mp (S' := (T1843.setTop (mkF m 104 #[.val (.int p1), .val (.int (1 : Int32)), .val (.int (1 : Int32)), .val (.int (1 : Int32)), .val (.int (0 : Int32)), .val (.ref a1760), .val (.ref r1776), .val (.ref r1795), .val (.ref r1817)] []))) (fun _ k => XS.ifNo X1845.here hx rfl (hb hby at_101) rfl (XT.i0_eq_f (by decide)) k) ?_
          refine OGoalW.mp (S' := (T1843.setTop (mkF m 106 #[.val (.int p1), .val (.int (1 : Int32)), .val (.int (1 : Int32)), .val (.int (1 : Int32)), .val (.int (0 : Int32)), .val (.ref a1760), .val (.ref r1776), .val (.ref r1795), .val (.ref r1817)] [(.ref r1795)]))) (fun _ k => XS.aload X1845.here hx rfl (hb hby at_104) rfl rfl k) ?_
          refine OGoalW.mp (S' := (T1843.setTop (mkF m 107 #[.val (.int p1), .val (.int (1 : Int32)), .val (.int (1 : Int32)), .val (.int (1 : Int32)), .val (.int (0 : Int32)), .val (.ref a1760), .val (.ref r1776), .val (.ref r1795), .val (.ref r1817)] [(.int (2 : Int32)), (.ref r1795)]))) (fun _ k => XS.iconst X1845.here hx rfl (hb hby at_106) k) ?_
          refine OGoalW.mp (S' := (T1843.setTop (mkF m 108 #[.val (.int p1), .val (.int (1 : Int32)), .val (.int (1 : Int32)), .val (.int (1 : Int32)), .val (.int (0 : Int32)), .val (.ref a1760), .val (.ref r1776), .val (.ref r1795), .val (.ref r1817)] [(.int (1 : Int32)), (.int (2 : Int32)), (.ref r1795)]))) (fun _ k => XS.iloadN X1845.here hx rfl (hb hby at_107) rfl k) ?_
          refine oCallSW (y := (⟨"com/example/wildsolve/wildsolve/infer/FreshOrdinaryPinLaw", "check", "(Lcom/example/wildsolve/wildsolve/solver/Placeholder;IZ)Z"⟩ : MethodName)) X1845 hx hZ hown (hw _ (List.mem_of_getElem? (i := 36) rfl)) (hw _ (List.mem_of_getElem? (i := 37) rfl)) (hw _ (List.mem_of_getElem? (i := 11) rfl)) (hw _ (List.mem_of_getElem? (i := 38) rfl)) (by decide) (rmCk21 l Z a0 hw r1795 T1819.heap n0 Z1841 F1837 F1838 F1839) e1848 [(.ref r1795), (.int (2 : Int32)), (.int (1 : Int32))] [] rfl rfl (by rw [hml]; rfl) (lenOf own_pd__Lcom_example_wildsolve_wildsolve_solver_Placeholder_IZ_Z rfl) 0 (Nat.le_of_eq rfl) (by decide) (by decide) (by decide) (by decide) (hb hby at_108) ?_
          intro v1850 T1851 L1852 X1853 q1854
          obtain ⟨rfl, N1855, e1856⟩ := q1854
          have N1857 := Fr.app N1849 N1855
          show OGoalW p e below s _ _ _ (T1851.setTop (mkF m 111 #[.val (.int p1), .val (.int (1 : Int32)), .val (.int (1 : Int32)), .val (.int (1 : Int32)), .val (.int (0 : Int32)), .val (.ref a1760), .val (.ref r1776), .val (.ref r1795), .val (.ref r1817)] [(.int (1 : Int32))]))
          refine OGoalW.mp (S' := (T1851.setTop (mkF m 114 #[.val (.int p1), .val (.int (1 : Int32)), .val (.int (1 : Int32)), .val (.int (1 : Int32)), .val (.int (0 : Int32)), .val (.ref a1760), .val (.ref r1776), .val (.ref r1795), .val (.ref r1817)] []))) (fun _ k => XS.ifNo X1853.here hx rfl (hb hby at_111) rfl (XT.i0_eq_f (by decide)) k) ?_
          refine OGoalW.mp (S' := (T1851.setTop (mkF m 116 #[.val (.int p1), .val (.int (1 : Int32)), .val (.int (1 : Int32)), .val (.int (1 : Int32)), .val (.int (0 : Int32)), .val (.ref a1760), .val (.ref r1776), .val (.ref r1795), .val (.ref r1817)] [(.ref r1817)]))) (fun _ k => XS.aload X1853.here hx rfl (hb hby at_114) rfl rfl k) ?_
          refine OGoalW.mp (S' := (T1851.setTop (mkF m 117 #[.val (.int p1), .val (.int (1 : Int32)), .val (.int (1 : Int32)), .val (.int (1 : Int32)), .val (.int (0 : Int32)), .val (.ref a1760), .val (.ref r1776), .val (.ref r1795), .val (.ref r1817)] [(.int (3 : Int32)), (.ref r1817)]))) (fun _ k => XS.iconst X1853.here hx rfl (hb hby at_116) k) ?_
          refine OGoalW.mp (S' := (T1851.setTop (mkF m 118 #[.val (.int p1), .val (.int (1 : Int32)), .val (.int (1 : Int32)), .val (.int (1 : Int32)), .val (.int (0 : Int32)), .val (.ref a1760), .val (.ref r1776), .val (.ref r1795), .val (.ref r1817)] [(.int (1 : Int32)), (.int (3 : Int32)), (.ref r1817)]))) (fun _ k => XS.iloadN X1853.here hx rfl (hb hby at_117) rfl k) ?_
          refine oCallSW (y := (⟨"com/example/wildsolve/wildsolve/infer/FreshOrdinaryPinLaw", "check", "(Lcom/example/wildsolve/wildsolve/solver/Placeholder;IZ)Z"⟩ : MethodName)) X1853 hx hZ hown (hw _ (List.mem_of_getElem? (i := 36) rfl)) (hw _ (List.mem_of_getElem? (i := 37) rfl)) (hw _ (List.mem_of_getElem? (i := 11) rfl)) (hw _ (List.mem_of_getElem? (i := 38) rfl)) (by decide) (rmCk31 l Z a0 hw r1817 T1819.heap n0 Z1841 E1826 F1827 F1828) e1856 [(.ref r1817), (.int (3 : Int32)), (.int (1 : Int32))] [] rfl rfl (by rw [hml]; rfl) (lenOf own_pd__Lcom_example_wildsolve_wildsolve_solver_Placeholder_IZ_Z rfl) 0 (Nat.le_of_eq rfl) (by decide) (by decide) (by decide) (by decide) (hb hby at_118) ?_
          intro v1858 T1859 L1860 X1861 q1862
          obtain ⟨rfl, N1863, e1864⟩ := q1862
          have N1865 := Fr.app N1857 N1863
          show OGoalW p e below s _ _ _ (T1859.setTop (mkF m 121 #[.val (.int p1), .val (.int (1 : Int32)), .val (.int (1 : Int32)), .val (.int (1 : Int32)), .val (.int (0 : Int32)), .val (.ref a1760), .val (.ref r1776), .val (.ref r1795), .val (.ref r1817)] [(.int (1 : Int32))]))
          refine OGoalW.mp (S' := (T1859.setTop (mkF m 124 #[.val (.int p1), .val (.int (1 : Int32)), .val (.int (1 : Int32)), .val (.int (1 : Int32)), .val (.int (0 : Int32)), .val (.ref a1760), .val (.ref r1776), .val (.ref r1795), .val (.ref r1817)] []))) (fun _ k => XS.ifNo X1861.here hx rfl (hb hby at_121) rfl (XT.i0_eq_f (by decide)) k) ?_
          refine OGoalW.mp (S' := (T1859.setTop (mkF m 125 #[.val (.int p1), .val (.int (1 : Int32)), .val (.int (1 : Int32)), .val (.int (1 : Int32)), .val (.int (0 : Int32)), .val (.ref a1760), .val (.ref r1776), .val (.ref r1795), .val (.ref r1817)] [(.int (1 : Int32))]))) (fun _ k => XS.iconst X1861.here hx rfl (hb hby at_124) k) ?_
          refine OGoalW.mp (S' := (T1859.setTop (mkF m 129 #[.val (.int p1), .val (.int (1 : Int32)), .val (.int (1 : Int32)), .val (.int (1 : Int32)), .val (.int (0 : Int32)), .val (.ref a1760), .val (.ref r1776), .val (.ref r1795), .val (.ref r1817)] [(.int (1 : Int32))]))) (fun _ k => XS.goto X1861.here hx rfl (pc0 := 125) (pc' := 129) rfl (hb hby at_125) (by decide) (by decide) k) ?_
          refine oRetZW X1861 hS0 (Nat.le_trans (Nat.le_trans (Nat.le_trans (Nat.le_trans (Nat.le_trans (Nat.le_of_eq (congrArg Array.size hsh)) E1757.1) K1783.1) K1802.1) K1824.1) (Nat.le_of_eq (congrArg Array.size e1864).symm)) hx hlk hret (Or.inr rfl) (hb hby at_129) ?_ (by decide) (by decide)
          exact ⟨rfl, N1865⟩
        · refine OGoalW.mp (S' := (s₁.setTop (mkF m 43 #[.val (.int p1), .val (.int (1 : Int32)), .val (.int (1 : Int32)), .val (.int (1 : Int32)), .unset, .unset, .unset, .unset, .unset] []))) (fun _ k => XS.ifNo X0.here hx rfl (hb hby at_40) rfl (XT.i0_eq_f hc1751) k) ?_
          refine OGoalW.mp (S' := (s₁.setTop (mkF m 44 #[.val (.int p1), .val (.int (1 : Int32)), .val (.int (1 : Int32)), .val (.int (1 : Int32)), .unset, .unset, .unset, .unset, .unset] [(.int (1 : Int32))]))) (fun _ k => XS.iconst X0.here hx rfl (hb hby at_43) k) ?_
          refine OGoalW.mp (S' := (s₁.setTop (mkF m 48 #[.val (.int p1), .val (.int (1 : Int32)), .val (.int (1 : Int32)), .val (.int (1 : Int32)), .unset, .unset, .unset, .unset, .unset] [(.int (1 : Int32))]))) (fun _ k => XS.goto X0.here hx rfl (pc0 := 44) (pc' := 48) rfl (hb hby at_44) (by decide) (by decide) k) ?_
          refine OGoalW.mp (S' := (s₁.setTop (mkF m 50 #[.val (.int p1), .val (.int (1 : Int32)), .val (.int (1 : Int32)), .val (.int (1 : Int32)), .val (.int (1 : Int32)), .unset, .unset, .unset, .unset] []))) (fun _ k => XS.istore X0.here hx rfl (hb hby at_48) rfl (l' := #[.val (.int p1), .val (.int (1 : Int32)), .val (.int (1 : Int32)), .val (.int (1 : Int32)), .val (.int (1 : Int32)), .unset, .unset, .unset, .unset]) rfl k) ?_
          obtain ⟨T1866, h1870, X1867, e1868, E1871, A1872, D1873, -, st1869⟩ := newO X0 hx hZ hown (hw _ (List.mem_of_getElem? (i := 0) rfl)) (hw _ (List.mem_of_getElem? (i := 1) rfl)) (hw _ (List.mem_of_getElem? (i := 2) rfl)) e0 (g := mkF m 50 #[.val (.int p1), .val (.int (1 : Int32)), .val (.int (1 : Int32)), .val (.int (1 : Int32)), .val (.int (1 : Int32)), .unset, .unset, .unset, .unset] []) rfl (hb hby at_50) (by decide) (by decide)
          obtain ⟨a1874, g1875⟩ : ∃ z, z = h0.size := ⟨_, rfl⟩
          rw [← g1875] at A1872 D1873 st1869
          have fr1876 : h0.size ≤ a1874 := by rw [g1875]; exact (Keep.refl h0 []).1
          have K1877 : Keep h0 h1870 [] := (Keep.refl h0 []).ext E1871
          have F1878 : Fld Z h1870 a1874 "com/example/wildsolve/wildsolve/infer/Fresh" "placeholders" "I" (.int (0 : Int32)) := D1873 (Or.inl (hw _ (List.mem_of_getElem? (i := 22) rfl))) (ty := .int) (by decide)
          have F1879 : Fld Z h1870 a1874 "com/example/wildsolve/wildsolve/infer/Fresh" "variables" "I" (.int (0 : Int32)) := D1873 (Or.inl (hw _ (List.mem_of_getElem? (i := 136) rfl))) (ty := .int) (by decide)
          have Z1880 : n0 ≤ h1870.size := Nat.le_trans Z0 E1871.1
          have ab1881 : n0 ≤ a1874 := Nat.le_trans Z0 (Nat.le_of_eq g1875.symm)
          refine OGoalW.mp (S' := (T1866.setTop (mkF m 53 #[.val (.int p1), .val (.int (1 : Int32)), .val (.int (1 : Int32)), .val (.int (1 : Int32)), .val (.int (1 : Int32)), .unset, .unset, .unset, .unset] [(.ref a1874)]))) (fun _ k => st1869 _ k) ?_
          refine OGoalW.mp (S' := (T1866.setTop (mkF m 54 #[.val (.int p1), .val (.int (1 : Int32)), .val (.int (1 : Int32)), .val (.int (1 : Int32)), .val (.int (1 : Int32)), .unset, .unset, .unset, .unset] [(.ref a1874), (.ref a1874)]))) (fun _ k => XS.dup X1867.here hx rfl (hb hby at_53) rfl rfl k) ?_
          refine oCallNW (y := (⟨"com/example/wildsolve/wildsolve/infer/Fresh", "<init>", "()V"⟩ : MethodName)) X1867 hx hZ rfl hown (hw _ (List.mem_of_getElem? (i := 3) rfl)) (hw _ (List.mem_of_getElem? (i := 4) rfl)) (hw _ (List.mem_of_getElem? (i := 2) rfl)) (hw _ (List.mem_of_getElem? (i := 5) rfl)) (by decide) (rmFI l Z a0 hw a1874 h1870 n0 Z1880) e1868 [] [(.ref a1874)] rfl rfl (by rw [hml]; rfl) (lenOf own_pd___V rfl) 1 (Nat.le_of_eq rfl) (by decide) (by decide) (by decide) (by decide) (hb hby at_54) ?_
          intro v1882 T1883 L1884 X1885 q1886
          obtain ⟨rfl, N1887, e1888⟩ := q1886
          have N1889 := Fr.app (Fr.nil n0) N1887
          show OGoalW p e below s _ _ _ (T1883.setTop (mkF m 57 #[.val (.int p1), .val (.int (1 : Int32)), .val (.int (1 : Int32)), .val (.int (1 : Int32)), .val (.int (1 : Int32)), .unset, .unset, .unset, .unset] [(.ref a1874)]))
          refine OGoalW.mp (S' := (T1883.setTop (mkF m 59 #[.val (.int p1), .val (.int (1 : Int32)), .val (.int (1 : Int32)), .val (.int (1 : Int32)), .val (.int (1 : Int32)), .val (.ref a1874), .unset, .unset, .unset] []))) (fun _ k => XS.astore X1885.here hx rfl (hb hby at_57) rfl rfl (l' := #[.val (.int p1), .val (.int (1 : Int32)), .val (.int (1 : Int32)), .val (.int (1 : Int32)), .val (.int (1 : Int32)), .val (.ref a1874), .unset, .unset, .unset]) rfl k) ?_
          refine OGoalW.mp (S' := (T1883.setTop (mkF m 61 #[.val (.int p1), .val (.int (1 : Int32)), .val (.int (1 : Int32)), .val (.int (1 : Int32)), .val (.int (1 : Int32)), .val (.ref a1874), .unset, .unset, .unset] [(.ref a1874)]))) (fun _ k => XS.aload X1885.here hx rfl (hb hby at_59) rfl rfl k) ?_
          refine OGoalW.mp (S' := (T1883.setTop (mkF m 62 #[.val (.int p1), .val (.int (1 : Int32)), .val (.int (1 : Int32)), .val (.int (1 : Int32)), .val (.int (1 : Int32)), .val (.ref a1874), .unset, .unset, .unset] [(.int (1 : Int32)), (.ref a1874)]))) (fun _ k => XS.iloadN X1885.here hx rfl (hb hby at_61) rfl k) ?_
          refine oCallSW (y := (⟨"com/example/wildsolve/wildsolve/infer/FreshOrdinaryPinLaw", "step", "(Lcom/example/wildsolve/wildsolve/infer/Fresh;Z)Lcom/example/wildsolve/wildsolve/solver/Placeholder;"⟩ : MethodName)) X1885 hx hZ hown (hw _ (List.mem_of_getElem? (i := 9) rfl)) (hw _ (List.mem_of_getElem? (i := 10) rfl)) (hw _ (List.mem_of_getElem? (i := 11) rfl)) (hw _ (List.mem_of_getElem? (i := 12) rfl)) (by decide) (rmSt1 l Z a0 hw a1874 h1870 n0 Z1880 (0 : Int32) (1 : Int32) (0 : Int32) (by decide) A1872 F1878 F1879 ab1881) e1888 [(.ref a1874), (.int (1 : Int32))] [] rfl rfl (by rw [hml]; rfl) (lenOf own_pd__Lcom_example_wildsolve_wildsolve_infer_Fresh_Z_Lcom_example_wildsolve_wildsolve_solver_Placeholder_ rfl) 0 (Nat.le_of_eq rfl) (by decide) (by decide) (by decide) (by decide) (hb hby at_62) ?_
          intro v1891 T1892 L1893 X1894 q1895
          obtain ⟨r1890, rfl, N1896, K1897, hr1898, E1899, F1900, F1901, E1902, F1903, F1904⟩ := q1895
          have N1905 := Fr.app N1889 N1896
          have lt1906 : a1874 < r1890 := Nat.lt_of_lt_of_le A1872.lt hr1898
          have K1907 : Keep h0 T1892.heap [] := K1877.trans K1897 (allS (Or.inr fr1876) all0)
          have Z1908 : n0 ≤ T1892.heap.size := Nat.le_trans Z1880 K1897.1
          show OGoalW p e below s _ _ _ (T1892.setTop (mkF m 65 #[.val (.int p1), .val (.int (1 : Int32)), .val (.int (1 : Int32)), .val (.int (1 : Int32)), .val (.int (1 : Int32)), .val (.ref a1874), .unset, .unset, .unset] [(.ref r1890)]))
          refine OGoalW.mp (S' := (T1892.setTop (mkF m 67 #[.val (.int p1), .val (.int (1 : Int32)), .val (.int (1 : Int32)), .val (.int (1 : Int32)), .val (.int (1 : Int32)), .val (.ref a1874), .val (.ref r1890), .unset, .unset] []))) (fun _ k => XS.astore X1894.here hx rfl (hb hby at_65) rfl rfl (l' := #[.val (.int p1), .val (.int (1 : Int32)), .val (.int (1 : Int32)), .val (.int (1 : Int32)), .val (.int (1 : Int32)), .val (.ref a1874), .val (.ref r1890), .unset, .unset]) rfl k) ?_
          refine OGoalW.mp (S' := (T1892.setTop (mkF m 69 #[.val (.int p1), .val (.int (1 : Int32)), .val (.int (1 : Int32)), .val (.int (1 : Int32)), .val (.int (1 : Int32)), .val (.ref a1874), .val (.ref r1890), .unset, .unset] [(.int (1 : Int32))]))) (fun _ k => XS.iload X1894.here hx rfl (hb hby at_67) rfl k) ?_
          refine OGoalW.mp (S' := (T1892.setTop (mkF m 72 #[.val (.int p1), .val (.int (1 : Int32)), .val (.int (1 : Int32)), .val (.int (1 : Int32)), .val (.int (1 : Int32)), .val (.ref a1874), .val (.ref r1890), .unset, .unset] []))) (fun _ k => XS.ifNo X1894.here hx rfl (hb hby at_69) rfl (XT.i0_eq_f (by decide)) k) ?_
          refine OGoalW.mp (S' := (T1892.setTop (mkF m 74 #[.val (.int p1), .val (.int (1 : Int32)), .val (.int (1 : Int32)), .val (.int (1 : Int32)), .val (.int (1 : Int32)), .val (.ref a1874), .val (.ref r1890), .unset, .unset] [(.ref a1874)]))) (fun _ k => XS.aload X1894.here hx rfl (hb hby at_72) rfl rfl k) ?_
          have nd1910 : dg ≠ a1874 := Nat.ne_of_lt (Nat.lt_of_lt_of_le Adg.lt fr1876)
          refine oCallVS (y := (⟨"com/example/wildsolve/wildsolve/infer/Fresh", "variable", "()Ljava/lang/String;"⟩ : MethodName)) (z := (⟨"com/example/wildsolve/wildsolve/infer/Fresh", "variable", "()Ljava/lang/String;"⟩ : MethodName)) X1894 hx hS0 (Nat.le_trans (Nat.le_trans (Nat.le_trans (Nat.le_of_eq (congrArg Array.size hsh)) E1871.1) K1897.1) (Nat.le_of_eq (congrArg Array.size rfl).symm)) hI hZ hown (hw _ (List.mem_of_getElem? (i := 54) rfl)) (hw _ (List.mem_of_getElem? (i := 55) rfl)) (hw _ (List.mem_of_getElem? (i := 57) rfl)) (hw _ (List.mem_of_getElem? (i := 56) rfl)) (hw _ (List.mem_of_getElem? (i := 2) rfl)) (hw _ (List.mem_of_getElem? (i := 58) rfl)) (by decide) (rmVa l Z a0 hw a1874 T1892.heap n0 Z1908 (1 : Int32) cs hcs (Sta.ext (oKext K1907) Scs) dg (Sta.ext (oKext K1907) Sdg) df (Adg.ext (oKext K1907)) xd hdf hxd nd1910 E1902 F1904 F1903 ab1881 (fun b cl q => K1907.2.1 b cl (hkp b cl q) nin0) hcw hch) rfl E1902 [] [] rfl rfl (by rw [hml]; rfl) (notFace_of_selects (args := #[]) (mvT hZ (hw _ (List.mem_of_getElem? (i := 57) rfl)))) (lenOf own_pd___Ljava_lang_String_ rfl) 0 (Nat.le_of_eq rfl) (by decide) (by decide) (by decide) (by decide) (hb hby at_74) ?_
          intro v1911 T1912 L1913 X1914 hS1916 hg1917 hZ hown q1915
          obtain ⟨r1909, rfl, N1918, K1919, E1920, F1921, F1922⟩ := q1915
          have N1923 := Fr.app N1905 N1918
          have F1924 := E1899.keep K1919
          have F1925 := F1900.keep K1919 (ninS (Nat.ne_of_gt lt1906) nin0)
          have F1926 := F1901.keep K1919 (ninS (Nat.ne_of_gt lt1906) nin0)
          have K1927 : Keep h0 T1912.heap [] := K1907.trans K1919 (allS (Or.inr fr1876) all0)
          have Z1928 : n0 ≤ T1912.heap.size := Nat.le_trans Z1908 K1919.1
          show OGoalW p e below s _ _ _ (T1912.setTop (mkF m 77 #[.val (.int p1), .val (.int (1 : Int32)), .val (.int (1 : Int32)), .val (.int (1 : Int32)), .val (.int (1 : Int32)), .val (.ref a1874), .val (.ref r1890), .unset, .unset] [(.ref r1909)]))
          refine OGoalW.mp (S' := (T1912.setTop (mkF m 78 #[.val (.int p1), .val (.int (1 : Int32)), .val (.int (1 : Int32)), .val (.int (1 : Int32)), .val (.int (1 : Int32)), .val (.ref a1874), .val (.ref r1890), .unset, .unset] []))) (fun _ k => XT.pop X1914.here hx rfl (hb hby at_77) rfl rfl k) ?_
          refine OGoalW.mp (S' := (T1912.setTop (mkF m 80 #[.val (.int p1), .val (.int (1 : Int32)), .val (.int (1 : Int32)), .val (.int (1 : Int32)), .val (.int (1 : Int32)), .val (.ref a1874), .val (.ref r1890), .unset, .unset] [(.ref a1874)]))) (fun _ k => XS.aload X1914.here hx rfl (hb hby at_78) rfl rfl k) ?_
          refine OGoalW.mp (S' := (T1912.setTop (mkF m 81 #[.val (.int p1), .val (.int (1 : Int32)), .val (.int (1 : Int32)), .val (.int (1 : Int32)), .val (.int (1 : Int32)), .val (.ref a1874), .val (.ref r1890), .unset, .unset] [(.int (1 : Int32)), (.ref a1874)]))) (fun _ k => XS.iloadN X1914.here hx rfl (hb hby at_80) rfl k) ?_
          refine oCallSW (y := (⟨"com/example/wildsolve/wildsolve/infer/FreshOrdinaryPinLaw", "step", "(Lcom/example/wildsolve/wildsolve/infer/Fresh;Z)Lcom/example/wildsolve/wildsolve/solver/Placeholder;"⟩ : MethodName)) X1914 hx hZ hown (hw _ (List.mem_of_getElem? (i := 9) rfl)) (hw _ (List.mem_of_getElem? (i := 10) rfl)) (hw _ (List.mem_of_getElem? (i := 11) rfl)) (hw _ (List.mem_of_getElem? (i := 12) rfl)) (by decide) (rmSt1 l Z a0 hw a1874 T1912.heap n0 Z1928 (1 : Int32) (2 : Int32) (1 : Int32) (by decide) E1920 F1921 F1922 ab1881) rfl [(.ref a1874), (.int (1 : Int32))] [] rfl rfl (by rw [hml]; rfl) (lenOf own_pd__Lcom_example_wildsolve_wildsolve_infer_Fresh_Z_Lcom_example_wildsolve_wildsolve_solver_Placeholder_ rfl) 0 (Nat.le_of_eq rfl) (by decide) (by decide) (by decide) (by decide) (hb hby at_81) ?_
          intro v1930 T1931 L1932 X1933 q1934
          obtain ⟨r1929, rfl, N1935, K1936, hr1937, E1938, F1939, F1940, E1941, F1942, F1943⟩ := q1934
          have N1944 := Fr.app N1923 N1935
          have lt1945 : a1874 < r1929 := Nat.lt_of_lt_of_le E1920.lt hr1937
          have F1946 := F1924.keep K1936
          have F1947 := F1925.keep K1936 (ninS (Nat.ne_of_gt lt1906) nin0)
          have F1948 := F1926.keep K1936 (ninS (Nat.ne_of_gt lt1906) nin0)
          have K1949 : Keep h0 T1931.heap [] := K1927.trans K1936 (allS (Or.inr fr1876) all0)
          have Z1950 : n0 ≤ T1931.heap.size := Nat.le_trans Z1928 K1936.1
          show OGoalW p e below s _ _ _ (T1931.setTop (mkF m 84 #[.val (.int p1), .val (.int (1 : Int32)), .val (.int (1 : Int32)), .val (.int (1 : Int32)), .val (.int (1 : Int32)), .val (.ref a1874), .val (.ref r1890), .unset, .unset] [(.ref r1929)]))
          refine OGoalW.mp (S' := (T1931.setTop (mkF m 86 #[.val (.int p1), .val (.int (1 : Int32)), .val (.int (1 : Int32)), .val (.int (1 : Int32)), .val (.int (1 : Int32)), .val (.ref a1874), .val (.ref r1890), .val (.ref r1929), .unset] []))) (fun _ k => XS.astore X1933.here hx rfl (hb hby at_84) rfl rfl (l' := #[.val (.int p1), .val (.int (1 : Int32)), .val (.int (1 : Int32)), .val (.int (1 : Int32)), .val (.int (1 : Int32)), .val (.ref a1874), .val (.ref r1890), .val (.ref r1929), .unset]) rfl k) ?_
          refine OGoalW.mp (S' := (T1931.setTop (mkF m 88 #[.val (.int p1), .val (.int (1 : Int32)), .val (.int (1 : Int32)), .val (.int (1 : Int32)), .val (.int (1 : Int32)), .val (.ref a1874), .val (.ref r1890), .val (.ref r1929), .unset] [(.ref a1874)]))) (fun _ k => XS.aload X1933.here hx rfl (hb hby at_86) rfl rfl k) ?_
          refine OGoalW.mp (S' := (T1931.setTop (mkF m 89 #[.val (.int p1), .val (.int (1 : Int32)), .val (.int (1 : Int32)), .val (.int (1 : Int32)), .val (.int (1 : Int32)), .val (.ref a1874), .val (.ref r1890), .val (.ref r1929), .unset] [(.int (1 : Int32)), (.ref a1874)]))) (fun _ k => XS.iloadN X1933.here hx rfl (hb hby at_88) rfl k) ?_
          refine oCallSW (y := (⟨"com/example/wildsolve/wildsolve/infer/FreshOrdinaryPinLaw", "step", "(Lcom/example/wildsolve/wildsolve/infer/Fresh;Z)Lcom/example/wildsolve/wildsolve/solver/Placeholder;"⟩ : MethodName)) X1933 hx hZ hown (hw _ (List.mem_of_getElem? (i := 9) rfl)) (hw _ (List.mem_of_getElem? (i := 10) rfl)) (hw _ (List.mem_of_getElem? (i := 11) rfl)) (hw _ (List.mem_of_getElem? (i := 12) rfl)) (by decide) (rmSt1 l Z a0 hw a1874 T1931.heap n0 Z1950 (2 : Int32) (3 : Int32) (1 : Int32) (by decide) E1941 F1942 F1943 ab1881) rfl [(.ref a1874), (.int (1 : Int32))] [] rfl rfl (by rw [hml]; rfl) (lenOf own_pd__Lcom_example_wildsolve_wildsolve_infer_Fresh_Z_Lcom_example_wildsolve_wildsolve_solver_Placeholder_ rfl) 0 (Nat.le_of_eq rfl) (by decide) (by decide) (by decide) (by decide) (hb hby at_89) ?_
          intro v1952 T1953 L1954 X1955 q1956
          obtain ⟨r1951, rfl, N1957, K1958, hr1959, E1960, F1961, F1962, E1963, F1964, F1965⟩ := q1956
          have N1966 := Fr.app N1944 N1957
          have lt1967 : a1874 < r1951 := Nat.lt_of_lt_of_le E1941.lt hr1959
          have F1968 := F1946.keep K1958
          have F1969 := F1947.keep K1958 (ninS (Nat.ne_of_gt lt1906) nin0)
          have F1970 := F1948.keep K1958 (ninS (Nat.ne_of_gt lt1906) nin0)
          have F1971 := E1938.keep K1958
          have F1972 := F1939.keep K1958 (ninS (Nat.ne_of_gt lt1945) nin0)
          have F1973 := F1940.keep K1958 (ninS (Nat.ne_of_gt lt1945) nin0)
          have K1974 : Keep h0 T1953.heap [] := K1949.trans K1958 (allS (Or.inr fr1876) all0)
          have Z1975 : n0 ≤ T1953.heap.size := Nat.le_trans Z1950 K1958.1
          show OGoalW p e below s _ _ _ (T1953.setTop (mkF m 92 #[.val (.int p1), .val (.int (1 : Int32)), .val (.int (1 : Int32)), .val (.int (1 : Int32)), .val (.int (1 : Int32)), .val (.ref a1874), .val (.ref r1890), .val (.ref r1929), .unset] [(.ref r1951)]))
          refine OGoalW.mp (S' := (T1953.setTop (mkF m 94 #[.val (.int p1), .val (.int (1 : Int32)), .val (.int (1 : Int32)), .val (.int (1 : Int32)), .val (.int (1 : Int32)), .val (.ref a1874), .val (.ref r1890), .val (.ref r1929), .val (.ref r1951)] []))) (fun _ k => XS.astore X1955.here hx rfl (hb hby at_92) rfl rfl (l' := #[.val (.int p1), .val (.int (1 : Int32)), .val (.int (1 : Int32)), .val (.int (1 : Int32)), .val (.int (1 : Int32)), .val (.ref a1874), .val (.ref r1890), .val (.ref r1929), .val (.ref r1951)]) rfl k) ?_
          refine OGoalW.mp (S' := (T1953.setTop (mkF m 96 #[.val (.int p1), .val (.int (1 : Int32)), .val (.int (1 : Int32)), .val (.int (1 : Int32)), .val (.int (1 : Int32)), .val (.ref a1874), .val (.ref r1890), .val (.ref r1929), .val (.ref r1951)] [(.ref r1890)]))) (fun _ k => XS.aload X1955.here hx rfl (hb hby at_94) rfl rfl k) ?_
          refine OGoalW.mp (S' := (T1953.setTop (mkF m 97 #[.val (.int p1), .val (.int (1 : Int32)), .val (.int (1 : Int32)), .val (.int (1 : Int32)), .val (.int (1 : Int32)), .val (.ref a1874), .val (.ref r1890), .val (.ref r1929), .val (.ref r1951)] [(.int (1 : Int32)), (.ref r1890)]))) (fun _ k => XS.iconst X1955.here hx rfl (hb hby at_96) k) ?_
          refine OGoalW.mp (S' := (T1953.setTop (mkF m 98 #[.val (.int p1), .val (.int (1 : Int32)), .val (.int (1 : Int32)), .val (.int (1 : Int32)), .val (.int (1 : Int32)), .val (.ref a1874), .val (.ref r1890), .val (.ref r1929), .val (.ref r1951)] [(.int (1 : Int32)), (.int (1 : Int32)), (.ref r1890)]))) (fun _ k => XS.iloadN X1955.here hx rfl (hb hby at_97) rfl k) ?_
          refine oCallSW (y := (⟨"com/example/wildsolve/wildsolve/infer/FreshOrdinaryPinLaw", "check", "(Lcom/example/wildsolve/wildsolve/solver/Placeholder;IZ)Z"⟩ : MethodName)) X1955 hx hZ hown (hw _ (List.mem_of_getElem? (i := 36) rfl)) (hw _ (List.mem_of_getElem? (i := 37) rfl)) (hw _ (List.mem_of_getElem? (i := 11) rfl)) (hw _ (List.mem_of_getElem? (i := 38) rfl)) (by decide) (rmCk11 l Z a0 hw r1890 T1953.heap n0 Z1975 F1968 F1969 F1970) rfl [(.ref r1890), (.int (1 : Int32)), (.int (1 : Int32))] [] rfl rfl (by rw [hml]; rfl) (lenOf own_pd__Lcom_example_wildsolve_wildsolve_solver_Placeholder_IZ_Z rfl) 0 (Nat.le_of_eq rfl) (by decide) (by decide) (by decide) (by decide) (hb hby at_98) ?_
          intro v1976 T1977 L1978 X1979 q1980
          obtain ⟨rfl, N1981, e1982⟩ := q1980
          have N1983 := Fr.app N1966 N1981
          show OGoalW p e below s _ _ _ (T1977.setTop (mkF m 101 #[.val (.int p1), .val (.int (1 : Int32)), .val (.int (1 : Int32)), .val (.int (1 : Int32)), .val (.int (1 : Int32)), .val (.ref a1874), .val (.ref r1890), .val (.ref r1929), .val (.ref r1951)] [(.int (1 : Int32))]))
          refine OGoalW.mp (S' := (T1977.setTop (mkF m 104 #[.val (.int p1), .val (.int (1 : Int32)), .val (.int (1 : Int32)), .val (.int (1 : Int32)), .val (.int (1 : Int32)), .val (.ref a1874), .val (.ref r1890), .val (.ref r1929), .val (.ref r1951)] []))) (fun _ k => XS.ifNo X1979.here hx rfl (hb hby at_101) rfl (XT.i0_eq_f (by decide)) k) ?_
          refine OGoalW.mp (S' := (T1977.setTop (mkF m 106 #[.val (.int p1), .val (.int (1 : Int32)), .val (.int (1 : Int32)), .val (.int (1 : Int32)), .val (.int (1 : Int32)), .val (.ref a1874), .val (.ref r1890), .val (.ref r1929), .val (.ref r1951)] [(.ref r1929)]))) (fun _ k => XS.aload X1979.here hx rfl (hb hby at_104) rfl rfl k) ?_
          refine OGoalW.mp (S' := (T1977.setTop (mkF m 107 #[.val (.int p1), .val (.int (1 : Int32)), .val (.int (1 : Int32)), .val (.int (1 : Int32)), .val (.int (1 : Int32)), .val (.ref a1874), .val (.ref r1890), .val (.ref r1929), .val (.ref r1951)] [(.int (2 : Int32)), (.ref r1929)]))) (fun _ k => XS.iconst X1979.here hx rfl (hb hby at_106) k) ?_
          refine OGoalW.mp (S' := (T1977.setTop (mkF m 108 #[.val (.int p1), .val (.int (1 : Int32)), .val (.int (1 : Int32)), .val (.int (1 : Int32)), .val (.int (1 : Int32)), .val (.ref a1874), .val (.ref r1890), .val (.ref r1929), .val (.ref r1951)] [(.int (1 : Int32)), (.int (2 : Int32)), (.ref r1929)]))) (fun _ k => XS.iloadN X1979.here hx rfl (hb hby at_107) rfl k) ?_
          refine oCallSW (y := (⟨"com/example/wildsolve/wildsolve/infer/FreshOrdinaryPinLaw", "check", "(Lcom/example/wildsolve/wildsolve/solver/Placeholder;IZ)Z"⟩ : MethodName)) X1979 hx hZ hown (hw _ (List.mem_of_getElem? (i := 36) rfl)) (hw _ (List.mem_of_getElem? (i := 37) rfl)) (hw _ (List.mem_of_getElem? (i := 11) rfl)) (hw _ (List.mem_of_getElem? (i := 38) rfl)) (by decide) (rmCk21 l Z a0 hw r1929 T1953.heap n0 Z1975 F1971 F1972 F1973) e1982 [(.ref r1929), (.int (2 : Int32)), (.int (1 : Int32))] [] rfl rfl (by rw [hml]; rfl) (lenOf own_pd__Lcom_example_wildsolve_wildsolve_solver_Placeholder_IZ_Z rfl) 0 (Nat.le_of_eq rfl) (by decide) (by decide) (by decide) (by decide) (hb hby at_108) ?_
          intro v1984 T1985 L1986 X1987 q1988
          obtain ⟨rfl, N1989, e1990⟩ := q1988
          have N1991 := Fr.app N1983 N1989
          show OGoalW p e below s _ _ _ (T1985.setTop (mkF m 111 #[.val (.int p1), .val (.int (1 : Int32)), .val (.int (1 : Int32)), .val (.int (1 : Int32)), .val (.int (1 : Int32)), .val (.ref a1874), .val (.ref r1890), .val (.ref r1929), .val (.ref r1951)] [(.int (1 : Int32))]))
          refine OGoalW.mp (S' := (T1985.setTop (mkF m 114 #[.val (.int p1), .val (.int (1 : Int32)), .val (.int (1 : Int32)), .val (.int (1 : Int32)), .val (.int (1 : Int32)), .val (.ref a1874), .val (.ref r1890), .val (.ref r1929), .val (.ref r1951)] []))) (fun _ k => XS.ifNo X1987.here hx rfl (hb hby at_111) rfl (XT.i0_eq_f (by decide)) k) ?_
          refine OGoalW.mp (S' := (T1985.setTop (mkF m 116 #[.val (.int p1), .val (.int (1 : Int32)), .val (.int (1 : Int32)), .val (.int (1 : Int32)), .val (.int (1 : Int32)), .val (.ref a1874), .val (.ref r1890), .val (.ref r1929), .val (.ref r1951)] [(.ref r1951)]))) (fun _ k => XS.aload X1987.here hx rfl (hb hby at_114) rfl rfl k) ?_
          refine OGoalW.mp (S' := (T1985.setTop (mkF m 117 #[.val (.int p1), .val (.int (1 : Int32)), .val (.int (1 : Int32)), .val (.int (1 : Int32)), .val (.int (1 : Int32)), .val (.ref a1874), .val (.ref r1890), .val (.ref r1929), .val (.ref r1951)] [(.int (3 : Int32)), (.ref r1951)]))) (fun _ k => XS.iconst X1987.here hx rfl (hb hby at_116) k) ?_
          refine OGoalW.mp (S' := (T1985.setTop (mkF m 118 #[.val (.int p1), .val (.int (1 : Int32)), .val (.int (1 : Int32)), .val (.int (1 : Int32)), .val (.int (1 : Int32)), .val (.ref a1874), .val (.ref r1890), .val (.ref r1929), .val (.ref r1951)] [(.int (1 : Int32)), (.int (3 : Int32)), (.ref r1951)]))) (fun _ k => XS.iloadN X1987.here hx rfl (hb hby at_117) rfl k) ?_
          refine oCallSW (y := (⟨"com/example/wildsolve/wildsolve/infer/FreshOrdinaryPinLaw", "check", "(Lcom/example/wildsolve/wildsolve/solver/Placeholder;IZ)Z"⟩ : MethodName)) X1987 hx hZ hown (hw _ (List.mem_of_getElem? (i := 36) rfl)) (hw _ (List.mem_of_getElem? (i := 37) rfl)) (hw _ (List.mem_of_getElem? (i := 11) rfl)) (hw _ (List.mem_of_getElem? (i := 38) rfl)) (by decide) (rmCk31 l Z a0 hw r1951 T1953.heap n0 Z1975 E1960 F1961 F1962) e1990 [(.ref r1951), (.int (3 : Int32)), (.int (1 : Int32))] [] rfl rfl (by rw [hml]; rfl) (lenOf own_pd__Lcom_example_wildsolve_wildsolve_solver_Placeholder_IZ_Z rfl) 0 (Nat.le_of_eq rfl) (by decide) (by decide) (by decide) (by decide) (hb hby at_118) ?_
          intro v1992 T1993 L1994 X1995 q1996
          obtain ⟨rfl, N1997, e1998⟩ := q1996
          have N1999 := Fr.app N1991 N1997
          show OGoalW p e below s _ _ _ (T1993.setTop (mkF m 121 #[.val (.int p1), .val (.int (1 : Int32)), .val (.int (1 : Int32)), .val (.int (1 : Int32)), .val (.int (1 : Int32)), .val (.ref a1874), .val (.ref r1890), .val (.ref r1929), .val (.ref r1951)] [(.int (1 : Int32))]))
          refine OGoalW.mp (S' := (T1993.setTop (mkF m 124 #[.val (.int p1), .val (.int (1 : Int32)), .val (.int (1 : Int32)), .val (.int (1 : Int32)), .val (.int (1 : Int32)), .val (.ref a1874), .val (.ref r1890), .val (.ref r1929), .val (.ref r1951)] []))) (fun _ k => XS.ifNo X1995.here hx rfl (hb hby at_121) rfl (XT.i0_eq_f (by decide)) k) ?_
          refine OGoalW.mp (S' := (T1993.setTop (mkF m 125 #[.val (.int p1), .val (.int (1 : Int32)), .val (.int (1 : Int32)), .val (.int (1 : Int32)), .val (.int (1 : Int32)), .val (.ref a1874), .val (.ref r1890), .val (.ref r1929), .val (.ref r1951)] [(.int (1 : Int32))]))) (fun _ k => XS.iconst X1995.here hx rfl (hb hby at_124) k) ?_
          refine OGoalW.mp (S' := (T1993.setTop (mkF m 129 #[.val (.int p1), .val (.int (1 : Int32)), .val (.int (1 : Int32)), .val (.int (1 : Int32)), .val (.int (1 : Int32)), .val (.ref a1874), .val (.ref r1890), .val (.ref r1929), .val (.ref r1951)] [(.int (1 : Int32))]))) (fun _ k => XS.goto X1995.here hx rfl (pc0 := 125) (pc' := 129) rfl (hb hby at_125) (by decide) (by decide) k) ?_
          refine oRetZW X1995 hS1916 (Nat.le_trans (Nat.le_trans (Nat.le_trans (Nat.le_refl _) K1936.1) K1958.1) (Nat.le_of_eq (congrArg Array.size e1998).symm)) hx hlk hret (Or.inr rfl) (hb hby at_129) ?_ (by decide) (by decide)
          exact ⟨rfl, N1999⟩
theorem own_dig0 {args : Array Value} {s : State} {t : Term} {a : Addr} (wa : (Jvm.Cond.arrayClass .byte).before args s = true) (ev : t.eval args s none [] s = some (.ref a)) (hE : (Jvm.Cond.exactly t "[B").value args s none s [] = some true) (hL : (Jvm.Cond.eq (.length t) (.int 100)).value args s none s [] = some true) :
    ∃ (cl : Cell), Arr s s.heap a cl .byte ∧ cl.slots.size = 100 := by
  obtain ⟨cell, k, h1, h2, h3, h4, -⟩ := Exa.start ev hE
  obtain ⟨comp2, kC, cc, hcomp2, hkC, hkindC⟩ := Cond.arrayClass_spec wa
  have e1 : comp2 = cell.cls := Option.some.inj ((show s.vm.findClass "[B" = some comp2 from hcomp2).symm.trans h2)
  subst e1
  obtain ⟨x, q1, q2⟩ := oEqv hL
  cases (Term.int_eval (100)).symm.trans q2
  cases hq : s.arrayAt? a with
  | none => simp [Term.eval, ev, hq] at q1
  | some cl =>
    have hu : cell.vm ≠ .unknown ∧ cl = cell := by
      unfold State.arrayAt? at hq
      simp only [h1, hkC, hkindC, Option.bind_eq_bind, Option.bind_some] at hq
      split at hq
      · cases hq
      · rename_i hn; cases hq; exact ⟨fun q => hn (Or.inl q), rfl⟩
    obtain ⟨hu, rfl⟩ := hu
    simp [Term.eval, ev, hq] at q1
    refine ⟨cl, ⟨h1, ⟨fun q e => (by rw [e] at h4; cases h4), kC, hkC, cc, hkindC⟩, hu⟩, ?_⟩
    obtain ⟨r1, r2⟩ := q1
    have r3 : (cl.slots.size.toInt32).toInt = cl.slots.size := Int32.toInt_ofNat_small r1
    have r4 : (cl.slots.size.toInt32).toInt = 100 := by rw [r2]; decide
    omega
theorem own_dig {args : Array Value} {s : State} {t : Term} {a : Addr} (hfit : Fit s) (wa : (Jvm.Cond.arrayClass .byte).before args s = true) (ev : t.eval args s none [] s = some (.ref a)) (hE : (Jvm.Cond.exactly t "[B").value args s none s [] = some true) (hL : (Jvm.Cond.eq (.length t) (.int 100)).value args s none s [] = some true) :
    ∃ (df : Nat → Value) (xd : Int32), OArr s s.heap a .byte 100 df ∧ df (1 : Int32).toNatClampNeg = .int xd ∧ -128 ≤ xd.toInt ∧ xd.toInt < 128 := by
  obtain ⟨cl, A, hsz⟩ := own_dig0 wa ev hE hL
  obtain ⟨w, g1, g2⟩ := elem_fit (j := 1) hfit A (by rw [hsz]; decide)
  cases w with
  | int xd =>
    refine ⟨fun i => cl.slots.getD i .null, xd, ⟨cl, A, by rw [hsz]; rfl, by decide, fun i hi => by simp [Array.getD, hi]⟩, ?_, ?_⟩
    · show cl.slots.getD (1 : Int32).toNatClampNeg .null = .int xd
      rw [Array.getD_eq_getD_getElem?, g1]; rfl
    · simp only [fits, Bool.and_eq_true, decide_eq_true_eq, Int32.le_iff_toInt_le, show (-128 : Int32).toInt = -128 by decide, show (127 : Int32).toInt = 127 by decide] at g2
      omega
  | _ => simp [fits] at g2
set_option maxRecDepth 65536 in
set_option maxHeartbeats 40000000 in
theorem comes_1 {Post : Tables → Env → Array Value → State → Outcome → State → Prop} (hpost : ∀ tb e args s v u, (limb_1_1.after args s (.returned v) u = true ∧ limb_1_2.after args s (.returned v) u = true ∧ True) → ReturnedEndW s (.returned v) u (Jvm.fieldLocs frame_1_writes args s ++ Jvm.arrayLocs frame_1_arrays args s ++ Jvm.staticLocs frame_1_statics s) 32 1216 → Post tb e args s (.returned v) u) :
    ArmFor flags0 classFile x code maxLocals ret World_1 tables_1 room_1 Calls_1 rest_1 Pre_1 Post := by
  intro l hfl _ _ p e ha hc hk s m args below hf hA hF happ hP
  obtain ⟨hcalls, hrest, hpre⟩ := hP
  obtain ⟨-, -, -, hnamed, -, -, -, hat⟩ := (Spec.applies_iff hf).mp happ
  obtain ⟨hg, hn⟩ := and_e (Cond.before_iff.mp (show (Jvm.Cond.and given_1 narrow_1).before args s = true from hpre))
  obtain ⟨hcnt, hg⟩ := and_e hg
  obtain ⟨w0, rfl⟩ : ∃ w0 : Value, args = #[w0] := by
    have hs : args.size = 1 := by simpa [Cond.value, given_1] using hcnt
    obtain ⟨L⟩ := args
    match L, hs with
    | [w0], _ => exact ⟨w0, rfl⟩
  have hw := fun d (hd : d ∈ tables_1) => atoms_spec (ws := Jvm.Cond.code x code maxLocals ret :: tables_1) hat d (List.mem_cons_of_mem _ hd)
  have hfit : Fit s := fun {y c} hc i hi => by
    obtain ⟨ha, rfl⟩ := Array.getElem?_eq_some_iff.mp hc
    have q := List.all_eq_true.mp ((Array.all_eq_true_iff_forall_mem.mp hF) _ (Array.getElem_mem ha)) i (List.mem_range.mpr hi)
    simpa [Array.getElem?_eq_getElem hi] using q
  obtain ⟨i0, ei0⟩ := is_v hg
  obtain rfl : w0 = (.int i0) := Option.some.inj ei0
  have hr := Cond.before_iff.mp (show rest_1_c.before _ s = true from hrest)
  obtain ⟨rest_0, hr⟩ := and_e hr
  obtain ⟨rest_1i, hr⟩ := and_e hr
  obtain ⟨rest_2, hr⟩ := and_e hr
  obtain ⟨-, hr⟩ := and_e hr
  obtain ⟨-, hr⟩ := and_e hr
  obtain ⟨-, hr⟩ := and_e hr
  obtain ⟨-, hr⟩ := and_e hr
  obtain ⟨-, hr⟩ := and_e hr
  obtain ⟨-, hr⟩ := and_e hr
  obtain ⟨-, hr⟩ := and_e hr
  obtain ⟨-, hr⟩ := and_e hr
  obtain ⟨rest_11, hr⟩ := and_e hr
  obtain ⟨rest_12, hr⟩ := and_e hr
  obtain ⟨rest_13, hr⟩ := and_e hr
  obtain ⟨cs, ecs⟩ := is_v rest_1i
  have hcs : ¬ cs = 0 := fun q => oNot rest_2 (eq_i ecs (Term.int_eval (0)) (by rw [q]))
  obtain ⟨dg, edg⟩ := exa_v rest_12
  obtain ⟨df, xd, Adg, hdf, hxd⟩ := own_dig hfit (hw _ (List.mem_of_getElem? (i := 74) rfl)) edg rest_12 rest_13
  have Scs := Sta.start ecs (Or.inl (Cond.before_iff.mpr rest_0))
  have Sdg := Sta.start edg (Or.inl (Cond.before_iff.mpr rest_11))
  have hcw : Jvm.Lit.compactW.before _ s = true := Cond.before_iff.mpr rest_2
  have hch : Jvm.Lit.constHeld s "com/example/wildsolve/wildsolve/infer/Fresh" 21 := hcalls.1 ("com/example/wildsolve/wildsolve/infer/Fresh", 21) (by simp [consts_1])
  obtain ⟨n, o, h1, h2, h3, _, L, rfl, ⟨rfl, N⟩, hq⟩ := rm0 l s _ hw i0 s.heap s.heap.size (Nat.le_refl _) cs hcs Scs dg Sdg df Adg xd hdf hxd (fun b cl q => q) hcw hch tables_1 p e ha hc hk s m _ below hf ((Spec.applies_iff_loose hf).mp happ).1 ⟨rfl, State.Warmed39.refl s, rfl, rfl⟩ trivial
  refine ⟨n, _, h1, h2, h3, hpost _ _ _ _ _ _ ⟨Cond.after_iff.mpr rfl, Cond.after_iff.mpr (eq_i res_at (Term.int_eval (1)) rfl), trivial⟩ ⟨hq.1, hq.2.1, hq.2.2.1, (hq.2.2.2.sift fun y hy => Or.inr (N y hy)).mono (by decide) (by decide)⟩⟩
theorem main_1_1 : Claimed_1_1 := comes_1 fun _ _ _ _ _ _ h hF => ⟨h.1, hF⟩
theorem main_1_2 : Claimed_1_2 := comes_1 fun _ _ _ _ _ _ h hF => ⟨h.2.1, hF⟩
end Jvm.Pilot.@@N@@
namespace Jvm.Pilot.@@N@@
open Jvm Jvm.ClassFile Sem Op Lib Jvm.Free Jvm.Stand Jvm.Pilot.@@N@@.Jvm.D
/-! MADE BY PROGRAM (witnessworld.py) out of the Statement's table words and the real class files: 28 classes; the members and pool entries that the words name. The judged class is class 1, her method 1. -/
namespace start1
open Jvm.ClassFile
def u (s : String) : CpInfo := .utf8 (stringToUtf16 s)
/-- a pool by its gaps: so many unusable entries, then the entry; so many at the end -/
def gap : Nat → List CpInfo → List CpInfo
  | 0, r => r
  | n + 1, r => .unusable :: gap n r
def poolList (es : List (Nat × CpInfo)) (last : Nat) : List CpInfo := es.foldr (fun e r => gap e.1 (e.2 :: r)) (gap last [])
def pool (es : List (Nat × CpInfo)) (last : Nat) : Array CpInfo := ⟨poolList es last⟩
def fileOf (pool : Array CpInfo) (this : Nat) (attrs : Array Attribute := #[]) (ms : Array MethodInfo := #[]) (fl : Nat := 33) (sup : Nat := 0) (ifs : Array Nat := #[]) (fds : Array FieldInfo := #[]) : ClassFile where
  minorVersion := 0
  majorVersion := 65
  constantPool := pool
  accessFlags := fl
  thisClass := this
  superClass := sup
  interfaces := ifs
  fields := fds
  methods := ms
  attributes := attrs
def plain (name : String) (sup : Option ClassId) : Class where
  name := name
  kind := .ordinary
  loader := none
  accessFlags := 33
  super := sup
  interfaces := #[]
  cf := none
  fields := #[]
  methods := #[]
  instanceTypes := #[]
  staticTypes := #[]
  resolved := #[]
  callSites := []
  init := .initialized
  statics := none
  mirror := none

def pool0 : Array CpInfo := pool [(5, u "<init>"), (0, u "()V"), (1, .class_ 10), (1, u "java/lang/Object")] 113

def k0c0 : Code := { maxStack := 0, maxLocals := 1, code := object_method_1_code, exceptionTable := #[], attributes := #[] }
def k0m0 : Method := { name := "<init>", desc := "()V", sig := { parameters := [], returnType := none }, accessFlags := 1, code := some k0c0 }
/-- java/lang/Object -/
def k0 : Class := { plain "java/lang/Object" none with
  accessFlags := 33
  interfaces := #[]
  cf := some (fileOf pool0 8 #[] #[{ accessFlags := 1, nameIndex := 5, descriptorIndex := 6, attributes := #[] }] 33 0 #[] #[])
  fields := #[]
  methods := #[k0m0]
  instanceTypes := #[]
  staticTypes := #[]
  resolved := Array.replicate 124 none
  statics := none }

def pool1 : Array CpInfo := pool [(2, .class_ 4), (0, .nameAndType 5 6), (0, u "java/lang/Object"), (0, u "<init>"), (0, u "()V"), (0, .class_ 8), (0, u "com/example/wildsolve/wildsolve/infer/Fresh"), (0, .methodref 7 3), (0, .methodref 11 12), (0, .class_ 13), (0, .nameAndType 14 15), (0, u "com/example/wildsolve/wildsolve/infer/FreshOrdinaryPinLaw"), (0, u "step"), (0, u "(Lcom/example/wildsolve/wildsolve/infer/Fresh;Z)Lcom/example/wildsolve/wildsolve/solver/Placeholder;"), (0, .methodref 7 17), (0, .nameAndType 18 19), (0, u "variable"), (0, u "()Ljava/lang/String;"), (0, .methodref 11 21), (0, .nameAndType 22 23), (0, u "check"), (0, u "(Lcom/example/wildsolve/wildsolve/solver/Placeholder;IZ)Z"), (0, .methodref 7 25), (0, .nameAndType 26 27), (0, u "ordinary"), (0, u "()Lcom/example/wildsolve/wildsolve/solver/Placeholder;"), (0, .methodref 7 29), (0, .nameAndType 30 27), (0, u "wildcard"), (0, .methodref 32 33), (0, .class_ 34), (0, .nameAndType 35 36), (0, u "com/example/wildsolve/wildsolve/solver/Placeholder"), (0, u "id"), (0, u "()I"), (0, .methodref 32 38), (0, .nameAndType 30 39), (0, u "()Z"), (2, u "law"), (0, u "(I)Z")] 3

def k1m0 : Method := { name := "<init>", desc := "()V", sig := { parameters := [], returnType := none }, accessFlags := 2, code := none }
def k1c1 : Code := { maxStack := 3, maxLocals := 9, code := code, exceptionTable := #[], attributes := #[] }
def k1m1 : Method := { name := "law", desc := "(I)Z", sig := { parameters := [.int], returnType := some .boolean }, accessFlags := 9, code := some k1c1 }
def k1c2 : Code := { maxStack := 1, maxLocals := 2, code := method_3_code, exceptionTable := #[], attributes := #[] }
def k1m2 : Method := { name := "step", desc := "(Lcom/example/wildsolve/wildsolve/infer/Fresh;Z)Lcom/example/wildsolve/wildsolve/solver/Placeholder;", sig := { parameters := [(.object "com/example/wildsolve/wildsolve/infer/Fresh"), .boolean], returnType := some (.object "com/example/wildsolve/wildsolve/solver/Placeholder") }, accessFlags := 10, code := some k1c2 }
def k1c3 : Code := { maxStack := 2, maxLocals := 3, code := method_4_code, exceptionTable := #[], attributes := #[] }
def k1m3 : Method := { name := "check", desc := "(Lcom/example/wildsolve/wildsolve/solver/Placeholder;IZ)Z", sig := { parameters := [(.object "com/example/wildsolve/wildsolve/solver/Placeholder"), .int, .boolean], returnType := some .boolean }, accessFlags := 10, code := some k1c3 }
/-- com/example/wildsolve/wildsolve/infer/FreshOrdinaryPinLaw -/
def k1 : Class := { plain "com/example/wildsolve/wildsolve/infer/FreshOrdinaryPinLaw" (some 0) with
  accessFlags := 49
  interfaces := #[]
  cf := some (fileOf pool1 11 #[] #[{ accessFlags := 2, nameIndex := 5, descriptorIndex := 6, attributes := #[] }, { accessFlags := 9, nameIndex := 42, descriptorIndex := 43, attributes := #[] }, { accessFlags := 10, nameIndex := 14, descriptorIndex := 15, attributes := #[] }, { accessFlags := 10, nameIndex := 22, descriptorIndex := 23, attributes := #[] }] 49 2 #[] #[])
  fields := #[]
  methods := #[k1m0, k1m1, k1m2, k1m3]
  instanceTypes := #[]
  staticTypes := #[]
  resolved := Array.replicate 47 none
  statics := none }

def pool2 : Array CpInfo := pool [(1, .methodref 2 3), (0, .class_ 4), (0, .nameAndType 5 6), (0, u "java/lang/Object"), (0, u "<init>"), (0, u "()V"), (0, .class_ 8), (0, u "com/example/wildsolve/wildsolve/solver/Placeholder"), (0, .fieldref 10 11), (0, .class_ 12), (0, .nameAndType 13 14), (0, u "com/example/wildsolve/wildsolve/infer/Fresh"), (0, u "placeholders"), (0, u "I"), (0, .methodref 7 16), (0, .nameAndType 5 17), (0, u "(IZ)V"), (0, .class_ 19), (0, u "java/lang/StringBuilder"), (0, .methodref 18 3), (0, .string 22), (0, u "#"), (0, .methodref 18 24), (0, .nameAndType 25 26), (0, u "append"), (0, u "(Ljava/lang/String;)Ljava/lang/StringBuilder;"), (0, .fieldref 10 28), (0, .nameAndType 29 14), (0, u "variables"), (0, .methodref 18 31), (0, .nameAndType 25 32), (0, u "(I)Ljava/lang/StringBuilder;"), (0, .methodref 18 34), (0, .nameAndType 35 36), (0, u "toString"), (0, u "()Ljava/lang/String;"), (2, u "ordinary"), (0, u "()Lcom/example/wildsolve/wildsolve/solver/Placeholder;"), (0, u "wildcard"), (0, u "variable")] 2

def k2c0 : Code := { maxStack := 1, maxLocals := 1, code := prog_22_method_1_code, exceptionTable := #[], attributes := #[] }
def k2m0 : Method := { name := "<init>", desc := "()V", sig := { parameters := [], returnType := none }, accessFlags := 0, code := some k2c0 }
def k2c1 : Code := { maxStack := 5, maxLocals := 1, code := prog_22_method_2_code, exceptionTable := #[], attributes := #[] }
def k2m1 : Method := { name := "ordinary", desc := "()Lcom/example/wildsolve/wildsolve/solver/Placeholder;", sig := { parameters := [], returnType := some (.object "com/example/wildsolve/wildsolve/solver/Placeholder") }, accessFlags := 0, code := some k2c1 }
def k2c2 : Code := { maxStack := 5, maxLocals := 1, code := prog_22_method_3_code, exceptionTable := #[], attributes := #[] }
def k2m2 : Method := { name := "wildcard", desc := "()Lcom/example/wildsolve/wildsolve/solver/Placeholder;", sig := { parameters := [], returnType := some (.object "com/example/wildsolve/wildsolve/solver/Placeholder") }, accessFlags := 0, code := some k2c2 }
def k2c3 : Code := { maxStack := 4, maxLocals := 1, code := prog_22_method_4_code, exceptionTable := #[], attributes := #[] }
def k2m3 : Method := { name := "variable", desc := "()Ljava/lang/String;", sig := { parameters := [], returnType := some (.object "java/lang/String") }, accessFlags := 0, code := some k2c3 }
/-- com/example/wildsolve/wildsolve/infer/Fresh -/
def k2 : Class := { plain "com/example/wildsolve/wildsolve/infer/Fresh" (some 0) with
  accessFlags := 48
  interfaces := #[]
  cf := some (fileOf pool2 10 #[] #[{ accessFlags := 0, nameIndex := 5, descriptorIndex := 6, attributes := #[] }, { accessFlags := 0, nameIndex := 39, descriptorIndex := 40, attributes := #[] }, { accessFlags := 0, nameIndex := 41, descriptorIndex := 40, attributes := #[] }, { accessFlags := 0, nameIndex := 42, descriptorIndex := 36, attributes := #[] }] 48 2 #[] #[{ accessFlags := 2, nameIndex := 13, descriptorIndex := 14, attributes := #[] }, { accessFlags := 2, nameIndex := 29, descriptorIndex := 14, attributes := #[] }])
  fields := #[{ name := "placeholders", type := .int, accessFlags := 2, slot := 0, constantValue := 0 }, { name := "variables", type := .int, accessFlags := 2, slot := 1, constantValue := 0 }]
  methods := #[k2m0, k2m1, k2m2, k2m3]
  instanceTypes := #[.int, .int]
  staticTypes := #[]
  resolved := Array.replicate 45 none
  statics := none }

def pool3 : Array CpInfo := pool [(1, .methodref 2 3), (0, .class_ 4), (0, .nameAndType 5 6), (0, u "java/lang/Object"), (0, u "<init>"), (0, u "()V"), (0, .class_ 8), (0, u "java/lang/Record")] 13

def k3c0 : Code := { maxStack := 1, maxLocals := 1, code := jdk_30_method_1_code, exceptionTable := #[], attributes := #[] }
def k3m0 : Method := { name := "<init>", desc := "()V", sig := { parameters := [], returnType := none }, accessFlags := 4, code := some k3c0 }
/-- java/lang/Record -/
def k3 : Class := { plain "java/lang/Record" (some 0) with
  accessFlags := 1057
  interfaces := #[]
  cf := some (fileOf pool3 7 #[] #[{ accessFlags := 4, nameIndex := 5, descriptorIndex := 6, attributes := #[] }] 1057 2 #[] #[])
  fields := #[]
  methods := #[k3m0]
  instanceTypes := #[]
  staticTypes := #[]
  resolved := Array.replicate 22 none
  statics := none }

def pool4 : Array CpInfo := pool [(18, .class_ 20), (1, u "com/example/wildsolve/wildsolve/solver/Type"), (32, .class_ 54), (0, u "java/lang/Object")] 67

/-- com/example/wildsolve/wildsolve/solver/Type -/
def k4 : Class := { plain "com/example/wildsolve/wildsolve/solver/Type" (some 0) with
  accessFlags := 1537
  interfaces := #[]
  cf := some (fileOf pool4 18 #[] #[] 1537 53 #[] #[])
  fields := #[]
  methods := #[]
  instanceTypes := #[]
  staticTypes := #[]
  resolved := Array.replicate 122 none
  statics := none }

def pool5 : Array CpInfo := pool [(1, .methodref 2 3), (0, .class_ 4), (0, .nameAndType 5 6), (0, u "java/lang/Record"), (0, u "<init>"), (0, u "()V"), (0, .fieldref 8 9), (0, .class_ 10), (0, .nameAndType 11 12), (0, u "com/example/wildsolve/wildsolve/solver/Placeholder"), (0, u "id"), (0, u "I"), (0, .fieldref 8 14), (0, .nameAndType 15 16), (0, u "wildcard"), (0, u "Z"), (26, .class_ 44), (0, u "com/example/wildsolve/wildsolve/solver/Type"), (0, u "(IZ)V"), (6, u "()I"), (1, u "()Z")] 21

def k5c0 : Code := { maxStack := 2, maxLocals := 3, code := prog_141_method_1_code, exceptionTable := #[], attributes := #[] }
def k5m0 : Method := { name := "<init>", desc := "(IZ)V", sig := { parameters := [.int, .boolean], returnType := none }, accessFlags := 1, code := some k5c0 }
def k5c1 : Code := { maxStack := 1, maxLocals := 1, code := prog_141_method_5_code, exceptionTable := #[], attributes := #[] }
def k5m1 : Method := { name := "id", desc := "()I", sig := { parameters := [], returnType := some .int }, accessFlags := 1, code := some k5c1 }
def k5c2 : Code := { maxStack := 1, maxLocals := 1, code := prog_141_method_6_code, exceptionTable := #[], attributes := #[] }
def k5m2 : Method := { name := "wildcard", desc := "()Z", sig := { parameters := [], returnType := some .boolean }, accessFlags := 1, code := some k5c2 }
/-- com/example/wildsolve/wildsolve/solver/Placeholder -/
def k5 : Class := { plain "com/example/wildsolve/wildsolve/solver/Placeholder" (some 3) with
  accessFlags := 49
  interfaces := #[4]
  cf := some (fileOf pool5 8 #[] #[{ accessFlags := 1, nameIndex := 5, descriptorIndex := 45, attributes := #[] }, { accessFlags := 1, nameIndex := 11, descriptorIndex := 52, attributes := #[] }, { accessFlags := 1, nameIndex := 15, descriptorIndex := 54, attributes := #[] }] 49 2 #[43] #[{ accessFlags := 18, nameIndex := 11, descriptorIndex := 12, attributes := #[] }, { accessFlags := 18, nameIndex := 15, descriptorIndex := 16, attributes := #[] }])
  fields := #[{ name := "id", type := .int, accessFlags := 18, slot := 0, constantValue := 0 }, { name := "wildcard", type := .boolean, accessFlags := 18, slot := 1, constantValue := 0 }]
  methods := #[k5m0, k5m1, k5m2]
  instanceTypes := #[.int, .boolean]
  staticTypes := #[]
  resolved := Array.replicate 76 none
  statics := none }

def pool6 : Array CpInfo := pool [(1, .class_ 2), (0, u "java/lang/Appendable"), (0, .class_ 4), (0, u "java/lang/Object")] 9

/-- java/lang/Appendable -/
def k6 : Class := { plain "java/lang/Appendable" (some 0) with
  accessFlags := 1537
  interfaces := #[]
  cf := some (fileOf pool6 1 #[] #[] 1537 3 #[] #[])
  fields := #[]
  methods := #[]
  instanceTypes := #[]
  staticTypes := #[]
  resolved := Array.replicate 14 none
  statics := none }

def pool7 : Array CpInfo := pool [(2, .class_ 4), (1, u "java/lang/CharSequence"), (42, .class_ 48), (0, u "java/lang/CharSequence$1CodePointIterator"), (10, .class_ 60), (0, u "java/lang/CharSequence$1CharIterator"), (5, .class_ 67), (0, u "java/lang/Object")] 63

/-- java/lang/CharSequence -/
def k7 : Class := { plain "java/lang/CharSequence" (some 0) with
  accessFlags := 1537
  interfaces := #[]
  cf := some (fileOf pool7 2 #[.nestMembers #[47, 59]] #[] 1537 66 #[] #[])
  fields := #[]
  methods := #[]
  instanceTypes := #[]
  staticTypes := #[]
  resolved := Array.replicate 131 none
  statics := none }

def pool8 : Array CpInfo := pool [(1, .class_ 2), (0, u "java/lang/String"), (0, .methodref 4 5), (0, .class_ 6), (0, .nameAndType 7 8), (0, u "java/lang/Object"), (0, u "<init>"), (0, u "()V"), (1, .class_ 12), (1, u "java/lang/AbstractStringBuilder"), (0, u "EMPTYVALUE"), (0, u "[B"), (0, .fieldref 10 16), (0, .nameAndType 17 14), (0, u "value"), (0, .fieldref 1 19), (0, .nameAndType 20 21), (0, u "COMPACT_STRINGS"), (0, u "Z"), (0, .fieldref 10 23), (0, .nameAndType 24 25), (0, u "coder"), (0, u "B"), (6, .methodref 1 33), (0, .nameAndType 34 35), (0, u "length"), (0, u "()I"), (0, .class_ 37), (0, u "java/lang/Integer"), (2, .methodref 1 41), (0, .nameAndType 24 42), (0, u "()B"), (2, u "append"), (0, u "(Ljava/lang/String;)Ljava/lang/AbstractStringBuilder;"), (1, .class_ 49), (0, u "java/lang/CharSequence"), (19, u "(Ljava/lang/String;)V"), (5, u "maybeLatin1"), (3, .fieldref 10 80), (0, .nameAndType 81 82), (0, u "count"), (0, u "I"), (0, .methodref 10 84), (0, .nameAndType 85 86), (0, u "isLatin1"), (0, u "()Z"), (13, .methodref 10 101), (0, .nameAndType 102 103), (0, u "ensureCapacityInternal"), (0, u "(I)V"), (3, u "(I)I"), (80, u "getChars"), (19, .methodref 10 209), (0, .nameAndType 210 211), (0, u "putStringAt"), (0, u "(ILjava/lang/String;)V"), (5, u "inflateIfNeededFor"), (2, .nameAndType 221 222), (0, u "getBytes"), (0, u "([BIB)V"), (22, .methodref 36 246), (0, .nameAndType 247 107), (0, u "stringSize"), (0, .methodref 36 249), (0, .nameAndType 188 250), (0, u "(II[B)I"), (146, .methodref 10 398), (0, .nameAndType 217 69), (0, .methodref 1 220), (3, u "()[B"), (40, .class_ 445), (0, u "java/lang/Appendable"), (65, u "(I)Ljava/lang/AbstractStringBuilder;"), (40, u "getValue")] 56

def k8m0 : Method := { name := "<init>", desc := "()V", sig := { parameters := [], returnType := none }, accessFlags := 0, code := none }
def k8c1 : Code := { maxStack := 2, maxLocals := 2, code := jdk_68_method_2_code, exceptionTable := #[], attributes := #[] }
def k8m1 : Method := { name := "<init>", desc := "(I)V", sig := { parameters := [.int], returnType := none }, accessFlags := 0, code := some k8c1 }
def k8c2 : Code := { maxStack := 1, maxLocals := 1, code := jdk_68_method_6_code, exceptionTable := #[], attributes := #[] }
def k8m2 : Method := { name := "length", desc := "()I", sig := { parameters := [], returnType := some .int }, accessFlags := 1, code := some k8c2 }
def k8c3 : Code := { maxStack := 4, maxLocals := 3, code := jdk_68_method_9_code, exceptionTable := #[], attributes := #[] }
def k8m3 : Method := { name := "ensureCapacityInternal", desc := "(I)V", sig := { parameters := [.int], returnType := none }, accessFlags := 2, code := some k8c3 }
def k8c4 : Code := { maxStack := 3, maxLocals := 3, code := jdk_68_method_22_code, exceptionTable := #[], attributes := #[] }
def k8m4 : Method := { name := "append", desc := "(Ljava/lang/String;)Ljava/lang/AbstractStringBuilder;", sig := { parameters := [(.object "java/lang/String")], returnType := some (.object "java/lang/AbstractStringBuilder") }, accessFlags := 1, code := some k8c4 }
def k8c5 : Code := { maxStack := 4, maxLocals := 4, code := jdk_68_method_32_code, exceptionTable := #[], attributes := #[] }
def k8m5 : Method := { name := "append", desc := "(I)Ljava/lang/AbstractStringBuilder;", sig := { parameters := [.int], returnType := some (.object "java/lang/AbstractStringBuilder") }, accessFlags := 1, code := some k8c5 }
def k8c6 : Code := { maxStack := 1, maxLocals := 1, code := jdk_68_method_64_code, exceptionTable := #[], attributes := #[] }
def k8m6 : Method := { name := "getValue", desc := "()[B", sig := { parameters := [], returnType := some (.array .byte) }, accessFlags := 16, code := some k8c6 }
def k8c7 : Code := { maxStack := 1, maxLocals := 1, code := jdk_68_method_68_code, exceptionTable := #[], attributes := #[] }
def k8m7 : Method := { name := "isLatin1", desc := "()Z", sig := { parameters := [], returnType := some .boolean }, accessFlags := 16, code := some k8c7 }
def k8c8 : Code := { maxStack := 2, maxLocals := 2, code := jdk_68_method_71_code, exceptionTable := #[], attributes := #[] }
def k8m8 : Method := { name := "inflateIfNeededFor", desc := "(Ljava/lang/String;)V", sig := { parameters := [(.object "java/lang/String")], returnType := none }, accessFlags := 2, code := some k8c8 }
def k8c9 : Code := { maxStack := 4, maxLocals := 3, code := jdk_68_method_73_code, exceptionTable := #[], attributes := #[] }
def k8m9 : Method := { name := "putStringAt", desc := "(ILjava/lang/String;)V", sig := { parameters := [.int, (.object "java/lang/String")], returnType := none }, accessFlags := 2, code := some k8c9 }
/-- java/lang/AbstractStringBuilder -/
def k8 : Class := { plain "java/lang/AbstractStringBuilder" (some 0) with
  accessFlags := 1056
  interfaces := #[6, 7]
  cf := some (fileOf pool8 10 #[] #[{ accessFlags := 0, nameIndex := 7, descriptorIndex := 8, attributes := #[] }, { accessFlags := 0, nameIndex := 7, descriptorIndex := 103, attributes := #[] }, { accessFlags := 1, nameIndex := 34, descriptorIndex := 35, attributes := #[] }, { accessFlags := 2, nameIndex := 102, descriptorIndex := 103, attributes := #[] }, { accessFlags := 1, nameIndex := 45, descriptorIndex := 46, attributes := #[] }, { accessFlags := 1, nameIndex := 45, descriptorIndex := 511, attributes := #[] }, { accessFlags := 16, nameIndex := 552, descriptorIndex := 403, attributes := #[] }, { accessFlags := 16, nameIndex := 85, descriptorIndex := 86, attributes := #[] }, { accessFlags := 2, nameIndex := 217, descriptorIndex := 69, attributes := #[] }, { accessFlags := 2, nameIndex := 210, descriptorIndex := 211, attributes := #[] }] 1056 4 #[444, 48] #[{ accessFlags := 0, nameIndex := 17, descriptorIndex := 14, attributes := #[] }, { accessFlags := 0, nameIndex := 24, descriptorIndex := 25, attributes := #[] }, { accessFlags := 0, nameIndex := 75, descriptorIndex := 21, attributes := #[] }, { accessFlags := 0, nameIndex := 81, descriptorIndex := 82, attributes := #[] }, { accessFlags := 26, nameIndex := 13, descriptorIndex := 14, attributes := #[] }])
  fields := #[{ name := "value", type := (.array .byte), accessFlags := 0, slot := 0, constantValue := 0 }, { name := "coder", type := .byte, accessFlags := 0, slot := 1, constantValue := 0 }, { name := "maybeLatin1", type := .boolean, accessFlags := 0, slot := 2, constantValue := 0 }, { name := "count", type := .int, accessFlags := 0, slot := 3, constantValue := 0 }, { name := "EMPTYVALUE", type := (.array .byte), accessFlags := 26, slot := 0, constantValue := 0 }]
  methods := #[k8m0, k8m1, k8m2, k8m3, k8m4, k8m5, k8m6, k8m7, k8m8, k8m9]
  instanceTypes := #[(.array .byte), .byte, .boolean, .int]
  staticTypes := #[(.array .byte)]
  resolved := Array.replicate 609 none
  statics := none }

def pool9 : Array CpInfo := pool [(1, .class_ 2), (0, u "java/io/Serializable"), (0, .class_ 4), (0, u "java/lang/Object")] 2

/-- java/io/Serializable -/
def k9 : Class := { plain "java/io/Serializable" (some 0) with
  accessFlags := 1537
  interfaces := #[]
  cf := some (fileOf pool9 1 #[] #[] 1537 3 #[] #[])
  fields := #[]
  methods := #[]
  instanceTypes := #[]
  staticTypes := #[]
  resolved := Array.replicate 7 none
  statics := none }

def pool10 : Array CpInfo := pool [(1, .class_ 2), (0, u "java/lang/Comparable"), (0, .class_ 4), (0, u "java/lang/Object")] 7

/-- java/lang/Comparable -/
def k10 : Class := { plain "java/lang/Comparable" (some 0) with
  accessFlags := 1537
  interfaces := #[]
  cf := some (fileOf pool10 1 #[] #[] 1537 3 #[] #[])
  fields := #[]
  methods := #[]
  instanceTypes := #[]
  staticTypes := #[]
  resolved := Array.replicate 12 none
  statics := none }

def pool11 : Array CpInfo := pool [(1, .methodref 2 3), (0, .class_ 4), (0, .nameAndType 5 6), (0, u "java/lang/AbstractStringBuilder"), (0, u "<init>"), (0, u "(I)V"), (11, .class_ 20), (1, u "java/lang/String"), (3, .class_ 26), (1, u "java/lang/StringBuilder"), (0, u "append"), (0, u "(Ljava/lang/String;)Ljava/lang/StringBuilder;"), (0, .methodref 2 30), (0, .nameAndType 27 31), (0, u "(Ljava/lang/String;)Ljava/lang/AbstractStringBuilder;"), (21, .methodref 2 54), (0, .nameAndType 27 55), (0, u "(I)Ljava/lang/AbstractStringBuilder;"), (81, .methodref 18 138), (0, .nameAndType 5 139), (0, u "(Ljava/lang/StringBuilder;)V"), (5, u "()V"), (10, u "()I"), (111, u "(I)Ljava/lang/StringBuilder;"), (74, .methodref 2 344), (0, .nameAndType 345 156), (0, u "length"), (3, .class_ 350), (0, u "java/lang/Appendable"), (0, .class_ 352), (0, u "java/io/Serializable"), (0, .class_ 354), (0, u "java/lang/Comparable"), (0, .class_ 356), (0, u "java/lang/CharSequence"), (0, u "serialVersionUID"), (0, u "J"), (40, u "toString"), (0, u "()Ljava/lang/String;")] 21

def k11c0 : Code := { maxStack := 2, maxLocals := 1, code := jdk_67_method_1_code, exceptionTable := #[], attributes := #[] }
def k11m0 : Method := { name := "<init>", desc := "()V", sig := { parameters := [], returnType := none }, accessFlags := 1, code := some k11c0 }
def k11c1 : Code := { maxStack := 2, maxLocals := 2, code := jdk_67_method_7_code, exceptionTable := #[], attributes := #[] }
def k11m1 : Method := { name := "append", desc := "(Ljava/lang/String;)Ljava/lang/StringBuilder;", sig := { parameters := [(.object "java/lang/String")], returnType := some (.object "java/lang/StringBuilder") }, accessFlags := 1, code := some k11c1 }
def k11c2 : Code := { maxStack := 2, maxLocals := 2, code := jdk_67_method_15_code, exceptionTable := #[], attributes := #[] }
def k11m2 : Method := { name := "append", desc := "(I)Ljava/lang/StringBuilder;", sig := { parameters := [.int], returnType := some (.object "java/lang/StringBuilder") }, accessFlags := 1, code := some k11c2 }
def k11c3 : Code := { maxStack := 3, maxLocals := 1, code := jdk_67_method_42_code, exceptionTable := #[], attributes := #[] }
def k11m3 : Method := { name := "toString", desc := "()Ljava/lang/String;", sig := { parameters := [], returnType := some (.object "java/lang/String") }, accessFlags := 1, code := some k11c3 }
def k11c4 : Code := { maxStack := 1, maxLocals := 1, code := jdk_67_method_93_code, exceptionTable := #[], attributes := #[] }
def k11m4 : Method := { name := "length", desc := "()I", sig := { parameters := [], returnType := some .int }, accessFlags := 4161, code := some k11c4 }
/-- java/lang/StringBuilder -/
def k11 : Class := { plain "java/lang/StringBuilder" (some 8) with
  accessFlags := 49
  interfaces := #[6, 9, 10, 7]
  cf := some (fileOf pool11 24 #[] #[{ accessFlags := 1, nameIndex := 5, descriptorIndex := 145, attributes := #[] }, { accessFlags := 1, nameIndex := 27, descriptorIndex := 28, attributes := #[] }, { accessFlags := 1, nameIndex := 27, descriptorIndex := 268, attributes := #[] }, { accessFlags := 1, nameIndex := 399, descriptorIndex := 400, attributes := #[] }, { accessFlags := 4161, nameIndex := 345, descriptorIndex := 156, attributes := #[] }] 49 2 #[349, 351, 353, 355] #[{ accessFlags := 24, nameIndex := 357, descriptorIndex := 358, attributes := #[] }])
  fields := #[{ name := "serialVersionUID", type := .long, accessFlags := 24, slot := 0, constantValue := 0 }]
  methods := #[k11m0, k11m1, k11m2, k11m3, k11m4]
  instanceTypes := #[(.array .byte), .byte, .boolean, .int]
  staticTypes := #[.long]
  resolved := Array.replicate 422 none
  statics := none }

def pool12 : Array CpInfo := pool [(1, .class_ 2), (0, u "java/lang/constant/Constable"), (0, .class_ 4), (0, u "java/lang/Object")] 6

/-- java/lang/constant/Constable -/
def k12 : Class := { plain "java/lang/constant/Constable" (some 0) with
  accessFlags := 1537
  interfaces := #[]
  cf := some (fileOf pool12 1 #[] #[] 1537 3 #[] #[])
  fields := #[]
  methods := #[]
  instanceTypes := #[]
  staticTypes := #[]
  resolved := Array.replicate 11 none
  statics := none }

def pool13 : Array CpInfo := pool [(1, .class_ 2), (0, u "java/lang/constant/ConstantDesc"), (0, .class_ 4), (0, u "java/lang/Object")] 32

/-- java/lang/constant/ConstantDesc -/
def k13 : Class := { plain "java/lang/constant/ConstantDesc" (some 0) with
  accessFlags := 1537
  interfaces := #[]
  cf := some (fileOf pool13 1 #[] #[] 1537 3 #[] #[])
  fields := #[]
  methods := #[]
  instanceTypes := #[]
  staticTypes := #[]
  resolved := Array.replicate 37 none
  statics := none }

def pool14 : Array CpInfo := pool [(1, .methodref 2 3), (0, .class_ 4), (0, .nameAndType 5 6), (0, u "java/lang/Object"), (0, u "<init>"), (0, u "()V"), (2, .fieldref 10 11), (0, .class_ 12), (0, .nameAndType 13 14), (0, u "java/lang/String"), (0, u "value"), (0, u "[B"), (0, .fieldref 10 16), (0, .nameAndType 17 18), (0, u "coder"), (0, u "B"), (2, u "hash"), (0, u "I"), (2, u "hashIsZero"), (0, u "Z"), (11, .fieldref 10 39), (0, .nameAndType 40 26), (0, u "COMPACT_STRINGS"), (13, .methodref 55 56), (0, .class_ 57), (0, .nameAndType 58 59), (0, u "java/util/Arrays"), (0, u "copyOfRange"), (0, u "([BII)[B"), (82, u "()Z"), (50, .class_ 195), (1, u "java/lang/System"), (16, .methodref 193 213), (0, .nameAndType 214 215), (0, u "arraycopy"), (0, u "(Ljava/lang/Object;ILjava/lang/Object;II)V"), (118, u "()I"), (0, .methodref 10 336), (0, .nameAndType 17 337), (0, u "()B"), (2, u "()[B"), (148, .methodref 10 490), (0, .nameAndType 5 491), (0, u "(Ljava/lang/AbstractStringBuilder;Ljava/lang/Void;)V"), (1, .nameAndType 494 142), (0, u "isLatin1"), (11, .nameAndType 507 334), (0, u "length"), (24, u "getBytes"), (16, .methodref 550 506), (0, .class_ 551), (0, u "java/lang/AbstractStringBuilder"), (0, .methodref 550 553), (0, .nameAndType 554 340), (0, u "getValue"), (20, .class_ 576), (0, u "java/lang/CharSequence"), (22, u "CASE_INSENSITIVE_ORDER"), (0, u "Ljava/util/Comparator;"), (220, u "([BIB)V"), (225, .methodref 550 493), (53, u "serialPersistentFields"), (0, u "[Ljava/io/ObjectStreamField;"), (0, .class_ 1104), (0, u "java/lang/String$CaseInsensitiveComparator"), (1, .class_ 1107), (0, u "java/io/Serializable"), (0, .class_ 1109), (0, u "java/lang/Comparable"), (0, .class_ 1111), (0, u "java/lang/constant/Constable"), (0, .class_ 1113), (0, u "java/lang/constant/ConstantDesc"), (2, u "serialVersionUID"), (0, u "J"), (3, u "REPL"), (0, u "C"), (2, u "LATIN1"), (1, u "UTF16"), (105, u "(Ljava/lang/StringBuilder;)V")] 217

def k14m0 : Method := { name := "<init>", desc := "()V", sig := { parameters := [], returnType := none }, accessFlags := 1, code := none }
def k14c1 : Code := { maxStack := 3, maxLocals := 2, code := jdk_42_method_53_code, exceptionTable := #[], attributes := #[] }
def k14m1 : Method := { name := "<init>", desc := "(Ljava/lang/StringBuilder;)V", sig := { parameters := [(.object "java/lang/StringBuilder")], returnType := none }, accessFlags := 1, code := some k14c1 }
def k14c2 : Code := { maxStack := 2, maxLocals := 1, code := jdk_42_method_54_code, exceptionTable := #[], attributes := #[] }
def k14m2 : Method := { name := "length", desc := "()I", sig := { parameters := [], returnType := some .int }, accessFlags := 1, code := some k14c2 }
def k14c3 : Code := { maxStack := 5, maxLocals := 4, code := jdk_42_method_147_code, exceptionTable := #[], attributes := #[] }
def k14m3 : Method := { name := "getBytes", desc := "([BIB)V", sig := { parameters := [(.array .byte), .int, .byte], returnType := none }, accessFlags := 0, code := some k14c3 }
def k14c4 : Code := { maxStack := 5, maxLocals := 5, code := jdk_42_method_150_code, exceptionTable := #[], attributes := #[] }
def k14m4 : Method := { name := "<init>", desc := "(Ljava/lang/AbstractStringBuilder;Ljava/lang/Void;)V", sig := { parameters := [(.object "java/lang/AbstractStringBuilder"), (.object "java/lang/Void")], returnType := none }, accessFlags := 0, code := some k14c4 }
def k14c5 : Code := { maxStack := 1, maxLocals := 1, code := jdk_42_method_152_code, exceptionTable := #[], attributes := #[] }
def k14m5 : Method := { name := "coder", desc := "()B", sig := { parameters := [], returnType := some .byte }, accessFlags := 0, code := some k14c5 }
/-- java/lang/String -/
def k14 : Class := { plain "java/lang/String" (some 0) with
  accessFlags := 49
  interfaces := #[9, 10, 7, 12, 13]
  cf := some (fileOf pool14 10 #[.nestMembers #[1103]] #[{ accessFlags := 1, nameIndex := 5, descriptorIndex := 6, attributes := #[] }, { accessFlags := 1, nameIndex := 5, descriptorIndex := 1233, attributes := #[] }, { accessFlags := 1, nameIndex := 507, descriptorIndex := 334, attributes := #[] }, { accessFlags := 0, nameIndex := 532, descriptorIndex := 821, attributes := #[] }, { accessFlags := 0, nameIndex := 5, descriptorIndex := 491, attributes := #[] }, { accessFlags := 0, nameIndex := 17, descriptorIndex := 337, attributes := #[] }] 49 2 #[1106, 1108, 575, 1110, 1112] #[{ accessFlags := 18, nameIndex := 13, descriptorIndex := 14, attributes := #[] }, { accessFlags := 18, nameIndex := 17, descriptorIndex := 18, attributes := #[] }, { accessFlags := 2, nameIndex := 21, descriptorIndex := 22, attributes := #[] }, { accessFlags := 2, nameIndex := 25, descriptorIndex := 26, attributes := #[] }, { accessFlags := 26, nameIndex := 1116, descriptorIndex := 1117, attributes := #[] }, { accessFlags := 24, nameIndex := 40, descriptorIndex := 26, attributes := #[] }, { accessFlags := 26, nameIndex := 1101, descriptorIndex := 1102, attributes := #[] }, { accessFlags := 26, nameIndex := 1121, descriptorIndex := 1122, attributes := #[] }, { accessFlags := 25, nameIndex := 599, descriptorIndex := 600, attributes := #[] }, { accessFlags := 24, nameIndex := 1125, descriptorIndex := 18, attributes := #[] }, { accessFlags := 24, nameIndex := 1127, descriptorIndex := 18, attributes := #[] }])
  fields := #[{ name := "value", type := (.array .byte), accessFlags := 18, slot := 0, constantValue := 0 }, { name := "coder", type := .byte, accessFlags := 18, slot := 1, constantValue := 0 }, { name := "hash", type := .int, accessFlags := 2, slot := 2, constantValue := 0 }, { name := "hashIsZero", type := .boolean, accessFlags := 2, slot := 3, constantValue := 0 }, { name := "serialVersionUID", type := .long, accessFlags := 26, slot := 0, constantValue := 0 }, { name := "COMPACT_STRINGS", type := .boolean, accessFlags := 24, slot := 1, constantValue := 0 }, { name := "serialPersistentFields", type := (.array (.object "java/io/ObjectStreamField")), accessFlags := 26, slot := 2, constantValue := 0 }, { name := "REPL", type := .char, accessFlags := 26, slot := 3, constantValue := 0 }, { name := "CASE_INSENSITIVE_ORDER", type := (.object "java/util/Comparator"), accessFlags := 25, slot := 4, constantValue := 0 }, { name := "LATIN1", type := .byte, accessFlags := 24, slot := 5, constantValue := 0 }, { name := "UTF16", type := .byte, accessFlags := 24, slot := 6, constantValue := 0 }]
  methods := #[k14m0, k14m1, k14m2, k14m3, k14m4, k14m5]
  instanceTypes := #[(.array .byte), .byte, .int, .boolean]
  staticTypes := #[.long, .boolean, (.array (.object "java/io/ObjectStreamField")), .char, (.object "java/util/Comparator"), .byte, .byte]
  resolved := Array.replicate 1451 none
  statics := some 0 }

def pool15 : Array CpInfo := pool [(2, .class_ 4), (1, u "java/lang/Object"), (0, u "<init>"), (0, u "()V"), (1, .class_ 10), (1, u "java/lang/System"), (0, u "allowSecurityManager"), (0, u "I"), (16, u "cons"), (0, u "Ljava/io/Console;"), (77, .class_ 110), (1, u "java/lang/System$CallersHolder"), (43, u "initialErrStream"), (0, u "Ljava/io/PrintStream;"), (19, u "security"), (0, u "Ljava/lang/SecurityManager;"), (31, .class_ 209), (0, u "java/lang/System$1"), (7, u "props"), (0, u "Ljava/util/Properties;"), (2, u "lineSeparator"), (0, u "Ljava/lang/String;"), (96, .class_ 321), (1, u "java/lang/System$LoggerFinder"), (5, .class_ 328), (0, u "java/lang/System$Logger"), (67, u "err"), (2, u "out"), (91, u "notSupportedJnuEncoding"), (15, u "in"), (17, u "initialIn"), (0, u "Ljava/io/InputStream;"), (35, u "bootLayer"), (0, u "Ljava/lang/ModuleLayer;"), (99, .class_ 664), (0, u "java/lang/System$2"), (9, u "NEVER"), (2, u "MAYBE"), (49, u "arraycopy"), (0, u "(Ljava/lang/Object;ILjava/lang/Object;II)V"), (72, .class_ 802), (0, u "java/lang/System$Logger$Level")] 31

def k15m0 : Method := { name := "<init>", desc := "()V", sig := { parameters := [], returnType := none }, accessFlags := 2, code := none }
def k15m1 : Method := { name := "arraycopy", desc := "(Ljava/lang/Object;ILjava/lang/Object;II)V", sig := { parameters := [(.object "java/lang/Object"), .int, (.object "java/lang/Object"), .int, .int], returnType := none }, accessFlags := 265, code := none }
/-- java/lang/System -/
def k15 : Class := { plain "java/lang/System" (some 0) with
  accessFlags := 49
  interfaces := #[]
  cf := some (fileOf pool15 8 #[.nestMembers #[319, 327, 801, 108, 663, 208]] #[{ accessFlags := 2, nameIndex := 5, descriptorIndex := 6, attributes := #[] }, { accessFlags := 265, nameIndex := 727, descriptorIndex := 728, attributes := #[] }] 49 2 #[] #[{ accessFlags := 25, nameIndex := 507, descriptorIndex := 526, attributes := #[] }, { accessFlags := 25, nameIndex := 399, descriptorIndex := 155, attributes := #[] }, { accessFlags := 25, nameIndex := 396, descriptorIndex := 155, attributes := #[] }, { accessFlags := 10, nameIndex := 525, descriptorIndex := 526, attributes := #[] }, { accessFlags := 26, nameIndex := 674, descriptorIndex := 12, attributes := #[] }, { accessFlags := 26, nameIndex := 677, descriptorIndex := 12, attributes := #[] }, { accessFlags := 10, nameIndex := 11, descriptorIndex := 12, attributes := #[] }, { accessFlags := 74, nameIndex := 175, descriptorIndex := 176, attributes := #[] }, { accessFlags := 10, nameIndex := 491, descriptorIndex := 222, attributes := #[] }, { accessFlags := 74, nameIndex := 29, descriptorIndex := 30, attributes := #[] }, { accessFlags := 74, nameIndex := 154, descriptorIndex := 155, attributes := #[] }, { accessFlags := 10, nameIndex := 217, descriptorIndex := 218, attributes := #[] }, { accessFlags := 10, nameIndex := 221, descriptorIndex := 222, attributes := #[] }, { accessFlags := 8, nameIndex := 562, descriptorIndex := 563, attributes := #[] }])
  fields := #[{ name := "in", type := (.object "java/io/InputStream"), accessFlags := 25, slot := 0, constantValue := 0 }, { name := "out", type := (.object "java/io/PrintStream"), accessFlags := 25, slot := 1, constantValue := 0 }, { name := "err", type := (.object "java/io/PrintStream"), accessFlags := 25, slot := 2, constantValue := 0 }, { name := "initialIn", type := (.object "java/io/InputStream"), accessFlags := 10, slot := 3, constantValue := 0 }, { name := "NEVER", type := .int, accessFlags := 26, slot := 4, constantValue := 0 }, { name := "MAYBE", type := .int, accessFlags := 26, slot := 5, constantValue := 0 }, { name := "allowSecurityManager", type := .int, accessFlags := 10, slot := 6, constantValue := 0 }, { name := "security", type := (.object "java/lang/SecurityManager"), accessFlags := 74, slot := 7, constantValue := 0 }, { name := "notSupportedJnuEncoding", type := (.object "java/lang/String"), accessFlags := 10, slot := 8, constantValue := 0 }, { name := "cons", type := (.object "java/io/Console"), accessFlags := 74, slot := 9, constantValue := 0 }, { name := "initialErrStream", type := (.object "java/io/PrintStream"), accessFlags := 74, slot := 10, constantValue := 0 }, { name := "props", type := (.object "java/util/Properties"), accessFlags := 10, slot := 11, constantValue := 0 }, { name := "lineSeparator", type := (.object "java/lang/String"), accessFlags := 10, slot := 12, constantValue := 0 }, { name := "bootLayer", type := (.object "java/lang/ModuleLayer"), accessFlags := 8, slot := 13, constantValue := 0 }]
  methods := #[k15m0, k15m1]
  instanceTypes := #[]
  staticTypes := #[(.object "java/io/InputStream"), (.object "java/io/PrintStream"), (.object "java/io/PrintStream"), (.object "java/io/InputStream"), .int, .int, .int, (.object "java/lang/SecurityManager"), (.object "java/lang/String"), (.object "java/io/Console"), (.object "java/io/PrintStream"), (.object "java/util/Properties"), (.object "java/lang/String"), (.object "java/lang/ModuleLayer")]
  resolved := Array.replicate 834 none
  statics := none }

def pool16 : Array CpInfo := pool [(2, .class_ 4), (1, u "java/lang/Object"), (0, u "<init>"), (0, u "()V"), (1, .class_ 10), (1, u "java/lang/Number"), (2, .class_ 14), (0, u "java/io/Serializable"), (0, u "serialVersionUID"), (0, u "J")] 20

def k16m0 : Method := { name := "<init>", desc := "()V", sig := { parameters := [], returnType := none }, accessFlags := 1, code := none }
/-- java/lang/Number -/
def k16 : Class := { plain "java/lang/Number" (some 0) with
  accessFlags := 1057
  interfaces := #[9]
  cf := some (fileOf pool16 8 #[] #[{ accessFlags := 1, nameIndex := 5, descriptorIndex := 6, attributes := #[] }] 1057 2 #[13] #[{ accessFlags := 26, nameIndex := 15, descriptorIndex := 16, attributes := #[] }])
  fields := #[{ name := "serialVersionUID", type := .long, accessFlags := 26, slot := 0, constantValue := 0 }]
  methods := #[k16m0]
  instanceTypes := #[]
  staticTypes := #[.long]
  resolved := Array.replicate 37 none
  statics := none }

def pool17 : Array CpInfo := pool [(1, .class_ 2), (0, u "java/lang/Integer"), (16, u "digits"), (0, u "[C"), (33, u "(I)I"), (19, u "stringSize"), (2, u "getChars"), (0, u "(II[B)I"), (4, .fieldref 1 84), (0, .nameAndType 85 86), (0, u "DigitOnes"), (0, u "[B"), (2, u "DigitTens"), (99, .class_ 190), (0, u "java/lang/Integer$IntegerCache"), (3, u "I"), (8, .class_ 204), (0, u "java/lang/Number"), (2, u "value"), (94, u "TYPE"), (0, u "Ljava/lang/Class;"), (0, .class_ 305), (0, u "java/lang/Comparable"), (0, .class_ 307), (0, u "java/lang/constant/Constable"), (0, .class_ 309), (0, u "java/lang/constant/ConstantDesc"), (0, u "MIN_VALUE"), (1, u "MAX_VALUE"), (3, u "SIZE"), (1, u "BYTES"), (1, u "serialVersionUID"), (0, u "J")] 131

def k17c0 : Code := { maxStack := 4, maxLocals := 7, code := jdk_33_method_12_code, exceptionTable := #[], attributes := #[] }
def k17m0 : Method := { name := "getChars", desc := "(II[B)I", sig := { parameters := [.int, .int, (.array .byte)], returnType := some .int }, accessFlags := 8, code := some k17c0 }
def k17c1 : Code := { maxStack := 2, maxLocals := 4, code := jdk_33_method_13_code, exceptionTable := #[], attributes := #[] }
def k17m1 : Method := { name := "stringSize", desc := "(I)I", sig := { parameters := [.int], returnType := some .int }, accessFlags := 8, code := some k17c1 }
/-- java/lang/Integer -/
def k17 : Class := { plain "java/lang/Integer" (some 16) with
  accessFlags := 49
  interfaces := #[10, 12, 13]
  cf := some (fileOf pool17 1 #[.nestMembers #[189]] #[{ accessFlags := 8, nameIndex := 77, descriptorIndex := 78, attributes := #[] }, { accessFlags := 8, nameIndex := 74, descriptorIndex := 54, attributes := #[] }] 49 203 #[304, 306, 308] #[{ accessFlags := 25, nameIndex := 310, descriptorIndex := 194, attributes := #[] }, { accessFlags := 25, nameIndex := 312, descriptorIndex := 194, attributes := #[] }, { accessFlags := 25, nameIndex := 302, descriptorIndex := 303, attributes := #[] }, { accessFlags := 24, nameIndex := 19, descriptorIndex := 20, attributes := #[] }, { accessFlags := 24, nameIndex := 89, descriptorIndex := 86, attributes := #[] }, { accessFlags := 24, nameIndex := 85, descriptorIndex := 86, attributes := #[] }, { accessFlags := 18, nameIndex := 207, descriptorIndex := 194, attributes := #[] }, { accessFlags := 25, nameIndex := 316, descriptorIndex := 194, attributes := #[] }, { accessFlags := 25, nameIndex := 318, descriptorIndex := 194, attributes := #[] }, { accessFlags := 26, nameIndex := 320, descriptorIndex := 321, attributes := #[] }])
  fields := #[{ name := "MIN_VALUE", type := .int, accessFlags := 25, slot := 0, constantValue := 0 }, { name := "MAX_VALUE", type := .int, accessFlags := 25, slot := 1, constantValue := 0 }, { name := "TYPE", type := (.object "java/lang/Class"), accessFlags := 25, slot := 2, constantValue := 0 }, { name := "digits", type := (.array .char), accessFlags := 24, slot := 3, constantValue := 0 }, { name := "DigitTens", type := (.array .byte), accessFlags := 24, slot := 4, constantValue := 0 }, { name := "DigitOnes", type := (.array .byte), accessFlags := 24, slot := 5, constantValue := 0 }, { name := "value", type := .int, accessFlags := 18, slot := 0, constantValue := 0 }, { name := "SIZE", type := .int, accessFlags := 25, slot := 6, constantValue := 0 }, { name := "BYTES", type := .int, accessFlags := 25, slot := 7, constantValue := 0 }, { name := "serialVersionUID", type := .long, accessFlags := 26, slot := 8, constantValue := 0 }]
  methods := #[k17m0, k17m1]
  instanceTypes := #[.int]
  staticTypes := #[.int, .int, (.object "java/lang/Class"), (.array .char), (.array .byte), (.array .byte), .int, .int, .long]
  resolved := Array.replicate 453 none
  statics := some 1 }

def pool18 : Array CpInfo := pool [(2, .class_ 4), (1, u "java/lang/Object"), (0, u "<init>"), (0, u "()V"), (7, .class_ 16), (1, u "java/util/Arrays"), (57, .class_ 76), (1, u "java/util/Arrays$NaturalOrder"), (36, .class_ 115), (1, u "java/util/Arrays$LegacyMergeSort"), (1, u "Z"), (21, u "copyOfRange"), (10, .methodref 151 152), (0, .class_ 153), (0, .nameAndType 154 155), (0, u "java/lang/System"), (0, u "arraycopy"), (0, u "(Ljava/lang/Object;ILjava/lang/Object;II)V"), (148, .methodref 305 306), (0, .class_ 307), (0, .nameAndType 308 309), (0, u "java/lang/Math"), (0, u "min"), (0, u "(II)I"), (29, .methodref 14 340), (0, .nameAndType 341 342), (0, u "copyOfRangeByte"), (0, u "([BII)[B"), (0, .methodref 14 344), (0, .nameAndType 345 346), (0, u "checkLength"), (0, u "(II)V"), (28, .class_ 376), (0, u "java/util/Arrays$ArrayList"), (68, u "$assertionsDisabled"), (269, u "MIN_ARRAY_SORT_GRAN"), (0, u "I"), (2, u "INSERTIONSORT_THRESHOLD"), (255, .class_ 976), (0, u "java/util/Arrays$ArrayItr")] 52

def k18m0 : Method := { name := "<init>", desc := "()V", sig := { parameters := [], returnType := none }, accessFlags := 2, code := none }
def k18c1 : Code := { maxStack := 4, maxLocals := 2, code := jdk_65_method_131_code, exceptionTable := #[], attributes := #[] }
def k18m1 : Method := { name := "checkLength", desc := "(II)V", sig := { parameters := [.int, .int], returnType := none }, accessFlags := 10, code := some k18c1 }
def k18c2 : Code := { maxStack := 3, maxLocals := 3, code := jdk_65_method_132_code, exceptionTable := #[], attributes := #[] }
def k18m2 : Method := { name := "copyOfRange", desc := "([BII)[B", sig := { parameters := [(.array .byte), .int, .int], returnType := some (.array .byte) }, accessFlags := 9, code := some k18c2 }
def k18c3 : Code := { maxStack := 6, maxLocals := 5, code := jdk_65_method_133_code, exceptionTable := #[], attributes := #[] }
def k18m3 : Method := { name := "copyOfRangeByte", desc := "([BII)[B", sig := { parameters := [(.array .byte), .int, .int], returnType := some (.array .byte) }, accessFlags := 10, code := some k18c3 }
/-- java/util/Arrays -/
def k18 : Class := { plain "java/util/Arrays" (some 0) with
  accessFlags := 49
  interfaces := #[]
  cf := some (fileOf pool18 14 #[.nestMembers #[975, 375, 113, 74]] #[{ accessFlags := 2, nameIndex := 5, descriptorIndex := 6, attributes := #[] }, { accessFlags := 10, nameIndex := 345, descriptorIndex := 346, attributes := #[] }, { accessFlags := 9, nameIndex := 139, descriptorIndex := 342, attributes := #[] }, { accessFlags := 10, nameIndex := 341, descriptorIndex := 342, attributes := #[] }] 49 2 #[] #[{ accessFlags := 26, nameIndex := 715, descriptorIndex := 716, attributes := #[] }, { accessFlags := 26, nameIndex := 719, descriptorIndex := 716, attributes := #[] }, { accessFlags := 4120, nameIndex := 445, descriptorIndex := 117, attributes := #[] }])
  fields := #[{ name := "MIN_ARRAY_SORT_GRAN", type := .int, accessFlags := 26, slot := 0, constantValue := 0 }, { name := "INSERTIONSORT_THRESHOLD", type := .int, accessFlags := 26, slot := 1, constantValue := 0 }, { name := "$assertionsDisabled", type := .boolean, accessFlags := 4120, slot := 2, constantValue := 0 }]
  methods := #[k18m0, k18m1, k18m2, k18m3]
  instanceTypes := #[]
  staticTypes := #[.int, .int, .boolean]
  resolved := Array.replicate 1029 none
  statics := none }

def pool19 : Array CpInfo := pool [(1, .class_ 2), (0, u "java/lang/Math"), (1, .class_ 6), (1, u "java/lang/Object"), (0, u "<init>"), (0, u "()V"), (89, .class_ 100), (1, u "java/lang/Math$RandomNumberGeneratorHolder"), (71, u "negativeZeroFloatBits"), (0, u "J"), (2, u "negativeZeroDoubleBits"), (24, u "min"), (43, u "$assertionsDisabled"), (0, u "Z"), (88, u "(II)I"), (2, u "twoToTheDoubleScaleDown"), (0, u "D"), (4, u "twoToTheDoubleScaleUp"), (9, u "E"), (3, u "PI"), (2, u "TAU"), (2, u "DEGREES_TO_RADIANS"), (0, u "RADIANS_TO_DEGREES")] 94

def k19m0 : Method := { name := "<init>", desc := "()V", sig := { parameters := [], returnType := none }, accessFlags := 2, code := none }
def k19c1 : Code := { maxStack := 2, maxLocals := 2, code := jdk_29_method_69_code, exceptionTable := #[], attributes := #[] }
def k19m1 : Method := { name := "min", desc := "(II)I", sig := { parameters := [.int, .int], returnType := some .int }, accessFlags := 9, code := some k19c1 }
/-- java/lang/Math -/
def k19 : Class := { plain "java/lang/Math" (some 0) with
  accessFlags := 49
  interfaces := #[]
  cf := some (fileOf pool19 1 #[.nestMembers #[98]] #[{ accessFlags := 2, nameIndex := 7, descriptorIndex := 8, attributes := #[] }, { accessFlags := 9, nameIndex := 201, descriptorIndex := 335, attributes := #[] }] 49 4 #[] #[{ accessFlags := 25, nameIndex := 354, descriptorIndex := 339, attributes := #[] }, { accessFlags := 25, nameIndex := 358, descriptorIndex := 339, attributes := #[] }, { accessFlags := 25, nameIndex := 361, descriptorIndex := 339, attributes := #[] }, { accessFlags := 26, nameIndex := 364, descriptorIndex := 339, attributes := #[] }, { accessFlags := 26, nameIndex := 365, descriptorIndex := 339, attributes := #[] }, { accessFlags := 26, nameIndex := 172, descriptorIndex := 173, attributes := #[] }, { accessFlags := 26, nameIndex := 176, descriptorIndex := 173, attributes := #[] }, { accessFlags := 8, nameIndex := 344, descriptorIndex := 339, attributes := #[] }, { accessFlags := 8, nameIndex := 338, descriptorIndex := 339, attributes := #[] }, { accessFlags := 4120, nameIndex := 245, descriptorIndex := 246, attributes := #[] }])
  fields := #[{ name := "E", type := .double, accessFlags := 25, slot := 0, constantValue := 0 }, { name := "PI", type := .double, accessFlags := 25, slot := 1, constantValue := 0 }, { name := "TAU", type := .double, accessFlags := 25, slot := 2, constantValue := 0 }, { name := "DEGREES_TO_RADIANS", type := .double, accessFlags := 26, slot := 3, constantValue := 0 }, { name := "RADIANS_TO_DEGREES", type := .double, accessFlags := 26, slot := 4, constantValue := 0 }, { name := "negativeZeroFloatBits", type := .long, accessFlags := 26, slot := 5, constantValue := 0 }, { name := "negativeZeroDoubleBits", type := .long, accessFlags := 26, slot := 6, constantValue := 0 }, { name := "twoToTheDoubleScaleUp", type := .double, accessFlags := 8, slot := 7, constantValue := 0 }, { name := "twoToTheDoubleScaleDown", type := .double, accessFlags := 8, slot := 8, constantValue := 0 }, { name := "$assertionsDisabled", type := .boolean, accessFlags := 4120, slot := 9, constantValue := 0 }]
  methods := #[k19m0, k19m1]
  instanceTypes := #[]
  staticTypes := #[.double, .double, .double, .double, .double, .long, .long, .double, .double, .boolean]
  resolved := Array.replicate 460 none
  statics := none }

def pool20 : Array CpInfo := pool [(4, .class_ 6), (1, u "java/lang/Object"), (0, u "<init>"), (0, u "()V"), (5, .class_ 16), (1, u "java/lang/StringLatin1"), (104, u "$assertionsDisabled"), (0, u "Z"), (98, .class_ 223), (1, u "java/lang/StringLatin1$LinesSpliterator"), (166, .class_ 391), (0, u "java/lang/StringLatin1$CharsSpliterator")] 3

def k20m0 : Method := { name := "<init>", desc := "()V", sig := { parameters := [], returnType := none }, accessFlags := 0, code := none }
/-- java/lang/StringLatin1 -/
def k20 : Class := { plain "java/lang/StringLatin1" (some 0) with
  accessFlags := 48
  interfaces := #[]
  cf := some (fileOf pool20 14 #[.nestMembers #[390, 221]] #[{ accessFlags := 0, nameIndex := 7, descriptorIndex := 8, attributes := #[] }] 48 4 #[] #[{ accessFlags := 4120, nameIndex := 121, descriptorIndex := 122, attributes := #[] }])
  fields := #[{ name := "$assertionsDisabled", type := .boolean, accessFlags := 4120, slot := 0, constantValue := 0 }]
  methods := #[k20m0]
  instanceTypes := #[]
  staticTypes := #[.boolean]
  resolved := Array.replicate 395 none
  statics := none }

def pool21 : Array CpInfo := pool [(2, .class_ 4), (1, u "java/lang/Object"), (0, u "<init>"), (0, u "()V"), (17, .class_ 26), (1, u "jdk/internal/util/Preconditions"), (28, .class_ 56), (0, u "jdk/internal/util/Preconditions$4"), (57, .class_ 115), (0, u "jdk/internal/util/Preconditions$1"), (7, u "SIOOBE_FORMATTER"), (0, u "Ljava/util/function/BiFunction;"), (0, .class_ 126), (0, u "jdk/internal/util/Preconditions$2"), (3, u "AIOOBE_FORMATTER"), (0, .class_ 132), (0, u "jdk/internal/util/Preconditions$3"), (3, u "IOOBE_FORMATTER")] 57

def k21m0 : Method := { name := "<init>", desc := "()V", sig := { parameters := [], returnType := none }, accessFlags := 1, code := none }
/-- jdk/internal/util/Preconditions -/
def k21 : Class := { plain "jdk/internal/util/Preconditions" (some 0) with
  accessFlags := 33
  interfaces := #[]
  cf := some (fileOf pool21 24 #[.nestMembers #[55, 131, 125, 114]] #[{ accessFlags := 1, nameIndex := 5, descriptorIndex := 6, attributes := #[] }] 33 2 #[] #[{ accessFlags := 25, nameIndex := 123, descriptorIndex := 124, attributes := #[] }, { accessFlags := 25, nameIndex := 130, descriptorIndex := 124, attributes := #[] }, { accessFlags := 25, nameIndex := 136, descriptorIndex := 124, attributes := #[] }])
  fields := #[{ name := "SIOOBE_FORMATTER", type := (.object "java/util/function/BiFunction"), accessFlags := 25, slot := 0, constantValue := 0 }, { name := "AIOOBE_FORMATTER", type := (.object "java/util/function/BiFunction"), accessFlags := 25, slot := 1, constantValue := 0 }, { name := "IOOBE_FORMATTER", type := (.object "java/util/function/BiFunction"), accessFlags := 25, slot := 2, constantValue := 0 }]
  methods := #[k21m0]
  instanceTypes := #[]
  staticTypes := #[(.object "java/util/function/BiFunction"), (.object "java/util/function/BiFunction"), (.object "java/util/function/BiFunction")]
  resolved := Array.replicate 194 none
  statics := some 2 }

def pool22 : Array CpInfo := pool [(9, u "<init>"), (6, .class_ 18), (1, u "java/lang/Object"), (0, u "()V"), (1, .class_ 23), (1, u "jdk/internal/util/ArraysSupport"), (0, u "LOG2_ARRAY_LONG_INDEX_SCALE"), (0, u "I"), (2, u "U"), (0, u "Ljdk/internal/misc/Unsafe;"), (8, u "BIG_ENDIAN"), (0, u "Z"), (8, u "LOG2_BYTE_BIT_SIZE"), (4, u "LOG2_ARRAY_INT_INDEX_SCALE"), (54, u "JLA"), (0, u "Ljdk/internal/access/JavaLangAccess;"), (11, u "LOG2_ARRAY_BOOLEAN_INDEX_SCALE"), (9, u "LOG2_ARRAY_BYTE_INDEX_SCALE"), (5, u "LOG2_ARRAY_CHAR_INDEX_SCALE"), (5, u "LOG2_ARRAY_SHORT_INDEX_SCALE"), (18, u "LOG2_ARRAY_FLOAT_INDEX_SCALE"), (24, u "LOG2_ARRAY_DOUBLE_INDEX_SCALE"), (89, u "T_BOOLEAN"), (2, u "T_CHAR"), (1, u "T_FLOAT"), (1, u "T_DOUBLE"), (1, u "T_BYTE"), (1, u "T_SHORT"), (1, u "T_INT"), (1, u "T_LONG"), (1, u "SOFT_MAX_ARRAY_LENGTH")] 83

def k22m0 : Method := { name := "<init>", desc := "()V", sig := { parameters := [], returnType := none }, accessFlags := 2, code := none }
/-- jdk/internal/util/ArraysSupport -/
def k22 : Class := { plain "jdk/internal/util/ArraysSupport" (some 0) with
  accessFlags := 33
  interfaces := #[]
  cf := some (fileOf pool22 21 #[] #[{ accessFlags := 2, nameIndex := 9, descriptorIndex := 19, attributes := #[] }] 33 16 #[] #[{ accessFlags := 24, nameIndex := 28, descriptorIndex := 29, attributes := #[] }, { accessFlags := 26, nameIndex := 38, descriptorIndex := 39, attributes := #[] }, { accessFlags := 25, nameIndex := 121, descriptorIndex := 25, attributes := #[] }, { accessFlags := 25, nameIndex := 131, descriptorIndex := 25, attributes := #[] }, { accessFlags := 25, nameIndex := 137, descriptorIndex := 25, attributes := #[] }, { accessFlags := 25, nameIndex := 143, descriptorIndex := 25, attributes := #[] }, { accessFlags := 25, nameIndex := 53, descriptorIndex := 25, attributes := #[] }, { accessFlags := 25, nameIndex := 24, descriptorIndex := 25, attributes := #[] }, { accessFlags := 25, nameIndex := 162, descriptorIndex := 25, attributes := #[] }, { accessFlags := 25, nameIndex := 187, descriptorIndex := 25, attributes := #[] }, { accessFlags := 26, nameIndex := 48, descriptorIndex := 25, attributes := #[] }, { accessFlags := 25, nameIndex := 277, descriptorIndex := 25, attributes := #[] }, { accessFlags := 25, nameIndex := 280, descriptorIndex := 25, attributes := #[] }, { accessFlags := 25, nameIndex := 282, descriptorIndex := 25, attributes := #[] }, { accessFlags := 25, nameIndex := 284, descriptorIndex := 25, attributes := #[] }, { accessFlags := 25, nameIndex := 286, descriptorIndex := 25, attributes := #[] }, { accessFlags := 25, nameIndex := 288, descriptorIndex := 25, attributes := #[] }, { accessFlags := 25, nameIndex := 290, descriptorIndex := 25, attributes := #[] }, { accessFlags := 25, nameIndex := 292, descriptorIndex := 25, attributes := #[] }, { accessFlags := 26, nameIndex := 108, descriptorIndex := 109, attributes := #[] }, { accessFlags := 25, nameIndex := 294, descriptorIndex := 25, attributes := #[] }])
  fields := #[{ name := "U", type := (.object "jdk/internal/misc/Unsafe"), accessFlags := 24, slot := 0, constantValue := 0 }, { name := "BIG_ENDIAN", type := .boolean, accessFlags := 26, slot := 1, constantValue := 0 }, { name := "LOG2_ARRAY_BOOLEAN_INDEX_SCALE", type := .int, accessFlags := 25, slot := 2, constantValue := 0 }, { name := "LOG2_ARRAY_BYTE_INDEX_SCALE", type := .int, accessFlags := 25, slot := 3, constantValue := 0 }, { name := "LOG2_ARRAY_CHAR_INDEX_SCALE", type := .int, accessFlags := 25, slot := 4, constantValue := 0 }, { name := "LOG2_ARRAY_SHORT_INDEX_SCALE", type := .int, accessFlags := 25, slot := 5, constantValue := 0 }, { name := "LOG2_ARRAY_INT_INDEX_SCALE", type := .int, accessFlags := 25, slot := 6, constantValue := 0 }, { name := "LOG2_ARRAY_LONG_INDEX_SCALE", type := .int, accessFlags := 25, slot := 7, constantValue := 0 }, { name := "LOG2_ARRAY_FLOAT_INDEX_SCALE", type := .int, accessFlags := 25, slot := 8, constantValue := 0 }, { name := "LOG2_ARRAY_DOUBLE_INDEX_SCALE", type := .int, accessFlags := 25, slot := 9, constantValue := 0 }, { name := "LOG2_BYTE_BIT_SIZE", type := .int, accessFlags := 26, slot := 10, constantValue := 0 }, { name := "T_BOOLEAN", type := .int, accessFlags := 25, slot := 11, constantValue := 0 }, { name := "T_CHAR", type := .int, accessFlags := 25, slot := 12, constantValue := 0 }, { name := "T_FLOAT", type := .int, accessFlags := 25, slot := 13, constantValue := 0 }, { name := "T_DOUBLE", type := .int, accessFlags := 25, slot := 14, constantValue := 0 }, { name := "T_BYTE", type := .int, accessFlags := 25, slot := 15, constantValue := 0 }, { name := "T_SHORT", type := .int, accessFlags := 25, slot := 16, constantValue := 0 }, { name := "T_INT", type := .int, accessFlags := 25, slot := 17, constantValue := 0 }, { name := "T_LONG", type := .int, accessFlags := 25, slot := 18, constantValue := 0 }, { name := "JLA", type := (.object "jdk/internal/access/JavaLangAccess"), accessFlags := 26, slot := 19, constantValue := 0 }, { name := "SOFT_MAX_ARRAY_LENGTH", type := .int, accessFlags := 25, slot := 20, constantValue := 0 }]
  methods := #[k22m0]
  instanceTypes := #[]
  staticTypes := #[(.object "jdk/internal/misc/Unsafe"), .boolean, .int, .int, .int, .int, .int, .int, .int, .int, .int, .int, .int, .int, .int, .int, .int, .int, .int, (.object "jdk/internal/access/JavaLangAccess"), .int]
  resolved := Array.replicate 378 none
  statics := none }

def pool23 : Array CpInfo := pool [(1, u "java/lang/Cloneable"), (0, .class_ 1), (0, u "java/lang/Object"), (0, .class_ 3)] 3

/-- java/lang/Cloneable -/
def k23 : Class := { plain "java/lang/Cloneable" (some 0) with
  accessFlags := 1537
  interfaces := #[]
  cf := some (fileOf pool23 2 #[] #[] 1537 4 #[] #[])
  fields := #[]
  methods := #[]
  instanceTypes := #[]
  staticTypes := #[]
  resolved := Array.replicate 8 none
  statics := none }

/-- the primitive byte -/
def k24 : Class := { plain "byte" none with kind := .primitive 'B', accessFlags := 0x411 }
/-- [B -/
def k25 : Class := { plain "[B" (some 0) with kind := .array 24 .byte, interfaces := #[23, 9], accessFlags := 1041 }

/-- the primitive int -/
def k26 : Class := { plain "int" none with kind := .primitive 'I', accessFlags := 0x411 }
/-- [I -/
def k27 : Class := { plain "[I" (some 0) with kind := .array 26 .int, interfaces := #[23, 9], accessFlags := 1041 }

def heap : Heap := #[{ cls := 14, slots := #[.long 0, .int 1, .null, .int 0, .null, .int 0, .int 0], vm := .statics 14 },
  { cls := 17, slots := #[.int 0, .int 0, .null, .null, .ref 4, .ref 3, .int 0, .int 0, .long 0], vm := .statics 17 },
  { cls := 21, slots := #[.null, .null, .null], vm := .statics 21 },
  { cls := 25, slots := #[.int 48, .int 49, .int 50, .int 51, .int 52, .int 53, .int 54, .int 55, .int 56, .int 57, .int 48, .int 49, .int 50, .int 51, .int 52, .int 53, .int 54, .int 55, .int 56, .int 57, .int 48, .int 49, .int 50, .int 51, .int 52, .int 53, .int 54, .int 55, .int 56, .int 57, .int 48, .int 49, .int 50, .int 51, .int 52, .int 53, .int 54, .int 55, .int 56, .int 57, .int 48, .int 49, .int 50, .int 51, .int 52, .int 53, .int 54, .int 55, .int 56, .int 57, .int 48, .int 49, .int 50, .int 51, .int 52, .int 53, .int 54, .int 55, .int 56, .int 57, .int 48, .int 49, .int 50, .int 51, .int 52, .int 53, .int 54, .int 55, .int 56, .int 57, .int 48, .int 49, .int 50, .int 51, .int 52, .int 53, .int 54, .int 55, .int 56, .int 57, .int 48, .int 49, .int 50, .int 51, .int 52, .int 53, .int 54, .int 55, .int 56, .int 57, .int 48, .int 49, .int 50, .int 51, .int 52, .int 53, .int 54, .int 55, .int 56, .int 57], vm := .none },
  { cls := 25, slots := #[.int 48, .int 48, .int 48, .int 48, .int 48, .int 48, .int 48, .int 48, .int 48, .int 48, .int 49, .int 49, .int 49, .int 49, .int 49, .int 49, .int 49, .int 49, .int 49, .int 49, .int 50, .int 50, .int 50, .int 50, .int 50, .int 50, .int 50, .int 50, .int 50, .int 50, .int 51, .int 51, .int 51, .int 51, .int 51, .int 51, .int 51, .int 51, .int 51, .int 51, .int 52, .int 52, .int 52, .int 52, .int 52, .int 52, .int 52, .int 52, .int 52, .int 52, .int 53, .int 53, .int 53, .int 53, .int 53, .int 53, .int 53, .int 53, .int 53, .int 53, .int 54, .int 54, .int 54, .int 54, .int 54, .int 54, .int 54, .int 54, .int 54, .int 54, .int 55, .int 55, .int 55, .int 55, .int 55, .int 55, .int 55, .int 55, .int 55, .int 55, .int 56, .int 56, .int 56, .int 56, .int 56, .int 56, .int 56, .int 56, .int 56, .int 56, .int 57, .int 57, .int 57, .int 57, .int 57, .int 57, .int 57, .int 57, .int 57, .int 57], vm := .none }]
def classes : Array Class := #[k0, k1, k2, k3, k4, k5, k6, k7, k8, k9, k10, k11, k12, k13, k14, k15, k16, k17, k18, k19, k20, k21, k22, k23, k24, k25, k26, k27]
def interned : List (Array UInt16 × Addr) := []
def slotsUsed : Nat := 219
def theMethod : MethodId := ⟨1, 1⟩
def args0 : Array Value := #[.int 15]
def aboutOver (below : List Frame) : State where
  vm := { classes := classes, interned := interned.toArray }
  heap := heap
  slotsUsed := slotsUsed
  threads := #[{ frames := .invoking theMethod args0 :: below }]
def below0 : List Frame := [.native { method := ⟨0, 0⟩, args := #[] }]
def about1 : State := aboutOver below0
def p0 : Program := .bare "" "" ""
def e0 : Env := launch0.env 0 0 0
theorem w_frames : about1.frames = Frame.invoking theMethod args0 :: below0 := rfl
set_option maxRecDepth 65536 in
theorem w_args : argsFit about1.vm theMethod args0 = true := by decide +kernel
set_option maxRecDepth 65536 in
theorem w_heap : heapFits about1 = true := by decide +kernel
set_option maxRecDepth 65536 in
theorem w_runnable : about1.curStatus? = some .runnable := by decide +kernel
set_option maxRecDepth 65536 in
theorem w_alone : about1.alone = true := by decide +kernel
set_option maxRecDepth 65536 in
theorem w_named : about1.methodNamed? x = some theMethod := by decide +kernel
set_option maxRecDepth 65536 in
theorem w_hears : about1.hears theMethod below0 = true := by decide +kernel
set_option maxRecDepth 65536 in
theorem w_ripe : about1.ripe theMethod args0 below0 = true := by decide +kernel
theorem w_running : about1.status = .running := rfl
set_option maxRecDepth 65536 in
theorem w_room : about1.hasRoom e0.platform room_1 = true :=
  launch0.hasRoom_least _ room_1 (by decide +kernel) (by decide +kernel) (by decide +kernel) (by decide +kernel) (by decide +kernel) (by decide +kernel)
theorem allAtoms_all (ts : List Jvm.Cond) (a : Array Jvm.Value) (st : Jvm.State) : (allAtoms ts).before a st = ts.all (fun c => c.before a st) := by
  induction ts with
  | nil => rfl
  | cons c t ih =>
    show (Jvm.Cond.and c (allAtoms t)).before a st = _
    rw [Jvm.Cond.before_and, ih, List.all_cons]
def words1 : List Jvm.Cond := Jvm.Cond.code x code maxLocals ret :: tables_1
/-- a 'code' word, met by the world's own term for the bytes: nothing is compared byte by byte -/
theorem code_word {y : MethodName} {bytes : ByteArray} {mx : Nat} {rt : Option FieldType} {a : Array Value} {s : State} {m : MethodId} {meth : Method} {c : Code} (h1 : s.methodNamed? y = some m) (h2 : s.vm.method? m = some meth) (h3 : meth.code = some c) (h4 : c.code = bytes)
    (h5 : (c.maxLocals == mx && c.exceptionTable.isEmpty && decide (c.maxStack ≤ mostOperands) && decide (meth.sig.returnType = rt) && !meth.locks && decide (parseMethodDescriptor y.desc = some meth.sig)) = true) : (Jvm.Cond.code y bytes mx rt).before a s = true := by
  simp only [Bool.and_eq_true, beq_iff_eq, Bool.not_eq_true', decide_eq_true_eq] at h5
  obtain ⟨⟨⟨⟨⟨g1, g2⟩, g3⟩, g4⟩, g5⟩, g6⟩ := h5
  simp [Cond.before, Cond.holds, Cond.value, h1, h2, h3, h4, g1, g2, g3, g4, g5, g6]
def isCode : Jvm.Cond → Bool
  | .code _ _ _ _ => true
  | _ => false
theorem all_split {L : List Jvm.Cond} {P : Jvm.Cond → Bool} (h1 : L.all (fun c => isCode c || P c) = true) (h2 : ∀ c ∈ L.filter isCode, P c = true) : L.all P = true := by
  refine List.all_eq_true.mpr fun c hc => ?_
  have h := List.all_eq_true.mp h1 c hc
  rcases Bool.eq_false_or_eq_true (isCode c) with hi | hi
  · exact h2 c (List.mem_filter.mpr ⟨hc, hi⟩)
  · simpa [hi] using h
set_option maxRecDepth 65536 in
theorem w_c0 : (Jvm.Cond.code x code maxLocals ret).before args0 about1 = true := code_word (m := ⟨1, 1⟩) (meth := k1m1) (c := k1c1) (by decide +kernel) rfl rfl rfl (by decide +kernel)
set_option maxRecDepth 65536 in
theorem w_c1 : (Jvm.Cond.code ({ cls := "com/example/wildsolve/wildsolve/infer/Fresh", name := "<init>", desc := "()V" } : Jvm.MethodName) prog_22_method_1_code (1 : Nat) (Option.none : Option Jvm.ClassFile.FieldType)).before args0 about1 = true := code_word (m := ⟨2, 0⟩) (meth := k2m0) (c := k2c0) (by decide +kernel) rfl rfl rfl (by decide +kernel)
set_option maxRecDepth 65536 in
theorem w_c2 : (Jvm.Cond.code ({ cls := "java/lang/Object", name := "<init>", desc := "()V" } : Jvm.MethodName) object_method_1_code (1 : Nat) (Option.none : Option Jvm.ClassFile.FieldType)).before args0 about1 = true := code_word (m := ⟨0, 0⟩) (meth := k0m0) (c := k0c0) (by decide +kernel) rfl rfl rfl (by decide +kernel)
set_option maxRecDepth 65536 in
theorem w_c3 : (Jvm.Cond.code ({ cls := "com/example/wildsolve/wildsolve/infer/FreshOrdinaryPinLaw", name := "step", desc := "(Lcom/example/wildsolve/wildsolve/infer/Fresh;Z)Lcom/example/wildsolve/wildsolve/solver/Placeholder;" } : Jvm.MethodName) method_3_code (2 : Nat) (Option.some (Jvm.ClassFile.FieldType.object "com/example/wildsolve/wildsolve/solver/Placeholder"))).before args0 about1 = true := code_word (m := ⟨1, 2⟩) (meth := k1m2) (c := k1c2) (by decide +kernel) rfl rfl rfl (by decide +kernel)
set_option maxRecDepth 65536 in
theorem w_c4 : (Jvm.Cond.code ({ cls := "com/example/wildsolve/wildsolve/infer/Fresh", name := "wildcard", desc := "()Lcom/example/wildsolve/wildsolve/solver/Placeholder;" } : Jvm.MethodName) prog_22_method_3_code (1 : Nat) (Option.some (Jvm.ClassFile.FieldType.object "com/example/wildsolve/wildsolve/solver/Placeholder"))).before args0 about1 = true := code_word (m := ⟨2, 2⟩) (meth := k2m2) (c := k2c2) (by decide +kernel) rfl rfl rfl (by decide +kernel)
set_option maxRecDepth 65536 in
theorem w_c5 : (Jvm.Cond.code ({ cls := "com/example/wildsolve/wildsolve/solver/Placeholder", name := "<init>", desc := "(IZ)V" } : Jvm.MethodName) prog_141_method_1_code (3 : Nat) (Option.none : Option Jvm.ClassFile.FieldType)).before args0 about1 = true := code_word (m := ⟨5, 0⟩) (meth := k5m0) (c := k5c0) (by decide +kernel) rfl rfl rfl (by decide +kernel)
set_option maxRecDepth 65536 in
theorem w_c6 : (Jvm.Cond.code ({ cls := "java/lang/Record", name := "<init>", desc := "()V" } : Jvm.MethodName) jdk_30_method_1_code (1 : Nat) (Option.none : Option Jvm.ClassFile.FieldType)).before args0 about1 = true := code_word (m := ⟨3, 0⟩) (meth := k3m0) (c := k3c0) (by decide +kernel) rfl rfl rfl (by decide +kernel)
set_option maxRecDepth 65536 in
theorem w_c7 : (Jvm.Cond.code ({ cls := "com/example/wildsolve/wildsolve/infer/FreshOrdinaryPinLaw", name := "check", desc := "(Lcom/example/wildsolve/wildsolve/solver/Placeholder;IZ)Z" } : Jvm.MethodName) method_4_code (3 : Nat) (Option.some Jvm.ClassFile.FieldType.boolean)).before args0 about1 = true := code_word (m := ⟨1, 3⟩) (meth := k1m3) (c := k1c3) (by decide +kernel) rfl rfl rfl (by decide +kernel)
set_option maxRecDepth 65536 in
theorem w_c8 : (Jvm.Cond.code ({ cls := "com/example/wildsolve/wildsolve/solver/Placeholder", name := "id", desc := "()I" } : Jvm.MethodName) prog_141_method_5_code (1 : Nat) (Option.some Jvm.ClassFile.FieldType.int)).before args0 about1 = true := code_word (m := ⟨5, 1⟩) (meth := k5m1) (c := k5c1) (by decide +kernel) rfl rfl rfl (by decide +kernel)
set_option maxRecDepth 65536 in
theorem w_c9 : (Jvm.Cond.code ({ cls := "com/example/wildsolve/wildsolve/solver/Placeholder", name := "wildcard", desc := "()Z" } : Jvm.MethodName) prog_141_method_6_code (1 : Nat) (Option.some Jvm.ClassFile.FieldType.boolean)).before args0 about1 = true := code_word (m := ⟨5, 2⟩) (meth := k5m2) (c := k5c2) (by decide +kernel) rfl rfl rfl (by decide +kernel)
set_option maxRecDepth 65536 in
theorem w_c10 : (Jvm.Cond.code ({ cls := "com/example/wildsolve/wildsolve/infer/Fresh", name := "ordinary", desc := "()Lcom/example/wildsolve/wildsolve/solver/Placeholder;" } : Jvm.MethodName) prog_22_method_2_code (1 : Nat) (Option.some (Jvm.ClassFile.FieldType.object "com/example/wildsolve/wildsolve/solver/Placeholder"))).before args0 about1 = true := code_word (m := ⟨2, 1⟩) (meth := k2m1) (c := k2c1) (by decide +kernel) rfl rfl rfl (by decide +kernel)
set_option maxRecDepth 65536 in
theorem w_c11 : (Jvm.Cond.code ({ cls := "com/example/wildsolve/wildsolve/infer/Fresh", name := "variable", desc := "()Ljava/lang/String;" } : Jvm.MethodName) prog_22_method_4_code (1 : Nat) (Option.some (Jvm.ClassFile.FieldType.object "java/lang/String"))).before args0 about1 = true := code_word (m := ⟨2, 3⟩) (meth := k2m3) (c := k2c3) (by decide +kernel) rfl rfl rfl (by decide +kernel)
set_option maxRecDepth 65536 in
theorem w_c12 : (Jvm.Cond.code ({ cls := "java/lang/StringBuilder", name := "<init>", desc := "()V" } : Jvm.MethodName) jdk_67_method_1_code (1 : Nat) (Option.none : Option Jvm.ClassFile.FieldType)).before args0 about1 = true := code_word (m := ⟨11, 0⟩) (meth := k11m0) (c := k11c0) (by decide +kernel) rfl rfl rfl (by decide +kernel)
set_option maxRecDepth 65536 in
theorem w_c13 : (Jvm.Cond.code ({ cls := "java/lang/AbstractStringBuilder", name := "<init>", desc := "(I)V" } : Jvm.MethodName) jdk_68_method_2_code (2 : Nat) (Option.none : Option Jvm.ClassFile.FieldType)).before args0 about1 = true := code_word (m := ⟨8, 1⟩) (meth := k8m1) (c := k8c1) (by decide +kernel) rfl rfl rfl (by decide +kernel)
set_option maxRecDepth 65536 in
theorem w_c14 : (Jvm.Cond.code ({ cls := "java/lang/StringBuilder", name := "append", desc := "(Ljava/lang/String;)Ljava/lang/StringBuilder;" } : Jvm.MethodName) jdk_67_method_7_code (2 : Nat) (Option.some (Jvm.ClassFile.FieldType.object "java/lang/StringBuilder"))).before args0 about1 = true := code_word (m := ⟨11, 1⟩) (meth := k11m1) (c := k11c1) (by decide +kernel) rfl rfl rfl (by decide +kernel)
set_option maxRecDepth 65536 in
theorem w_c15 : (Jvm.Cond.code ({ cls := "java/lang/AbstractStringBuilder", name := "append", desc := "(Ljava/lang/String;)Ljava/lang/AbstractStringBuilder;" } : Jvm.MethodName) jdk_68_method_22_code (3 : Nat) (Option.some (Jvm.ClassFile.FieldType.object "java/lang/AbstractStringBuilder"))).before args0 about1 = true := code_word (m := ⟨8, 4⟩) (meth := k8m4) (c := k8c4) (by decide +kernel) rfl rfl rfl (by decide +kernel)
set_option maxRecDepth 65536 in
theorem w_c16 : (Jvm.Cond.code ({ cls := "java/lang/String", name := "length", desc := "()I" } : Jvm.MethodName) jdk_42_method_54_code (1 : Nat) (Option.some Jvm.ClassFile.FieldType.int)).before args0 about1 = true := code_word (m := ⟨14, 2⟩) (meth := k14m2) (c := k14c2) (by decide +kernel) rfl rfl rfl (by decide +kernel)
set_option maxRecDepth 65536 in
theorem w_c17 : (Jvm.Cond.code ({ cls := "java/lang/String", name := "coder", desc := "()B" } : Jvm.MethodName) jdk_42_method_152_code (1 : Nat) (Option.some Jvm.ClassFile.FieldType.byte)).before args0 about1 = true := code_word (m := ⟨14, 5⟩) (meth := k14m5) (c := k14c5) (by decide +kernel) rfl rfl rfl (by decide +kernel)
set_option maxRecDepth 65536 in
theorem w_c18 : (Jvm.Cond.code ({ cls := "java/lang/AbstractStringBuilder", name := "ensureCapacityInternal", desc := "(I)V" } : Jvm.MethodName) jdk_68_method_9_code (3 : Nat) (Option.none : Option Jvm.ClassFile.FieldType)).before args0 about1 = true := code_word (m := ⟨8, 3⟩) (meth := k8m3) (c := k8c3) (by decide +kernel) rfl rfl rfl (by decide +kernel)
set_option maxRecDepth 65536 in
theorem w_c19 : (Jvm.Cond.code ({ cls := "java/lang/AbstractStringBuilder", name := "putStringAt", desc := "(ILjava/lang/String;)V" } : Jvm.MethodName) jdk_68_method_73_code (3 : Nat) (Option.none : Option Jvm.ClassFile.FieldType)).before args0 about1 = true := code_word (m := ⟨8, 9⟩) (meth := k8m9) (c := k8c9) (by decide +kernel) rfl rfl rfl (by decide +kernel)
set_option maxRecDepth 65536 in
theorem w_c20 : (Jvm.Cond.code ({ cls := "java/lang/AbstractStringBuilder", name := "inflateIfNeededFor", desc := "(Ljava/lang/String;)V" } : Jvm.MethodName) jdk_68_method_71_code (2 : Nat) (Option.none : Option Jvm.ClassFile.FieldType)).before args0 about1 = true := code_word (m := ⟨8, 8⟩) (meth := k8m8) (c := k8c8) (by decide +kernel) rfl rfl rfl (by decide +kernel)
set_option maxRecDepth 65536 in
theorem w_c21 : (Jvm.Cond.code ({ cls := "java/lang/String", name := "getBytes", desc := "([BIB)V" } : Jvm.MethodName) jdk_42_method_147_code (4 : Nat) (Option.none : Option Jvm.ClassFile.FieldType)).before args0 about1 = true := code_word (m := ⟨14, 3⟩) (meth := k14m3) (c := k14c3) (by decide +kernel) rfl rfl rfl (by decide +kernel)
set_option maxRecDepth 65536 in
theorem w_c22 : (Jvm.Cond.code ({ cls := "java/lang/StringBuilder", name := "append", desc := "(I)Ljava/lang/StringBuilder;" } : Jvm.MethodName) jdk_67_method_15_code (2 : Nat) (Option.some (Jvm.ClassFile.FieldType.object "java/lang/StringBuilder"))).before args0 about1 = true := code_word (m := ⟨11, 2⟩) (meth := k11m2) (c := k11c2) (by decide +kernel) rfl rfl rfl (by decide +kernel)
set_option maxRecDepth 65536 in
theorem w_c23 : (Jvm.Cond.code ({ cls := "java/lang/AbstractStringBuilder", name := "append", desc := "(I)Ljava/lang/AbstractStringBuilder;" } : Jvm.MethodName) jdk_68_method_32_code (4 : Nat) (Option.some (Jvm.ClassFile.FieldType.object "java/lang/AbstractStringBuilder"))).before args0 about1 = true := code_word (m := ⟨8, 5⟩) (meth := k8m5) (c := k8c5) (by decide +kernel) rfl rfl rfl (by decide +kernel)
set_option maxRecDepth 65536 in
theorem w_c24 : (Jvm.Cond.code ({ cls := "java/lang/Integer", name := "stringSize", desc := "(I)I" } : Jvm.MethodName) jdk_33_method_13_code (4 : Nat) (Option.some Jvm.ClassFile.FieldType.int)).before args0 about1 = true := code_word (m := ⟨17, 1⟩) (meth := k17m1) (c := k17c1) (by decide +kernel) rfl rfl rfl (by decide +kernel)
set_option maxRecDepth 65536 in
theorem w_c25 : (Jvm.Cond.code ({ cls := "java/lang/AbstractStringBuilder", name := "isLatin1", desc := "()Z" } : Jvm.MethodName) jdk_68_method_68_code (1 : Nat) (Option.some Jvm.ClassFile.FieldType.boolean)).before args0 about1 = true := code_word (m := ⟨8, 7⟩) (meth := k8m7) (c := k8c7) (by decide +kernel) rfl rfl rfl (by decide +kernel)
set_option maxRecDepth 65536 in
theorem w_c26 : (Jvm.Cond.code ({ cls := "java/lang/Integer", name := "getChars", desc := "(II[B)I" } : Jvm.MethodName) jdk_33_method_12_code (7 : Nat) (Option.some Jvm.ClassFile.FieldType.int)).before args0 about1 = true := code_word (m := ⟨17, 0⟩) (meth := k17m0) (c := k17c0) (by decide +kernel) rfl rfl rfl (by decide +kernel)
set_option maxRecDepth 65536 in
theorem w_c27 : (Jvm.Cond.code ({ cls := "java/lang/StringBuilder", name := "toString", desc := "()Ljava/lang/String;" } : Jvm.MethodName) jdk_67_method_42_code (1 : Nat) (Option.some (Jvm.ClassFile.FieldType.object "java/lang/String"))).before args0 about1 = true := code_word (m := ⟨11, 3⟩) (meth := k11m3) (c := k11c3) (by decide +kernel) rfl rfl rfl (by decide +kernel)
set_option maxRecDepth 65536 in
theorem w_c28 : (Jvm.Cond.code ({ cls := "java/lang/String", name := "<init>", desc := "(Ljava/lang/StringBuilder;)V" } : Jvm.MethodName) jdk_42_method_53_code (2 : Nat) (Option.none : Option Jvm.ClassFile.FieldType)).before args0 about1 = true := code_word (m := ⟨14, 1⟩) (meth := k14m1) (c := k14c1) (by decide +kernel) rfl rfl rfl (by decide +kernel)
set_option maxRecDepth 65536 in
theorem w_c29 : (Jvm.Cond.code ({ cls := "java/lang/String", name := "<init>", desc := "(Ljava/lang/AbstractStringBuilder;Ljava/lang/Void;)V" } : Jvm.MethodName) jdk_42_method_150_code (5 : Nat) (Option.none : Option Jvm.ClassFile.FieldType)).before args0 about1 = true := code_word (m := ⟨14, 4⟩) (meth := k14m4) (c := k14c4) (by decide +kernel) rfl rfl rfl (by decide +kernel)
set_option maxRecDepth 65536 in
theorem w_c30 : (Jvm.Cond.code ({ cls := "java/lang/AbstractStringBuilder", name := "getValue", desc := "()[B" } : Jvm.MethodName) jdk_68_method_64_code (1 : Nat) (Option.some (Jvm.ClassFile.FieldType.array Jvm.ClassFile.FieldType.byte))).before args0 about1 = true := code_word (m := ⟨8, 6⟩) (meth := k8m6) (c := k8c6) (by decide +kernel) rfl rfl rfl (by decide +kernel)
set_option maxRecDepth 65536 in
theorem w_c31 : (Jvm.Cond.code ({ cls := "java/lang/StringBuilder", name := "length", desc := "()I" } : Jvm.MethodName) jdk_67_method_93_code (1 : Nat) (Option.some Jvm.ClassFile.FieldType.int)).before args0 about1 = true := code_word (m := ⟨11, 4⟩) (meth := k11m4) (c := k11c4) (by decide +kernel) rfl rfl rfl (by decide +kernel)
set_option maxRecDepth 65536 in
theorem w_c32 : (Jvm.Cond.code ({ cls := "java/lang/AbstractStringBuilder", name := "length", desc := "()I" } : Jvm.MethodName) jdk_68_method_6_code (1 : Nat) (Option.some Jvm.ClassFile.FieldType.int)).before args0 about1 = true := code_word (m := ⟨8, 2⟩) (meth := k8m2) (c := k8c2) (by decide +kernel) rfl rfl rfl (by decide +kernel)
set_option maxRecDepth 65536 in
theorem w_c33 : (Jvm.Cond.code ({ cls := "java/util/Arrays", name := "copyOfRange", desc := "([BII)[B" } : Jvm.MethodName) jdk_65_method_132_code (3 : Nat) (Option.some (Jvm.ClassFile.FieldType.array Jvm.ClassFile.FieldType.byte))).before args0 about1 = true := code_word (m := ⟨18, 2⟩) (meth := k18m2) (c := k18c2) (by decide +kernel) rfl rfl rfl (by decide +kernel)
set_option maxRecDepth 65536 in
theorem w_c34 : (Jvm.Cond.code ({ cls := "java/util/Arrays", name := "copyOfRangeByte", desc := "([BII)[B" } : Jvm.MethodName) jdk_65_method_133_code (5 : Nat) (Option.some (Jvm.ClassFile.FieldType.array Jvm.ClassFile.FieldType.byte))).before args0 about1 = true := code_word (m := ⟨18, 3⟩) (meth := k18m3) (c := k18c3) (by decide +kernel) rfl rfl rfl (by decide +kernel)
set_option maxRecDepth 65536 in
theorem w_c35 : (Jvm.Cond.code ({ cls := "java/util/Arrays", name := "checkLength", desc := "(II)V" } : Jvm.MethodName) jdk_65_method_131_code (2 : Nat) (Option.none : Option Jvm.ClassFile.FieldType)).before args0 about1 = true := code_word (m := ⟨18, 1⟩) (meth := k18m1) (c := k18c1) (by decide +kernel) rfl rfl rfl (by decide +kernel)
set_option maxRecDepth 65536 in
theorem w_c36 : (Jvm.Cond.code ({ cls := "java/lang/Math", name := "min", desc := "(II)I" } : Jvm.MethodName) jdk_29_method_69_code (2 : Nat) (Option.some Jvm.ClassFile.FieldType.int)).before args0 about1 = true := code_word (m := ⟨19, 1⟩) (meth := k19m1) (c := k19c1) (by decide +kernel) rfl rfl rfl (by decide +kernel)
def codes1 : List Jvm.Cond := [Jvm.Cond.code x code maxLocals ret, Jvm.Cond.code ({ cls := "com/example/wildsolve/wildsolve/infer/Fresh", name := "<init>", desc := "()V" } : Jvm.MethodName) prog_22_method_1_code (1 : Nat) (Option.none : Option Jvm.ClassFile.FieldType), Jvm.Cond.code ({ cls := "java/lang/Object", name := "<init>", desc := "()V" } : Jvm.MethodName) object_method_1_code (1 : Nat) (Option.none : Option Jvm.ClassFile.FieldType), Jvm.Cond.code ({ cls := "com/example/wildsolve/wildsolve/infer/FreshOrdinaryPinLaw", name := "step", desc := "(Lcom/example/wildsolve/wildsolve/infer/Fresh;Z)Lcom/example/wildsolve/wildsolve/solver/Placeholder;" } : Jvm.MethodName) method_3_code (2 : Nat) (Option.some (Jvm.ClassFile.FieldType.object "com/example/wildsolve/wildsolve/solver/Placeholder")), Jvm.Cond.code ({ cls := "com/example/wildsolve/wildsolve/infer/Fresh", name := "wildcard", desc := "()Lcom/example/wildsolve/wildsolve/solver/Placeholder;" } : Jvm.MethodName) prog_22_method_3_code (1 : Nat) (Option.some (Jvm.ClassFile.FieldType.object "com/example/wildsolve/wildsolve/solver/Placeholder")), Jvm.Cond.code ({ cls := "com/example/wildsolve/wildsolve/solver/Placeholder", name := "<init>", desc := "(IZ)V" } : Jvm.MethodName) prog_141_method_1_code (3 : Nat) (Option.none : Option Jvm.ClassFile.FieldType), Jvm.Cond.code ({ cls := "java/lang/Record", name := "<init>", desc := "()V" } : Jvm.MethodName) jdk_30_method_1_code (1 : Nat) (Option.none : Option Jvm.ClassFile.FieldType), Jvm.Cond.code ({ cls := "com/example/wildsolve/wildsolve/infer/FreshOrdinaryPinLaw", name := "check", desc := "(Lcom/example/wildsolve/wildsolve/solver/Placeholder;IZ)Z" } : Jvm.MethodName) method_4_code (3 : Nat) (Option.some Jvm.ClassFile.FieldType.boolean), Jvm.Cond.code ({ cls := "com/example/wildsolve/wildsolve/solver/Placeholder", name := "id", desc := "()I" } : Jvm.MethodName) prog_141_method_5_code (1 : Nat) (Option.some Jvm.ClassFile.FieldType.int), Jvm.Cond.code ({ cls := "com/example/wildsolve/wildsolve/solver/Placeholder", name := "wildcard", desc := "()Z" } : Jvm.MethodName) prog_141_method_6_code (1 : Nat) (Option.some Jvm.ClassFile.FieldType.boolean), Jvm.Cond.code ({ cls := "com/example/wildsolve/wildsolve/infer/Fresh", name := "ordinary", desc := "()Lcom/example/wildsolve/wildsolve/solver/Placeholder;" } : Jvm.MethodName) prog_22_method_2_code (1 : Nat) (Option.some (Jvm.ClassFile.FieldType.object "com/example/wildsolve/wildsolve/solver/Placeholder")), Jvm.Cond.code ({ cls := "com/example/wildsolve/wildsolve/infer/Fresh", name := "variable", desc := "()Ljava/lang/String;" } : Jvm.MethodName) prog_22_method_4_code (1 : Nat) (Option.some (Jvm.ClassFile.FieldType.object "java/lang/String")), Jvm.Cond.code ({ cls := "java/lang/StringBuilder", name := "<init>", desc := "()V" } : Jvm.MethodName) jdk_67_method_1_code (1 : Nat) (Option.none : Option Jvm.ClassFile.FieldType), Jvm.Cond.code ({ cls := "java/lang/AbstractStringBuilder", name := "<init>", desc := "(I)V" } : Jvm.MethodName) jdk_68_method_2_code (2 : Nat) (Option.none : Option Jvm.ClassFile.FieldType), Jvm.Cond.code ({ cls := "java/lang/StringBuilder", name := "append", desc := "(Ljava/lang/String;)Ljava/lang/StringBuilder;" } : Jvm.MethodName) jdk_67_method_7_code (2 : Nat) (Option.some (Jvm.ClassFile.FieldType.object "java/lang/StringBuilder")), Jvm.Cond.code ({ cls := "java/lang/AbstractStringBuilder", name := "append", desc := "(Ljava/lang/String;)Ljava/lang/AbstractStringBuilder;" } : Jvm.MethodName) jdk_68_method_22_code (3 : Nat) (Option.some (Jvm.ClassFile.FieldType.object "java/lang/AbstractStringBuilder")), Jvm.Cond.code ({ cls := "java/lang/String", name := "length", desc := "()I" } : Jvm.MethodName) jdk_42_method_54_code (1 : Nat) (Option.some Jvm.ClassFile.FieldType.int), Jvm.Cond.code ({ cls := "java/lang/String", name := "coder", desc := "()B" } : Jvm.MethodName) jdk_42_method_152_code (1 : Nat) (Option.some Jvm.ClassFile.FieldType.byte), Jvm.Cond.code ({ cls := "java/lang/AbstractStringBuilder", name := "ensureCapacityInternal", desc := "(I)V" } : Jvm.MethodName) jdk_68_method_9_code (3 : Nat) (Option.none : Option Jvm.ClassFile.FieldType), Jvm.Cond.code ({ cls := "java/lang/AbstractStringBuilder", name := "putStringAt", desc := "(ILjava/lang/String;)V" } : Jvm.MethodName) jdk_68_method_73_code (3 : Nat) (Option.none : Option Jvm.ClassFile.FieldType), Jvm.Cond.code ({ cls := "java/lang/AbstractStringBuilder", name := "inflateIfNeededFor", desc := "(Ljava/lang/String;)V" } : Jvm.MethodName) jdk_68_method_71_code (2 : Nat) (Option.none : Option Jvm.ClassFile.FieldType), Jvm.Cond.code ({ cls := "java/lang/String", name := "getBytes", desc := "([BIB)V" } : Jvm.MethodName) jdk_42_method_147_code (4 : Nat) (Option.none : Option Jvm.ClassFile.FieldType), Jvm.Cond.code ({ cls := "java/lang/StringBuilder", name := "append", desc := "(I)Ljava/lang/StringBuilder;" } : Jvm.MethodName) jdk_67_method_15_code (2 : Nat) (Option.some (Jvm.ClassFile.FieldType.object "java/lang/StringBuilder")), Jvm.Cond.code ({ cls := "java/lang/AbstractStringBuilder", name := "append", desc := "(I)Ljava/lang/AbstractStringBuilder;" } : Jvm.MethodName) jdk_68_method_32_code (4 : Nat) (Option.some (Jvm.ClassFile.FieldType.object "java/lang/AbstractStringBuilder")), Jvm.Cond.code ({ cls := "java/lang/Integer", name := "stringSize", desc := "(I)I" } : Jvm.MethodName) jdk_33_method_13_code (4 : Nat) (Option.some Jvm.ClassFile.FieldType.int), Jvm.Cond.code ({ cls := "java/lang/AbstractStringBuilder", name := "isLatin1", desc := "()Z" } : Jvm.MethodName) jdk_68_method_68_code (1 : Nat) (Option.some Jvm.ClassFile.FieldType.boolean), Jvm.Cond.code ({ cls := "java/lang/Integer", name := "getChars", desc := "(II[B)I" } : Jvm.MethodName) jdk_33_method_12_code (7 : Nat) (Option.some Jvm.ClassFile.FieldType.int), Jvm.Cond.code ({ cls := "java/lang/StringBuilder", name := "toString", desc := "()Ljava/lang/String;" } : Jvm.MethodName) jdk_67_method_42_code (1 : Nat) (Option.some (Jvm.ClassFile.FieldType.object "java/lang/String")), Jvm.Cond.code ({ cls := "java/lang/String", name := "<init>", desc := "(Ljava/lang/StringBuilder;)V" } : Jvm.MethodName) jdk_42_method_53_code (2 : Nat) (Option.none : Option Jvm.ClassFile.FieldType), Jvm.Cond.code ({ cls := "java/lang/String", name := "<init>", desc := "(Ljava/lang/AbstractStringBuilder;Ljava/lang/Void;)V" } : Jvm.MethodName) jdk_42_method_150_code (5 : Nat) (Option.none : Option Jvm.ClassFile.FieldType), Jvm.Cond.code ({ cls := "java/lang/AbstractStringBuilder", name := "getValue", desc := "()[B" } : Jvm.MethodName) jdk_68_method_64_code (1 : Nat) (Option.some (Jvm.ClassFile.FieldType.array Jvm.ClassFile.FieldType.byte)), Jvm.Cond.code ({ cls := "java/lang/StringBuilder", name := "length", desc := "()I" } : Jvm.MethodName) jdk_67_method_93_code (1 : Nat) (Option.some Jvm.ClassFile.FieldType.int), Jvm.Cond.code ({ cls := "java/lang/AbstractStringBuilder", name := "length", desc := "()I" } : Jvm.MethodName) jdk_68_method_6_code (1 : Nat) (Option.some Jvm.ClassFile.FieldType.int), Jvm.Cond.code ({ cls := "java/util/Arrays", name := "copyOfRange", desc := "([BII)[B" } : Jvm.MethodName) jdk_65_method_132_code (3 : Nat) (Option.some (Jvm.ClassFile.FieldType.array Jvm.ClassFile.FieldType.byte)), Jvm.Cond.code ({ cls := "java/util/Arrays", name := "copyOfRangeByte", desc := "([BII)[B" } : Jvm.MethodName) jdk_65_method_133_code (5 : Nat) (Option.some (Jvm.ClassFile.FieldType.array Jvm.ClassFile.FieldType.byte)), Jvm.Cond.code ({ cls := "java/util/Arrays", name := "checkLength", desc := "(II)V" } : Jvm.MethodName) jdk_65_method_131_code (2 : Nat) (Option.none : Option Jvm.ClassFile.FieldType), Jvm.Cond.code ({ cls := "java/lang/Math", name := "min", desc := "(II)I" } : Jvm.MethodName) jdk_29_method_69_code (2 : Nat) (Option.some Jvm.ClassFile.FieldType.int)]
set_option maxRecDepth 65536 in
theorem codes_eq : words1.filter isCode = codes1 := rfl
theorem w_codes : ∀ c ∈ words1.filter isCode, c.before args0 about1 = true := by
  rw [codes_eq]
  intro c hc
  simp only [codes1, List.mem_cons, List.not_mem_nil, or_false] at hc
  rcases hc with rfl | rfl | rfl | rfl | rfl | rfl | rfl | rfl | rfl | rfl | rfl | rfl | rfl | rfl | rfl | rfl | rfl | rfl | rfl | rfl | rfl | rfl | rfl | rfl | rfl | rfl | rfl | rfl | rfl | rfl | rfl | rfl | rfl | rfl | rfl | rfl | rfl
  · exact w_c0
  · exact w_c1
  · exact w_c2
  · exact w_c3
  · exact w_c4
  · exact w_c5
  · exact w_c6
  · exact w_c7
  · exact w_c8
  · exact w_c9
  · exact w_c10
  · exact w_c11
  · exact w_c12
  · exact w_c13
  · exact w_c14
  · exact w_c15
  · exact w_c16
  · exact w_c17
  · exact w_c18
  · exact w_c19
  · exact w_c20
  · exact w_c21
  · exact w_c22
  · exact w_c23
  · exact w_c24
  · exact w_c25
  · exact w_c26
  · exact w_c27
  · exact w_c28
  · exact w_c29
  · exact w_c30
  · exact w_c31
  · exact w_c32
  · exact w_c33
  · exact w_c34
  · exact w_c35
  · exact w_c36
set_option maxRecDepth 65536 in
theorem w_t1 : (words1.take 24).all (fun c => isCode c || c.before args0 about1) = true := by decide +kernel
set_option maxRecDepth 65536 in
theorem w_t2 : ((words1.drop 24).take 24).all (fun c => isCode c || c.before args0 about1) = true := by decide +kernel
set_option maxRecDepth 65536 in
theorem w_t3 : (((words1.drop 24).drop 24).take 24).all (fun c => isCode c || c.before args0 about1) = true := by decide +kernel
set_option maxRecDepth 65536 in
theorem w_t4 : ((((words1.drop 24).drop 24).drop 24).take 24).all (fun c => isCode c || c.before args0 about1) = true := by decide +kernel
set_option maxRecDepth 65536 in
theorem w_t5 : (((((words1.drop 24).drop 24).drop 24).drop 24).take 24).all (fun c => isCode c || c.before args0 about1) = true := by decide +kernel
set_option maxRecDepth 65536 in
theorem w_t6 : ((((((words1.drop 24).drop 24).drop 24).drop 24).drop 24).take 24).all (fun c => isCode c || c.before args0 about1) = true := by decide +kernel
set_option maxRecDepth 65536 in
theorem w_t7 : (((((((words1.drop 24).drop 24).drop 24).drop 24).drop 24).drop 24).take 24).all (fun c => isCode c || c.before args0 about1) = true := by decide +kernel
set_option maxRecDepth 65536 in
theorem w_t8 : ((((((((words1.drop 24).drop 24).drop 24).drop 24).drop 24).drop 24).drop 24).take 24).all (fun c => isCode c || c.before args0 about1) = true := by decide +kernel
set_option maxRecDepth 65536 in
theorem w_t9 : ((((((((words1.drop 24).drop 24).drop 24).drop 24).drop 24).drop 24).drop 24).drop 24).all (fun c => isCode c || c.before args0 about1) = true := by decide +kernel
theorem w_tables : (allAtoms (Jvm.Cond.code x code maxLocals ret :: tables_1)).before args0 about1 = true := by
  rw [allAtoms_all]
  show words1.all (fun c => c.before args0 about1) = true
  refine all_split ?_ w_codes
  rw [← List.take_append_drop 24 words1, List.all_append, w_t1, ← List.take_append_drop 24 (words1.drop 24), List.all_append, w_t2, ← List.take_append_drop 24 ((words1.drop 24).drop 24), List.all_append, w_t3, ← List.take_append_drop 24 (((words1.drop 24).drop 24).drop 24), List.all_append, w_t4, ← List.take_append_drop 24 ((((words1.drop 24).drop 24).drop 24).drop 24), List.all_append, w_t5, ← List.take_append_drop 24 (((((words1.drop 24).drop 24).drop 24).drop 24).drop 24), List.all_append, w_t6, ← List.take_append_drop 24 ((((((words1.drop 24).drop 24).drop 24).drop 24).drop 24).drop 24), List.all_append, w_t7, ← List.take_append_drop 24 (((((((words1.drop 24).drop 24).drop 24).drop 24).drop 24).drop 24).drop 24), List.all_append, w_t8, w_t9]
  rfl
set_option maxRecDepth 65536 in
theorem w_rest : rest_1_c.before args0 about1 = true := by decide +kernel
set_option maxRecDepth 65536 in
theorem w_case : (Jvm.Cond.and given_1 narrow_1).before args0 about1 = true := by decide +kernel
set_option maxRecDepth 65536 in
theorem w_consts : constsHeld consts_1 about1 := Jvm.Lit.constsHeldB_iff.mp (by decide +kernel)
theorem w_applies : (headSpec (Jvm.Cond.code x code maxLocals ret :: tables_1) room_1).applies x e0.platform about1 = true :=
  (Spec.applies_iff w_frames).mpr ⟨w_running, w_runnable, w_alone, w_named, w_hears, w_ripe, w_room, w_tables⟩
theorem atStart : AtStart classFile x code maxLocals ret World_1 tables_1 room_1 Calls_1 rest_1 Pre_1 launch0 p0 e0 about1 theMethod args0 below0 :=
  ⟨lists_1, trivial, launch0.admits_env _ _ _, launch0.least_env, fairChoices_fair.cas, fairChoices_fair.clock, w_frames, w_args, w_heap, w_applies, ⟨w_consts, trivial⟩, w_rest, w_case⟩
end start1
theorem witness_1 : WitnessClaimed_1 := ⟨start1.p0, start1.e0, start1.about1, start1.theMethod, start1.args0, start1.below0, start1.atStart⟩
end Jvm.Pilot.@@N@@
