import JvmDerived
import JvmDerived.Pilot.@@N@@Statement
import JvmDerived.Pilot.@@N@@Code
set_option linter.unusedVariables false
set_option linter.unusedSimpArgs false
namespace Jvm.Pilot.@@N@@
open Jvm Jvm.ClassFile Sem Op Lib Jvm.Free Jvm.Stand Jvm.LawKit Jvm.RoadKit Bundle Jvm.Pilot.@@N@@.Jvm.D
/-! own helpers: the goal of a walk as one predicate, its steps, its calls -/
section OwnKit
variable {p : Program} {l : Launch} {e : Env} {R : Room} {s : State} {m : MethodId} {args : Array Value} {below : List Frame} {meth : Method} {c : Code} {T : State} {locs : List Loc} {cells slots : Nat} {Z : State} {a0 : Array Value} {h : Heap} {Q : Option Value → Heap → List Loc → Prop} {kc ks : Nat}
/-- from S the run ends, returns, and Q holds of what it returns, of the heap and of the places written -/
def OGoal (p : Program) (e : Env) (below : List Frame) (s : State) (Q : Option Value → Heap → List Loc → Prop) (kc ks : Nat) (S : State) : Prop :=
  ∃ s₂ o, Steps p.tables e below S s₂ ∧ s₂.status = .running ∧ Ended s₂ below o ∧ ∃ v L, o = .returned v ∧ Q v s₂.heap L ∧ FrameEnd s o s₂ L kc ks
theorem OGoal.mp {S S' : State} (k : ∀ t, Steps p.tables e below S' t → Steps p.tables e below S t) (g : OGoal p e below s Q kc ks S') : OGoal p e below s Q kc ks S := by
  obtain ⟨s₂, o, h1, h2⟩ := g
  exact ⟨s₂, o, k _ h1, h2⟩
theorem oRet (X : Stand p l e R s m args below meth c T locs cells slots) (hx : p.tables.exec = Jvm.exec) (hlk : meth.locks = false) {pc : Nat} {Ls : Array Slot} {w : Value} {t : FieldType} {i : Instr} {rest : List Value} (hret : meth.sig.returnType = some t) (hn : narrow t w = w)
    (hi : (i = .ireturn ∧ (t = .int ∨ t = .boolean ∨ t = .byte ∨ t = .char ∨ t = .short) ∧ ∃ z, w = .int z) ∨ (i = .lreturn ∧ t = .long ∧ ∃ z, w = .long z) ∨ (i = .dreturn ∧ t = .double ∧ ∃ z, w = .double z) ∨ (i = .freturn ∧ t = .float ∧ ∃ z, w = .float z) ∨ (i = .areturn ∧ t.isReference = true ∧ w.isRef = true))
    (hd : decode c.code pc = .ok (i, 1)) (hQ : Q (some w) T.heap locs) (hc : cells ≤ kc) (hs : slots ≤ ks) : OGoal p e below s Q kc ks (T.setTop (mkF m pc Ls (w :: rest))) := by
  obtain ⟨fs, hr, hrun, hended, hW, hsame⟩ := X.leave (v := some w) (fun q => by rw [hret] at q; cases q) hlk
  exact ⟨_, _, retOut X hx hret hn hi hd hr, hrun, hended, _, _, rfl, hQ, ⟨_, rfl⟩, hW, hsame.mono hc hs⟩
theorem oRetI (X : Stand p l e R s m args below meth c T locs cells slots) (hx : p.tables.exec = Jvm.exec) (hlk : meth.locks = false) {pc : Nat} {Ls : Array Slot} {z : Int32} {rest : List Value} (hret : meth.sig.returnType = some .int)
    (hd : decode c.code pc = .ok (.ireturn, 1)) (hQ : Q (some (.int z)) T.heap locs) (hc : cells ≤ kc) (hs : slots ≤ ks) : OGoal p e below s Q kc ks (T.setTop (mkF m pc Ls (.int z :: rest))) :=
  oRet X hx hlk hret rfl (Or.inl ⟨rfl, Or.inl rfl, _, rfl⟩) hd hQ hc hs
theorem oRetZ (X : Stand p l e R s m args below meth c T locs cells slots) (hx : p.tables.exec = Jvm.exec) (hlk : meth.locks = false) {pc : Nat} {Ls : Array Slot} {z : Int32} {rest : List Value} (hret : meth.sig.returnType = some .boolean) (hz : z = 0 ∨ z = 1)
    (hd : decode c.code pc = .ok (.ireturn, 1)) (hQ : Q (some (.int z)) T.heap locs) (hc : cells ≤ kc) (hs : slots ≤ ks) : OGoal p e below s Q kc ks (T.setTop (mkF m pc Ls (.int z :: rest))) :=
  oRet X hx hlk hret (by rcases hz with rfl | rfl <;> rfl) (Or.inl ⟨rfl, Or.inr (Or.inl rfl), _, rfl⟩) hd hQ hc hs
theorem oRetJ (X : Stand p l e R s m args below meth c T locs cells slots) (hx : p.tables.exec = Jvm.exec) (hlk : meth.locks = false) {pc : Nat} {Ls : Array Slot} {z : Int64} {rest : List Value} (hret : meth.sig.returnType = some .long)
    (hd : decode c.code pc = .ok (.lreturn, 1)) (hQ : Q (some (.long z)) T.heap locs) (hc : cells ≤ kc) (hs : slots ≤ ks) : OGoal p e below s Q kc ks (T.setTop (mkF m pc Ls (.long z :: rest))) :=
  oRet X hx hlk hret rfl (Or.inr (Or.inl ⟨rfl, rfl, _, rfl⟩)) hd hQ hc hs
theorem oRetD (X : Stand p l e R s m args below meth c T locs cells slots) (hx : p.tables.exec = Jvm.exec) (hlk : meth.locks = false) {pc : Nat} {Ls : Array Slot} {z : UInt64} {rest : List Value} (hret : meth.sig.returnType = some .double)
    (hd : decode c.code pc = .ok (.dreturn, 1)) (hQ : Q (some (.double z)) T.heap locs) (hc : cells ≤ kc) (hs : slots ≤ ks) : OGoal p e below s Q kc ks (T.setTop (mkF m pc Ls (.double z :: rest))) :=
  oRet X hx hlk hret rfl (Or.inr (Or.inr (Or.inl ⟨rfl, rfl, _, rfl⟩))) hd hQ hc hs
theorem oNarC {x : Int32} (h : 0 ≤ x.toInt ∧ x.toInt < 65536) : x.toUInt32.toUInt16.toUInt32.toInt32 = x := Int32.toInt_inj.mp (by have q := c_i2c x; omega)
theorem oNarB {x : Int32} (h : -128 ≤ x.toInt ∧ x.toInt < 128) : x.toInt8.toInt32 = x := Int32.toInt_inj.mp (by have q := c_i2b x; omega)
theorem oNarBB (x : Int32) : nar .byte x.toInt8.toInt32 = x.toInt8.toInt32 := oNarB ⟨(c_i2b x).2.1, (c_i2b x).2.2⟩
theorem oRetC (X : Stand p l e R s m args below meth c T locs cells slots) (hx : p.tables.exec = Jvm.exec) (hlk : meth.locks = false) {pc : Nat} {Ls : Array Slot} {z : Int32} {rest : List Value} (hret : meth.sig.returnType = some .char) (hz : 0 ≤ z.toInt ∧ z.toInt < 65536)
    (hd : decode c.code pc = .ok (.ireturn, 1)) (hQ : Q (some (.int z)) T.heap locs) (hc : cells ≤ kc) (hs : slots ≤ ks) : OGoal p e below s Q kc ks (T.setTop (mkF m pc Ls (.int z :: rest))) :=
  oRet X hx hlk hret (congrArg Value.int (oNarC hz)) (Or.inl ⟨rfl, Or.inr (Or.inr (Or.inr (Or.inl rfl))), _, rfl⟩) hd hQ hc hs
theorem oRetB (X : Stand p l e R s m args below meth c T locs cells slots) (hx : p.tables.exec = Jvm.exec) (hlk : meth.locks = false) {pc : Nat} {Ls : Array Slot} {z : Int32} {rest : List Value} (hret : meth.sig.returnType = some .byte) (hz : -128 ≤ z.toInt ∧ z.toInt < 128)
    (hd : decode c.code pc = .ok (.ireturn, 1)) (hQ : Q (some (.int z)) T.heap locs) (hc : cells ≤ kc) (hs : slots ≤ ks) : OGoal p e below s Q kc ks (T.setTop (mkF m pc Ls (.int z :: rest))) :=
  oRet X hx hlk hret (congrArg Value.int (oNarB hz)) (Or.inl ⟨rfl, Or.inr (Or.inr (Or.inl rfl)), _, rfl⟩) hd hQ hc hs
theorem oRetA (X : Stand p l e R s m args below meth c T locs cells slots) (hx : p.tables.exec = Jvm.exec) (hlk : meth.locks = false) {pc : Nat} {Ls : Array Slot} {w : Value} {t : FieldType} {rest : List Value} (hret : meth.sig.returnType = some t) (ht : t.isReference = true) (hw : w.isRef = true)
    (hd : decode c.code pc = .ok (.areturn, 1)) (hQ : Q (some w) T.heap locs) (hc : cells ≤ kc) (hs : slots ≤ ks) : OGoal p e below s Q kc ks (T.setTop (mkF m pc Ls (w :: rest))) :=
  oRet X hx hlk hret (by cases t <;> cases w <;> first | rfl | (cases ht; done) | (cases hw; done)) (Or.inr (Or.inr (Or.inr (Or.inr ⟨rfl, ht, hw⟩)))) hd hQ hc hs
theorem oRetV (X : Stand p l e R s m args below meth c T locs cells slots) (hx : p.tables.exec = Jvm.exec) (hlk : meth.locks = false) {pc : Nat} {Ls : Array Slot} (hret : meth.sig.returnType = none)
    (hd : decode c.code pc = .ok (.return_, 1)) (hQ : Q none T.heap locs) (hc : cells ≤ kc) (hs : slots ≤ ks) : OGoal p e below s Q kc ks (T.setTop (mkF m pc Ls [])) := by
  obtain ⟨fs, hr, hrun, hended, hW, hsame⟩ := X.leave (v := none) (fun _ => rfl) hlk
  exact ⟨_, _, X.returnOut hx hret hd hr, hrun, hended, _, _, rfl, hQ, ⟨_, rfl⟩, hW, hsame.mono hc hs⟩
/-- the contract of a method: called with as' over the heap h it returns, and Q holds; kc cells and ks slots are made at the most -/
def OConK (l : Launch) (Z : State) (y : MethodName) (bytes : ByteArray) (maxL : Nat) (ret : Option FieldType) (rm : Room) (kc ks : Nat) (as' : Array Value) (h : Heap) (Q : Option Value → Heap → List Loc → Prop) : Prop :=
  ∀ ws : List Jvm.Cond, MetFree l y (head1 (Jvm.Cond.code y bytes maxL ret :: ws) rm) (fun a U => a = as' ∧ Z.Warmed39 U.vm ∧ U.heap = h) (fun _ _ _ _ _ => True) (fun _ U o U' => ∃ v L, o = .returned v ∧ Q v U'.heap L ∧ FrameEnd U o U' L kc ks)
abbrev OCon (l : Launch) (Z : State) (y : MethodName) (bytes : ByteArray) (maxL : Nat) (ret : Option FieldType) (rm : Room) (as' : Array Value) (h : Heap) (Q : Option Value → Heap → List Loc → Prop) : Prop := OConK l Z y bytes maxL ret rm rm.cells rm.slots as' h Q
theorem OConK.intro {y : MethodName} {bytes : ByteArray} {maxL : Nat} {ret : Option FieldType} {rm : Room} {as' : Array Value} {Ls : Array Slot} (hpf : plainFor y = true) (ef : ∀ m, entryFrame m as' maxL = mkF m 0 Ls [])
    (H : ∀ p e s m below meth c s₁, p.tables.exec = Jvm.exec → c.code = bytes → c.maxLocals = maxL → s.vm.findClass y.cls = some m.cls → meth.name = y.name → meth.sig.returnType = ret → meth.locks = false → Z.Warmed39 s.vm →
      Stand p l e rm s m as' below meth c s₁ [] 0 0 → s₁.heap = h → OGoal p e below s Q kc ks (s₁.setTop (mkF m 0 Ls []))) : OConK l Z y bytes maxL ret rm kc ks as' h Q := by
  intro ws
  refine MetFree.of_bodySF hpf hisR ?_
  intro p e s m args below meth c s₁ Bd hml hP hK
  obtain ⟨rfl, hZ, hh⟩ := hP
  obtain ⟨s₂, o, h1, h2, h3, h4⟩ := H p e s m below meth c s₁ Bd.exec Bd.bytes hml (findClass_of_methodNamed Bd.named) (name_of_methodNamed Bd.named Bd.method).1 Bd.returns (BodyLoose.notSynchronized Bd) hZ (Stand.of_body Bd) (by rw [← hh, Bd.state]; rfl)
  exact ⟨s₂, o, castTop (ef m) h1, h2, h3, h4⟩
/-- weaker promise -/
theorem OConK.imp {y : MethodName} {bytes : ByteArray} {maxL : Nat} {ret : Option FieldType} {rm : Room} {as' : Array Value} {Q' : Option Value → Heap → List Loc → Prop} (H : OConK l Z y bytes maxL ret rm kc ks as' h Q) (k : ∀ v h' L, Q v h' L → Q' v h' L) : OConK l Z y bytes maxL ret rm kc ks as' h Q' := by
  intro ws p e ha hc hk s m args below hf happ hP hK
  obtain ⟨n, o, h1, h2, h3, v, L, h4, h5, h6⟩ := H ws p e ha hc hk s m args below hf happ hP hK
  exact ⟨n, o, h1, h2, h3, v, L, h4, k _ _ _ h5, h6⟩
theorem oCallS (X : Stand p l e R s m args below meth c T locs cells slots) (hx : p.tables.exec = Jvm.exec) (hZ : Z.Warmed39 s.vm) {own : String} {index : Nat} {y : MethodName} {bytes : ByteArray} {maxL : Nat} {ret : Option FieldType} {rm : Room} {as' : Array Value} {Qc : Option Value → Heap → List Loc → Prop}
    (hown : s.vm.findClass own = some m.cls) (w1 : (Jvm.Cond.methodLink own index y).before a0 Z = true) (w2 : (Jvm.Cond.static y).before a0 Z = true) (w3 : (Jvm.Cond.initialized y.cls).before a0 Z = true) (w4 : (Jvm.Cond.code y bytes maxL ret).before a0 Z = true)
    (hy : y.cls ≠ "java/lang/invoke/MethodHandle" ∧ y.cls ≠ "java/lang/invoke/VarHandle") (hM : OCon l Z y bytes maxL ret rm as' h Qc) (eT : T.heap = h) {pc : Nat} {Ls : Array Slot} {st : List Value} (argsL rest : List Value) (hst : st = argsL.reverse ++ rest) (has : argsL.toArray = as') (hsize : Ls.size = c.maxLocals)
    (hlen : ∀ sig, parseMethodDescriptor y.desc = some sig → argsL.length = sig.parameters.length) (W : Nat) (hW : (rest.map fun v => v.category).sum ≤ W) (hfr : rm.frames + 1 ≤ R.frames) (hlo : W + (maxL + 11) + rm.locals ≤ R.locals) (hce : cells + rm.cells ≤ R.cells) (hsl : slots + rm.slots ≤ R.slots)
    (hd : decode c.code pc = .ok (.invokestatic index, 3))
    (k : ∀ v T' Lc, Stand p l e R s m args below meth c T' (locs ++ Lc) (cells + rm.cells) (slots + rm.slots) → Qc v T'.heap Lc → OGoal p e below s Q kc ks (T'.setTop (mkF m (pc + 3) Ls (v.toList ++ rest)))) :
    OGoal p e below s Q kc ks (T.setTop (mkF m pc Ls st)) := by
  subst hst has
  obtain ⟨v, _, ⟨T', L', k', n'⟩, -, X', ⟨Lc, hQ, l', y', z'⟩, st⟩ := Jvm.LawKit.callS X hx (y := y) hown (mvT hZ w1) (mvT hZ w2) (mvT hZ w3) (mvT hZ w4) hy (backOf (W := W) (hM []) hZ w4 w3 hfr hlo) (g := mkF m pc Ls (argsL.reverse ++ rest)) rfl hsize (argsL := argsL) (rest := rest) hlen rfl (by show 2 * 0 + _ ≤ _; omega) hd (fun _ _ => ⟨rfl, eT, hce, hsl⟩)
  dsimp only [Pt.U, Pt.locs, Pt.cells, Pt.slots] at X' l' y' z' st hQ
  subst l' y' z'
  exact OGoal.mp st (k v T' Lc X' hQ)
theorem oCallV (X : Stand p l e R s m args below meth c T locs cells slots) (hx : p.tables.exec = Jvm.exec) (hZ : Z.Warmed39 s.vm) {own C : String} {index : Nat} {y z : MethodName} {bytes : ByteArray} {maxL : Nat} {ret : Option FieldType} {rm : Room} {as' : Array Value} {Qc : Option Value → Heap → List Loc → Prop}
    (hown : s.vm.findClass own = some m.cls) (w1 : (Jvm.Cond.methodLink own index y).before a0 Z = true) (w2 : (Jvm.Cond.declares y).before a0 Z = true) (w5 : (Jvm.Cond.selects C y z).before a0 Z = true) (w6 : (Jvm.Cond.instanceMethod z).before a0 Z = true) (w3 : (Jvm.Cond.initialized z.cls).before a0 Z = true) (w4 : (Jvm.Cond.code z bytes maxL ret).before a0 Z = true)
    (hy : y.cls ≠ "java/lang/invoke/MethodHandle" ∧ y.cls ≠ "java/lang/invoke/VarHandle") (hM : OCon l Z z bytes maxL ret rm as' h Qc) (eT : T.heap = h) {a : Addr} (E : Exa Z h a C) {pc : Nat} {Ls : Array Slot} {st : List Value} (argsL rest : List Value) (hst : st = argsL.reverse ++ .ref a :: rest) (has : (.ref a :: argsL).toArray = as') (hsize : Ls.size = c.maxLocals)
    (hnf : NotFace s y) (hlen : ∀ sig, parseMethodDescriptor y.desc = some sig → argsL.length = sig.parameters.length) (W : Nat) (hW : (rest.map fun v => v.category).sum ≤ W) (hfr : rm.frames + 1 ≤ R.frames) (hlo : W + (maxL + 11) + rm.locals ≤ R.locals) (hce : cells + rm.cells ≤ R.cells) (hsl : slots + rm.slots ≤ R.slots)
    (hd : decode c.code pc = .ok (.invokevirtual index, 3))
    (k : ∀ v T' Lc, Stand p l e R s m args below meth c T' (locs ++ Lc) (cells + rm.cells) (slots + rm.slots) → Qc v T'.heap Lc → OGoal p e below s Q kc ks (T'.setTop (mkF m (pc + 3) Ls (v.toList ++ rest)))) :
    OGoal p e below s Q kc ks (T.setTop (mkF m pc Ls st)) := by
  subst hst has
  obtain ⟨cq, kq, qa, qb, qc⟩ := isOf hZ eT E
  obtain ⟨v, _, ⟨T', L', k', n'⟩, -, X', ⟨Lc, hQ, l', y', z'⟩, st⟩ := X.virtualBack hx (y := y) (z := z) hown (mvT hZ w1) (mvT hZ w2) hnf (mvT hZ w5) (mvT hZ w6) hy (backOf (W := W) (hM []) hZ w4 w3 hfr hlo) qa qc (g := mkF m pc Ls (argsL.reverse ++ .ref a :: rest)) rfl hsize (Steps.refl _) (argsL := argsL) (rest := rest) hlen rfl (by show 2 * 0 + _ ≤ _; omega) hd (fun _ _ => ⟨rfl, eT, hce, hsl⟩)
  dsimp only [Pt.U, Pt.locs, Pt.cells, Pt.slots] at X' l' y' z' st hQ
  subst l' y' z'
  exact OGoal.mp (fun t q => st.trans q) (k v T' Lc X' hQ)
theorem oCallN (X : Stand p l e R s m args below meth c T locs cells slots) (hx : p.tables.exec = Jvm.exec) (hZ : Z.Warmed39 s.vm) {own : String} {index : Nat} {y : MethodName} {bytes : ByteArray} {maxL : Nat} {rm : Room} {as' : Array Value} {Qc : Option Value → Heap → List Loc → Prop}
    (hy1 : y.name = "<init>") (hown : s.vm.findClass own = some m.cls) (w1 : (Jvm.Cond.methodLink own index y).before a0 Z = true) (w6 : (Jvm.Cond.instanceMethod y).before a0 Z = true) (w3 : (Jvm.Cond.initialized y.cls).before a0 Z = true) (w4 : (Jvm.Cond.code y bytes maxL none).before a0 Z = true)
    (hy : y.cls ≠ "java/lang/invoke/MethodHandle" ∧ y.cls ≠ "java/lang/invoke/VarHandle") (hM : OCon l Z y bytes maxL none rm as' h Qc) (eT : T.heap = h) {a : Addr} {pc : Nat} {Ls : Array Slot} {st : List Value} (argsL rest : List Value) (hst : st = argsL.reverse ++ .ref a :: rest) (has : (.ref a :: argsL).toArray = as') (hsize : Ls.size = c.maxLocals)
    (hlen : ∀ sig, parseMethodDescriptor y.desc = some sig → argsL.length = sig.parameters.length) (W : Nat) (hW : (rest.map fun v => v.category).sum ≤ W) (hfr : rm.frames + 1 ≤ R.frames) (hlo : W + (maxL + 11) + rm.locals ≤ R.locals) (hce : cells + rm.cells ≤ R.cells) (hsl : slots + rm.slots ≤ R.slots)
    (hd : decode c.code pc = .ok (.invokespecial index, 3))
    (k : ∀ v T' Lc, Stand p l e R s m args below meth c T' (locs ++ Lc) (cells + rm.cells) (slots + rm.slots) → Qc v T'.heap Lc → OGoal p e below s Q kc ks (T'.setTop (mkF m (pc + 3) Ls (v.toList ++ rest)))) :
    OGoal p e below s Q kc ks (T.setTop (mkF m pc Ls st)) := by
  subst hst has
  obtain ⟨v, _, ⟨T', L', k', n'⟩, -, X', ⟨Lc, hQ, l', y', z'⟩, st⟩ := X.specialBack hx (y := y) hy1 hown (mvT hZ w1) (mvT hZ w6) (mvT hZ w4) hy (backOf (W := W) (hM []) hZ w4 w3 hfr hlo) (g := mkF m pc Ls (argsL.reverse ++ .ref a :: rest)) rfl hsize (Steps.refl _) (a := a) (argsL := argsL) (rest := rest) hlen rfl (by show 2 * 0 + _ ≤ _; omega) hd (fun _ _ => ⟨rfl, eT, hce, hsl⟩)
  dsimp only [Pt.U, Pt.locs, Pt.cells, Pt.slots] at X' l' y' z' st hQ
  subst l' y' z'
  exact OGoal.mp (fun t q => st.trans q) (k v T' Lc X' hQ)
theorem oNotFace {s : State} {C : String} {k : Nat} (h : (Jvm.Cond.instantiable C k).before args s = true) : ∃ c kc, s.vm.findClass C = some c ∧ s.vm.classes[c]? = some kc ∧ kc.isInterface = false := by
  obtain ⟨c, kc, h1, h2, -, h3, -, -⟩ := Cond.instantiable_spec h
  exact ⟨c, kc, h1, h2, (Bool.or_eq_false_iff.mp h3).1⟩
theorem oCallP (X : Stand p l e R s m args below meth c T locs cells slots) (hx : p.tables.exec = Jvm.exec) (hZ : Z.Warmed39 s.vm) {own C : String} {index : Nat} {y : MethodName} {bytes : ByteArray} {maxL : Nat} {ret : Option FieldType} {rm : Room} {as' : Array Value} {Qc : Option Value → Heap → List Loc → Prop}
    (hown : s.vm.findClass own = some m.cls) (w1 : (Jvm.Cond.methodLink own index y).before a0 Z = true) {kk : Nat} (w5 : (Jvm.Cond.instantiable y.cls kk).before a0 Z = true) (w6 : (Jvm.Cond.instanceMethod y).before a0 Z = true) (w7 : (Jvm.Cond.privateMethod y).before a0 Z = true) (w3 : (Jvm.Cond.initialized y.cls).before a0 Z = true) (w4 : (Jvm.Cond.code y bytes maxL ret).before a0 Z = true)
    (hy : y.cls ≠ "java/lang/invoke/MethodHandle" ∧ y.cls ≠ "java/lang/invoke/VarHandle") (hM : OCon l Z y bytes maxL ret rm as' h Qc) (eT : T.heap = h) {a : Addr} (E : Exa Z h a C) {pc : Nat} {Ls : Array Slot} {st : List Value} (argsL rest : List Value) (hst : st = argsL.reverse ++ .ref a :: rest) (has : (.ref a :: argsL).toArray = as') (hsize : Ls.size = c.maxLocals)
    (hlen : ∀ sig, parseMethodDescriptor y.desc = some sig → argsL.length = sig.parameters.length) (W : Nat) (hW : (rest.map fun v => v.category).sum ≤ W) (hfr : rm.frames + 1 ≤ R.frames) (hlo : W + (maxL + 11) + rm.locals ≤ R.locals) (hce : cells + rm.cells ≤ R.cells) (hsl : slots + rm.slots ≤ R.slots)
    (hd : decode c.code pc = .ok (.invokevirtual index, 3))
    (k : ∀ v T' Lc, Stand p l e R s m args below meth c T' (locs ++ Lc) (cells + rm.cells) (slots + rm.slots) → Qc v T'.heap Lc → OGoal p e below s Q kc ks (T'.setTop (mkF m (pc + 3) Ls (v.toList ++ rest)))) :
    OGoal p e below s Q kc ks (T.setTop (mkF m pc Ls st)) := by
  subst hst has
  obtain ⟨cq, q1, q2⟩ := E.cell
  obtain ⟨c1, k1, hc1, hk1, hi1⟩ := oNotFace (args := #[]) (mvT hZ w5)
  have hpr : s.PrivateAt y := Cond.privateMethod_at (mvP hZ w7 (args := #[]))
  have hse := selects_self_of_private (args := args) hc1 hk1 hi1 hpr (mvT hZ w6) hy
  obtain ⟨v, _, ⟨T', L', k', n'⟩, -, X', ⟨Lc, hQ, l', y', z'⟩, st⟩ := X.privateBack hx (y := y) hown (mvT hZ w1) (mvT hZ w6) hse hpr (mvT hZ w4) hy (backOf (W := W) (hM []) hZ w4 w3 hfr hlo) (g := mkF m pc Ls (argsL.reverse ++ .ref a :: rest)) rfl hsize (Steps.refl _) (a := a) (by rw [eT]; exact q1) q2 (argsL := argsL) (rest := rest) hlen rfl (by show 2 * 0 + _ ≤ _; omega) hd (fun _ _ => ⟨rfl, eT, hce, hsl⟩)
  dsimp only [Pt.U, Pt.locs, Pt.cells, Pt.slots] at X' l' y' z' st hQ
  subst l' y' z'
  exact OGoal.mp (fun t q => st.trans q) (k v T' Lc X' hQ)
theorem oNoFace {s : State} {C : String} {y : MethodName} (w : (Jvm.Cond.selects C y y).before args s = true) : ∃ c k, s.vm.findClass y.cls = some c ∧ s.vm.classes[c]? = some k ∧ k.isInterface = false := by
  obtain ⟨c2, r2, m2, -, -, q3, -, kP, hkP, hkPi⟩ := Cond.selects_spec w
  exact ⟨m2.cls, kP, findClass_of_methodNamed q3, hkP, hkPi⟩
theorem oNF {s : State} {C : String} {y y0 : MethodName} (hyc : y0.cls = y.cls) (w : (Jvm.Cond.selects C y0 y0).before args s = true) : NotFace s y := fun r0 h0 => by
  obtain ⟨c, k, h1, h2, h3⟩ := oNoFace w
  rw [hyc] at h1
  cases h1.symm.trans (findClass_of_methodNamed h0)
  exact ⟨k, h2, h3⟩
theorem oSame {s : State} {y : MethodName} {c : ClassId} {k : Class} (hc : s.vm.findClass y.cls = some c) (hk : s.vm.classes[c]? = some k) (hni : k.isInterface = false) (hinst : (Jvm.Cond.instanceMethod y).before args s = true) (hy : y.cls ≠ "java/lang/invoke/MethodHandle" ∧ y.cls ≠ "java/lang/invoke/VarHandle") : (Jvm.Cond.sameMethod y.cls y.cls y.name y.desc).before args s = true := by
  obtain ⟨mk, methM, hnamed, -, -, -⟩ := Cond.instanceMethod_spec hinst
  have hfound : s.methodFound? y.cls y.name y.desc = some mk := State.methodFound?_of_named hnamed hy
  simp [Cond.before, Cond.holds, Cond.value, hc, hfound, hnamed, hk, hni]
/-- a private method of a class above the receiver's -/
theorem oCallQ (X : Stand p l e R s m args below meth c T locs cells slots) (hx : p.tables.exec = Jvm.exec) (hZ : Z.Warmed39 s.vm) {own C C' : String} {index : Nat} {y : MethodName} {bytes : ByteArray} {maxL : Nat} {ret : Option FieldType} {rm : Room} {as' : Array Value} {Qc : Option Value → Heap → List Loc → Prop}
    (hown : s.vm.findClass own = some m.cls) (w1 : (Jvm.Cond.methodLink own index y).before a0 Z = true) (w5 : (Jvm.Cond.selects C' y y).before a0 Z = true) (w6 : (Jvm.Cond.instanceMethod y).before a0 Z = true) (w7 : (Jvm.Cond.privateMethod y).before a0 Z = true) (w3 : (Jvm.Cond.initialized y.cls).before a0 Z = true) (w4 : (Jvm.Cond.code y bytes maxL ret).before a0 Z = true)
    (hy : y.cls ≠ "java/lang/invoke/MethodHandle" ∧ y.cls ≠ "java/lang/invoke/VarHandle") (hM : OCon l Z y bytes maxL ret rm as' h Qc) (eT : T.heap = h) {a : Addr} (E : Exa Z h a C) {pc : Nat} {Ls : Array Slot} {st : List Value} (argsL rest : List Value) (hst : st = argsL.reverse ++ .ref a :: rest) (has : (.ref a :: argsL).toArray = as') (hsize : Ls.size = c.maxLocals)
    (hlen : ∀ sig, parseMethodDescriptor y.desc = some sig → argsL.length = sig.parameters.length) (W : Nat) (hW : (rest.map fun v => v.category).sum ≤ W) (hfr : rm.frames + 1 ≤ R.frames) (hlo : W + (maxL + 11) + rm.locals ≤ R.locals) (hce : cells + rm.cells ≤ R.cells) (hsl : slots + rm.slots ≤ R.slots)
    (hd : decode c.code pc = .ok (.invokevirtual index, 3))
    (k : ∀ v T' Lc, Stand p l e R s m args below meth c T' (locs ++ Lc) (cells + rm.cells) (slots + rm.slots) → Qc v T'.heap Lc → OGoal p e below s Q kc ks (T'.setTop (mkF m (pc + 3) Ls (v.toList ++ rest)))) :
    OGoal p e below s Q kc ks (T.setTop (mkF m pc Ls st)) := by
  subst hst has
  obtain ⟨cq, q1, q2⟩ := E.cell
  obtain ⟨c1, k1, hc1, hk1, hi1⟩ := oNoFace (args := #[]) (mvT hZ w5)
  have hpr : s.PrivateAt y := Cond.privateMethod_at (mvP hZ w7 (args := #[]))
  have hse := selects_self_of_private (args := args) hc1 hk1 hi1 hpr (mvT hZ w6) hy
  obtain ⟨v, _, ⟨T', L', k', n'⟩, -, X', ⟨Lc, hQ, l', y', z'⟩, st⟩ := X.privateBack hx (y := y) hown (mvT hZ w1) (mvT hZ w6) hse hpr (mvT hZ w4) hy (backOf (W := W) (hM []) hZ w4 w3 hfr hlo) (g := mkF m pc Ls (argsL.reverse ++ .ref a :: rest)) rfl hsize (Steps.refl _) (a := a) (by rw [eT]; exact q1) q2 (argsL := argsL) (rest := rest) hlen rfl (by show 2 * 0 + _ ≤ _; omega) hd (fun _ _ => ⟨rfl, eT, hce, hsl⟩)
  dsimp only [Pt.U, Pt.locs, Pt.cells, Pt.slots] at X' l' y' z' st hQ
  subst l' y' z'
  exact OGoal.mp (fun t q => st.trans q) (k v T' Lc X' hQ)
/-- super.y(..) -/
theorem oCallU (X : Stand p l e R s m args below meth c T locs cells slots) (hx : p.tables.exec = Jvm.exec) (hZ : Z.Warmed39 s.vm) {own C C' : String} {index : Nat} {y y0 : MethodName} {bytes : ByteArray} {maxL : Nat} {ret : Option FieldType} {rm : Room} {as' : Array Value} {Qc : Option Value → Heap → List Loc → Prop} (hn : y.name ≠ "<init>") (hyc : y0.cls = y.cls)
    (hown : s.vm.findClass own = some m.cls) (w1 : (Jvm.Cond.methodLink own index y).before a0 Z = true) (w5 : (Jvm.Cond.selects C' y0 y0).before a0 Z = true) (w6 : (Jvm.Cond.instanceMethod y).before a0 Z = true) (w7 : (Jvm.Cond.superclass own y.cls).before a0 Z = true) (w3 : (Jvm.Cond.initialized y.cls).before a0 Z = true) (w4 : (Jvm.Cond.code y bytes maxL ret).before a0 Z = true)
    (hy : y.cls ≠ "java/lang/invoke/MethodHandle" ∧ y.cls ≠ "java/lang/invoke/VarHandle") (hM : OCon l Z y bytes maxL ret rm as' h Qc) (eT : T.heap = h) {a : Addr} (E : Exa Z h a C) {pc : Nat} {Ls : Array Slot} {st : List Value} (argsL rest : List Value) (hst : st = argsL.reverse ++ .ref a :: rest) (has : (.ref a :: argsL).toArray = as') (hsize : Ls.size = c.maxLocals)
    (hlen : ∀ sig, parseMethodDescriptor y.desc = some sig → argsL.length = sig.parameters.length) (W : Nat) (hW : (rest.map fun v => v.category).sum ≤ W) (hfr : rm.frames + 1 ≤ R.frames) (hlo : W + (maxL + 11) + rm.locals ≤ R.locals) (hce : cells + rm.cells ≤ R.cells) (hsl : slots + rm.slots ≤ R.slots)
    (hd : decode c.code pc = .ok (.invokespecial index, 3))
    (k : ∀ v T' Lc, Stand p l e R s m args below meth c T' (locs ++ Lc) (cells + rm.cells) (slots + rm.slots) → Qc v T'.heap Lc → OGoal p e below s Q kc ks (T'.setTop (mkF m (pc + 3) Ls (v.toList ++ rest)))) :
    OGoal p e below s Q kc ks (T.setTop (mkF m pc Ls st)) := by
  subst hst has
  obtain ⟨c1, k1, hc1, hk1, hi1⟩ := oNoFace w5
  rw [hyc] at hc1
  have w2 := oSame hc1 hk1 hi1 w6 hy
  obtain ⟨v, _, ⟨T', L', k', n'⟩, -, X', ⟨Lc, hQ, l', y', z'⟩, st⟩ := superBack X hx hZ hown w1 w2 w6 w7 hn (backOf (W := W) (hM []) hZ w4 w3 hfr hlo) eT (Ins.self E) (g := mkF m pc Ls (argsL.reverse ++ .ref a :: rest)) rfl hsize w4 (argsL := argsL) (rest := rest) hlen rfl (by show 2 * 0 + _ ≤ _; omega) hd (fun _ _ => ⟨rfl, eT, hce, hsl⟩)
  dsimp only [Pt.U, Pt.locs, Pt.cells, Pt.slots] at X' l' y' z' st hQ
  subst l' y' z'
  exact OGoal.mp (fun t q => st.trans q) (k v T' Lc X' hQ)
theorem oLrem {g : JFrame} {target : State} (X : Stand p l e R s m args below meth c T locs cells slots) (hx : p.tables.exec = Jvm.exec) (hg : g.method = m) {x y : Int64} {rest : List Value} (hd : decode c.code g.pc = .ok (.lrem, 1)) (hs : g.stack = .long y :: .long x :: rest) (hy : y ≠ 0)
    (hr : Steps p.tables e below (T.setTop { g with pc := g.pc + 1, stack := .long (x % y) :: rest }) target) : Steps p.tables e below (T.setTop g) target := XT.lrem X.here hx hg hd hs hy (by rw [lrem_mod]; exact hr)
theorem oLt {x y : Int32} (h : x < y) : x.toInt < y.toInt := Int32.lt_iff_toInt_lt.mp h
theorem oNlt {x y : Int32} (h : ¬ x < y) : y.toInt ≤ x.toInt := Int.not_lt.mp fun q => h (Int32.lt_iff_toInt_lt.mpr q)
theorem oEq {x y : Int32} (h : x = y) : x.toInt = y.toInt := congrArg _ h
theorem oNe {x y : Int32} (h : ¬ x = y) : x.toInt ≠ y.toInt := fun q => h (Int32.toInt_inj.mp q)
theorem oLtL {x y : Int64} (h : x < y) : x.toInt < y.toInt := Int64.lt_iff_toInt_lt.mp h
theorem oNltL {x y : Int64} (h : ¬ x < y) : y.toInt ≤ x.toInt := Int.not_lt.mp fun q => h (Int64.lt_iff_toInt_lt.mpr q)
theorem oEqL {x y : Int64} (h : x = y) : x.toInt = y.toInt := congrArg _ h
theorem oNeL {x y : Int64} (h : ¬ x = y) : x.toInt ≠ y.toInt := fun q => h (Int64.toInt_inj.mp q)
theorem mLt {x y : Int32} (h : x.toInt < y.toInt) : x < y := Int32.lt_iff_toInt_lt.mpr h
theorem mNlt {x y : Int32} (h : y.toInt ≤ x.toInt) : ¬ x < y := fun q => absurd (oLt q) (Int.not_lt.mpr h)
theorem mEq {x y : Int32} (h : x.toInt = y.toInt) : x = y := Int32.toInt_inj.mp h
theorem mNe {x y : Int32} (h : x.toInt ≠ y.toInt) : ¬ x = y := fun q => h (congrArg _ q)
theorem mLtL {x y : Int64} (h : x.toInt < y.toInt) : x < y := Int64.lt_iff_toInt_lt.mpr h
theorem mNltL {x y : Int64} (h : y.toInt ≤ x.toInt) : ¬ x < y := fun q => absurd (oLtL q) (Int.not_lt.mpr h)
theorem mEqL {x y : Int64} (h : x.toInt = y.toInt) : x = y := Int64.toInt_inj.mp h
theorem mNeL {x y : Int64} (h : x.toInt ≠ y.toInt) : ¬ x = y := fun q => h (congrArg _ q)
theorem oRemL (x y : Int64) : 0 ≤ x.toInt → 0 < y.toInt → 0 ≤ (x % y).toInt ∧ (x % y).toInt < y.toInt := by
  intro h1 h2
  rw [Int64.toInt_mod, Int.tmod_eq_emod_of_nonneg h1]
  exact ⟨Int.emod_nonneg _ (by omega), Int.emod_lt_of_pos _ h2⟩
theorem oRemI (x y : Int32) : 0 ≤ x.toInt → 0 < y.toInt → 0 ≤ (x % y).toInt ∧ (x % y).toInt < y.toInt := by
  intro h1 h2
  rw [Int32.toInt_mod, Int.tmod_eq_emod_of_nonneg h1]
  exact ⟨Int.emod_nonneg _ (by omega), Int.emod_lt_of_pos _ h2⟩
/-- an array of kind ty, of length z, whose i-th component is f i -/
def OArr (Z : State) (h : Heap) (a : Addr) (ty : FieldType) (z : Int32) (f : Nat → Value) : Prop := ∃ c : Cell, Arr Z h a c ty ∧ c.slots.size = z.toNatClampNeg ∧ ¬ z < 0 ∧ ∀ i, i < c.slots.size → c.slots[i]? = some (f i)
section OArrs
variable {h' : Heap} {a b : Addr} {ty : FieldType} {z : Int32} {f : Nat → Value} {sl : Nat} {v : Value}
theorem OArr.lt (F : OArr Z h a ty z f) : a < h.size := by obtain ⟨c, A, -⟩ := F; exact A.lt
theorem OArr.ext (F : OArr Z h a ty z f) (E : Ext h h') : OArr Z h' a ty z f := by obtain ⟨c, A, r⟩ := F; exact ⟨c, A.ext E, r⟩
theorem OArr.other (F : OArr Z h b ty z f) (W : Wr h h' a sl v) (q : b ≠ a) : OArr Z h' b ty z f := by obtain ⟨c, A, r⟩ := F; exact ⟨c, A.other W q, r⟩
theorem OArr.keep {ws : List Addr} (F : OArr Z h a ty z f) (K : Keep h h' ws) (q : a ∉ ws) : OArr Z h' a ty z f := by obtain ⟨c, A, r⟩ := F; exact ⟨c, ⟨K.2.1 a c A.1 q, A.2⟩, r⟩
theorem OArr.imp {g : Nat → Value} (F : OArr Z h a ty z f) (k : ∀ i, i < z.toNatClampNeg → f i = g i) : OArr Z h a ty z g := by
  obtain ⟨c, A, S, r, G⟩ := F
  exact ⟨c, A, S, r, fun i hi => by rw [G i hi, k i (by rw [← S]; exact hi)]⟩
theorem OArr.new {k : ClassId} (A : Arr Z h a (newA k ty z) ty) (q : ¬ z < 0) : OArr Z h a ty z (fun _ => defaultValue ty) :=
  ⟨_, A, sz_new _ _ _, q, fun i hi => by simp only [newA, Array.size_replicate] at hi; simp [newA, hi]⟩
theorem OArr.set (F : OArr Z h a ty z f) (W : Wr h h' a sl v) : OArr Z h' a ty z (fun i => if i = sl then v else f i) := by
  obtain ⟨c, A, S, r, G⟩ := F
  refine ⟨_, A.same W, by rw [sz_set]; exact S, r, fun i hi => ?_⟩
  rw [sz_set] at hi
  show (c.setSlot sl v).slots[i]? = some (if i = sl then v else f i)
  by_cases q : i = sl
  · subst q; simp [Cell.setSlot, hi]
  · rw [if_neg q, ← G i hi]
    simp [Cell.setSlot, Array.getElem?_setIfInBounds, Ne.symm q]
theorem oNeA {C : String} {k : Nat} (E : Exa Z h a C) (wi : (Jvm.Cond.instantiable C k).before a0 Z = true) (F : OArr Z h b ty z f) : a ≠ b := by
  obtain ⟨c, A, -⟩ := F; exact ne_arr E wi A
theorem oIn {j : Int32} {n : Nat} (S : n = z.toNatClampNeg) (h1 : 0 ≤ j.toInt) (h2 : j.toInt < z.toInt) : ¬ (j < 0 ∨ n ≤ j.toNatClampNeg) := by
  intro q
  have e0 : (0 : Int32).toInt = 0 := by decide
  have e1 : j.toNatClampNeg = j.toInt.toNat := rfl
  have e2 : z.toNatClampNeg = z.toInt.toNat := rfl
  rcases q with q | q
  · have := oLt q; omega
  · rw [S, e1, e2] at q; omega
theorem oLen (X : Stand p l e R s m args below meth c T locs cells slots) (hx : p.tables.exec = Jvm.exec) (hZ : Z.Warmed39 s.vm) (eT : T.heap = h) (F : OArr Z h a ty z f) {g : JFrame} (hg : g.method = m) {rest : List Value} (hs : g.stack = .ref a :: rest) (hd : decode c.code g.pc = .ok (.arraylength, 1)) {target : State}
    (k : Steps p.tables e below (T.setTop { g with pc := g.pc + 1, stack := .int z :: rest }) target) : Steps p.tables e below (T.setTop g) target := by
  obtain ⟨cl, A, S, r, -⟩ := F
  refine X.arraylength hx (by rw [eT]; exact A.1) (State.isArrayOf_alike hZ.alike A.2.1) (g := g) hg hs hd _ ?_
  rw [len_of S r]; exact k
theorem oInd (F : OArr Z h a ty z f) {j : Int32} (h1 : 0 ≤ j.toInt) (h2 : j.toInt < z.toInt) : ∃ cl, Arr Z h a cl ty ∧ ¬ (j < 0 ∨ cl.slots.size ≤ j.toNatClampNeg) ∧ cl.slots[j.toNatClampNeg]? = some (f j.toNatClampNeg) := by
  obtain ⟨cl, A, S, r, G⟩ := F
  have q := oIn S h1 h2
  exact ⟨cl, A, q, G _ (Nat.lt_of_not_le fun w => q (Or.inr w))⟩
theorem oLdI (X : Stand p l e R s m args below meth c T locs cells slots) (hx : p.tables.exec = Jvm.exec) (hZ : Z.Warmed39 s.vm) (eT : T.heap = h) (F : OArr Z h a .int z f) {j x : Int32} (h1 : 0 ≤ j.toInt) (h2 : j.toInt < z.toInt) (hv : f j.toNatClampNeg = .int x) {g : JFrame} (hg : g.method = m) {rest : List Value} (hs : g.stack = .int j :: .ref a :: rest) (hd : decode c.code g.pc = .ok (.iaload, 1)) {target : State}
    (k : Steps p.tables e below (T.setTop { g with pc := g.pc + 1, stack := .int x :: rest }) target) : Steps p.tables e below (T.setTop g) target := by
  obtain ⟨cl, A, q, G⟩ := oInd F h1 h2
  rw [hv] at G
  exact X.iaload hx (j := j) (v := .int x) (by rw [eT]; exact A.1) (State.isArrayOf_alike hZ.alike A.2.1) A.2.2 q G (g := g) hg hs hd _ k
theorem oLdD (X : Stand p l e R s m args below meth c T locs cells slots) (hx : p.tables.exec = Jvm.exec) (hZ : Z.Warmed39 s.vm) (eT : T.heap = h) (F : OArr Z h a .double z f) {j : Int32} {x : UInt64} (h1 : 0 ≤ j.toInt) (h2 : j.toInt < z.toInt) (hv : f j.toNatClampNeg = .double x) {g : JFrame} (hg : g.method = m) {rest : List Value} (hs : g.stack = .int j :: .ref a :: rest) (hd : decode c.code g.pc = .ok (.daload, 1)) {target : State}
    (k : Steps p.tables e below (T.setTop { g with pc := g.pc + 1, stack := .double x :: rest }) target) : Steps p.tables e below (T.setTop g) target := by
  obtain ⟨cl, A, q, G⟩ := oInd F h1 h2
  rw [hv] at G
  exact X.daload hx (j := j) (v := .double x) (by rw [eT]; exact A.1) (State.isArrayOf_alike hZ.alike A.2.1) A.2.2 q G (g := g) hg hs hd _ k
theorem oLdR (X : Stand p l e R s m args below meth c T locs cells slots) (hx : p.tables.exec = Jvm.exec) (hZ : Z.Warmed39 s.vm) (eT : T.heap = h) (F : OArr Z h a ty z f) (hty : ty.isReference = true) {j : Int32} {x : Value} (h1 : 0 ≤ j.toInt) (h2 : j.toInt < z.toInt) (hv : f j.toNatClampNeg = x) {g : JFrame} (hg : g.method = m) {rest : List Value} (hs : g.stack = .int j :: .ref a :: rest) (hd : decode c.code g.pc = .ok (.aaload, 1)) {target : State}
    (k : Steps p.tables e below (T.setTop { g with pc := g.pc + 1, stack := x :: rest }) target) : Steps p.tables e below (T.setTop g) target := by
  obtain ⟨cl, A, q, G⟩ := oInd F h1 h2
  rw [hv] at G
  exact X.aaload hx (j := j) (v := x) (by rw [eT]; exact A.1) (State.isArrayOf_alike hZ.alike A.2.1) hty A.2.2 q G (g := g) hg hs hd _ k
theorem OArr.of_arv {kc : ClassId} {vs : List Value} {d : Value} (F : Arv Z h a kc ty z vs d) : OArr Z h a ty z (fun i => vs.getD i d) := by
  obtain ⟨c, A, -, S, r, H, -⟩ := F
  exact ⟨c, A, S, r, H⟩
theorem oKext (K : Keep h h' []) : Ext h h' := ⟨K.1, fun a c q => K.2.1 a c q (fun z => nomatch z)⟩
theorem oLdC (X : Stand p l e R s m args below meth c T locs cells slots) (hx : p.tables.exec = Jvm.exec) (hZ : Z.Warmed39 s.vm) (eT : T.heap = h) (F : OArr Z h a .char z f) {j x : Int32} (h1 : 0 ≤ j.toInt) (h2 : j.toInt < z.toInt) (hv : f j.toNatClampNeg = .int x) {g : JFrame} (hg : g.method = m) {rest : List Value} (hs : g.stack = .int j :: .ref a :: rest) (hd : decode c.code g.pc = .ok (.caload, 1)) {target : State}
    (k : Steps p.tables e below (T.setTop { g with pc := g.pc + 1, stack := .int x :: rest }) target) : Steps p.tables e below (T.setTop g) target := by
  obtain ⟨cl, A, q, G⟩ := oInd F h1 h2
  rw [hv] at G
  exact X.caload hx (j := j) (v := .int x) (by rw [eT]; exact A.1) (State.isArrayOf_alike hZ.alike A.2.1) A.2.2 q G (g := g) hg hs hd _ k
theorem oLdB (X : Stand p l e R s m args below meth c T locs cells slots) (hx : p.tables.exec = Jvm.exec) (hZ : Z.Warmed39 s.vm) (eT : T.heap = h) (F : OArr Z h a .byte z f) {j x : Int32} (h1 : 0 ≤ j.toInt) (h2 : j.toInt < z.toInt) (hv : f j.toNatClampNeg = .int x) {g : JFrame} (hg : g.method = m) {rest : List Value} (hs : g.stack = .int j :: .ref a :: rest) (hd : decode c.code g.pc = .ok (.baload, 1)) {target : State}
    (k : Steps p.tables e below (T.setTop { g with pc := g.pc + 1, stack := .int x :: rest }) target) : Steps p.tables e below (T.setTop g) target := by
  obtain ⟨cl, A, q, G⟩ := oInd F h1 h2
  rw [hv] at G
  exact X.baloadBytes hx (j := j) (v := .int x) (by rw [eT]; exact A.1) (State.isArrayOf_alike hZ.alike A.2.1) A.2.2 q G (g := g) hg hs hd _ k
theorem oLdZ (X : Stand p l e R s m args below meth c T locs cells slots) (hx : p.tables.exec = Jvm.exec) (hZ : Z.Warmed39 s.vm) (eT : T.heap = h) (F : OArr Z h a .boolean z f) {j x : Int32} (h1 : 0 ≤ j.toInt) (h2 : j.toInt < z.toInt) (hv : f j.toNatClampNeg = .int x) {g : JFrame} (hg : g.method = m) {rest : List Value} (hs : g.stack = .int j :: .ref a :: rest) (hd : decode c.code g.pc = .ok (.baload, 1)) {target : State}
    (k : Steps p.tables e below (T.setTop { g with pc := g.pc + 1, stack := .int x :: rest }) target) : Steps p.tables e below (T.setTop g) target := by
  obtain ⟨cl, A, q, G⟩ := oInd F h1 h2
  rw [hv] at G
  exact X.baloadBooleans hx (j := j) (v := .int x) (by rw [eT]; exact A.1) (State.isArrayOf_alike hZ.alike A.2.1) A.2.2 q G (g := g) hg hs hd _ k
theorem oStC (X : Stand p l e R s m args below meth c T locs cells slots) (hx : p.tables.exec = Jvm.exec) (hZ : Z.Warmed39 s.vm) (eT : T.heap = h) (F : OArr Z h a .char z f) {j x : Int32} (h1 : 0 ≤ j.toInt) (h2 : j.toInt < z.toInt) (hn : nar .char x = x) {g : JFrame} (hg : g.method = m) {rest : List Value} (hs : g.stack = .int x :: .int j :: .ref a :: rest) (hd : decode c.code g.pc = .ok (.castore, 1)) :
    ∃ T' h', Stand p l e R s m args below meth c T' (locs ++ [⟨a, j.toNatClampNeg⟩]) cells slots ∧ T'.heap = h' ∧ Wr h h' a j.toNatClampNeg (.int x) ∧ ∀ target, Steps p.tables e below (T'.setTop { g with pc := g.pc + 1, stack := rest }) target → Steps p.tables e below (T.setTop g) target := by
  obtain ⟨cl, A, q, G⟩ := oInd F h1 h2
  have r := stC X hx hZ eT A q hg hs hd
  rw [hn] at r; exact r
theorem oStB (X : Stand p l e R s m args below meth c T locs cells slots) (hx : p.tables.exec = Jvm.exec) (hZ : Z.Warmed39 s.vm) (eT : T.heap = h) (F : OArr Z h a .byte z f) {j x : Int32} (h1 : 0 ≤ j.toInt) (h2 : j.toInt < z.toInt) (hn : nar .byte x = x) {g : JFrame} (hg : g.method = m) {rest : List Value} (hs : g.stack = .int x :: .int j :: .ref a :: rest) (hd : decode c.code g.pc = .ok (.bastore, 1)) :
    ∃ T' h', Stand p l e R s m args below meth c T' (locs ++ [⟨a, j.toNatClampNeg⟩]) cells slots ∧ T'.heap = h' ∧ Wr h h' a j.toNatClampNeg (.int x) ∧ ∀ target, Steps p.tables e below (T'.setTop { g with pc := g.pc + 1, stack := rest }) target → Steps p.tables e below (T.setTop g) target := by
  obtain ⟨cl, A, q, G⟩ := oInd F h1 h2
  have r := stB X hx hZ eT A q hg hs hd
  rw [hn] at r; exact r
theorem oStZ (X : Stand p l e R s m args below meth c T locs cells slots) (hx : p.tables.exec = Jvm.exec) (hZ : Z.Warmed39 s.vm) (eT : T.heap = h) (F : OArr Z h a .boolean z f) {j x : Int32} (h1 : 0 ≤ j.toInt) (h2 : j.toInt < z.toInt) (hn : nar .boolean x = x) {g : JFrame} (hg : g.method = m) {rest : List Value} (hs : g.stack = .int x :: .int j :: .ref a :: rest) (hd : decode c.code g.pc = .ok (.bastore, 1)) :
    ∃ T' h', Stand p l e R s m args below meth c T' (locs ++ [⟨a, j.toNatClampNeg⟩]) cells slots ∧ T'.heap = h' ∧ Wr h h' a j.toNatClampNeg (.int x) ∧ ∀ target, Steps p.tables e below (T'.setTop { g with pc := g.pc + 1, stack := rest }) target → Steps p.tables e below (T.setTop g) target := by
  obtain ⟨cl, A, q, G⟩ := oInd F h1 h2
  have r := stZ X hx hZ eT A q hg hs hd
  rw [hn] at r; exact r
theorem oStI (X : Stand p l e R s m args below meth c T locs cells slots) (hx : p.tables.exec = Jvm.exec) (hZ : Z.Warmed39 s.vm) (eT : T.heap = h) (F : OArr Z h a .int z f) {j x : Int32} (h1 : 0 ≤ j.toInt) (h2 : j.toInt < z.toInt) {g : JFrame} (hg : g.method = m) {rest : List Value} (hs : g.stack = .int x :: .int j :: .ref a :: rest) (hd : decode c.code g.pc = .ok (.iastore, 1)) :
    ∃ T' h', Stand p l e R s m args below meth c T' (locs ++ [⟨a, j.toNatClampNeg⟩]) cells slots ∧ T'.heap = h' ∧ Wr h h' a j.toNatClampNeg (.int x) ∧ ∀ target, Steps p.tables e below (T'.setTop { g with pc := g.pc + 1, stack := rest }) target → Steps p.tables e below (T.setTop g) target := by
  obtain ⟨cl, A, q, G⟩ := oInd F h1 h2
  exact stI X hx hZ eT A q hg hs hd
theorem oStD (X : Stand p l e R s m args below meth c T locs cells slots) (hx : p.tables.exec = Jvm.exec) (hZ : Z.Warmed39 s.vm) (eT : T.heap = h) (F : OArr Z h a .double z f) {j : Int32} {x : UInt64} (h1 : 0 ≤ j.toInt) (h2 : j.toInt < z.toInt) {g : JFrame} (hg : g.method = m) {rest : List Value} (hs : g.stack = .double x :: .int j :: .ref a :: rest) (hd : decode c.code g.pc = .ok (.dastore, 1)) :
    ∃ T' h', Stand p l e R s m args below meth c T' (locs ++ [⟨a, j.toNatClampNeg⟩]) cells slots ∧ T'.heap = h' ∧ Wr h h' a j.toNatClampNeg (.double x) ∧ ∀ target, Steps p.tables e below (T'.setTop { g with pc := g.pc + 1, stack := rest }) target → Steps p.tables e below (T.setTop g) target := by
  obtain ⟨cl, A, q, G⟩ := oInd F h1 h2
  exact stD X hx hZ eT A q hg hs hd
theorem oClone (X : Stand p l e R s m args below meth c T locs cells slots) (hx : p.tables.exec = Jvm.exec) (hZ : Z.Warmed39 s.vm) {own ad : String} {index : Nat} (hown : s.vm.findClass own = some m.cls)
    (w1 : (Jvm.Cond.methodLink own index ⟨ad, "clone", "()Ljava/lang/Object;"⟩).before a0 Z = true) (w2 : (Jvm.Cond.sameMethod ad "java/lang/Object" "clone" "()Ljava/lang/Object;").before a0 Z = true) (w3 : (Jvm.Cond.native ⟨"java/lang/Object", "clone", "()Ljava/lang/Object;"⟩).before a0 Z = true)
    (w4 : (Jvm.Cond.instanceMethod ⟨"java/lang/Object", "clone", "()Ljava/lang/Object;"⟩).before a0 Z = true) (w5 : (Jvm.Cond.selects ad ⟨ad, "clone", "()Ljava/lang/Object;"⟩ ⟨"java/lang/Object", "clone", "()Ljava/lang/Object;"⟩).before a0 Z = true) (w6 : (Jvm.Cond.castable ad "java/lang/Cloneable").before a0 Z = true)
    (eT : T.heap = h) (F : OArr Z h a ty z f) (E : Exa Z h a ad) (hfit : ∀ i, i < z.toNatClampNeg → fits ty (f i) = true) {g : JFrame} (hg : g.method = m) (hsize : g.locals.size = c.maxLocals) {rest : List Value} (hst : g.stack = .ref a :: rest) (hd : decode c.code g.pc = .ok (.invokevirtual index, 3))
    (hf : 1 ≤ R.frames) {W cap : Nat} (hW : 2 * g.monitorRoom + (rest.map fun v => v.category).sum ≤ W) (hl : W + 14 ≤ R.locals) (hcap : z.toNatClampNeg ≤ cap) (hc : cells + 1 ≤ R.cells) (hsl : slots + cap ≤ R.slots) :
    ∃ T' h', Stand p l e R s m args below meth c T' locs (cells + 1) (slots + cap) ∧ T'.heap = h' ∧ Ext h h' ∧ OArr Z h' h.size ty z f ∧ Exa Z h' h.size ad ∧
      ∀ target, Steps p.tables e below (T'.setTop { g with pc := g.pc + 3, stack := .ref h.size :: rest }) target → Steps p.tables e below (T.setTop g) target := by
  obtain ⟨cl, A, S, r, G⟩ := F
  have FC : FitC Z cl := fitC_of A fun i hi v hv => by
    rw [G i hi] at hv; cases hv; exact hfit i (by rw [← S]; exact hi)
  obtain ⟨T', h', X', e', ex, A', E', st⟩ := cloneA X hx hZ hown w1 w2 w3 w4 w5 w6 eT A E FC hg hsize hst hd hf hW hl (by rw [S]; exact hcap) hc hsl
  exact ⟨T', h', X', e', ex, ⟨cloneOf cl, A', S, r, G⟩, E', st⟩
theorem oCopy (X : Stand p l e R s m args below meth c T locs cells slots) (hx : p.tables.exec = Jvm.exec) (hZ : Z.Warmed39 s.vm) {own : String} {index : Nat} (hown : s.vm.findClass own = some m.cls)
    (w1 : (Jvm.Cond.methodLink own index arraycopyName).before a0 Z = true) (w2 : (Jvm.Cond.native arraycopyName).before a0 Z = true) (w3 : (Jvm.Cond.static arraycopyName).before a0 Z = true) (w4 : (Jvm.Cond.initialized "java/lang/System").before a0 Z = true)
    (eT : T.heap = h) {za zb : Int32} {fb : Nat → Value} (Fa : OArr Z h a ty za f) (Fb : OArr Z h b ty zb fb) (hty : refKind ty = false) (hfit : ∀ i, i < za.toNatClampNeg → fits ty (f i) = true)
    {sp dp n : Int32} (h1 : 0 ≤ sp.toInt) (h2 : 0 ≤ dp.toInt) (h3 : 0 ≤ n.toInt) (h4 : sp.toInt + n.toInt ≤ za.toInt) (h5 : dp.toInt + n.toInt ≤ zb.toInt)
    {g : JFrame} (hg : g.method = m) (hsize : g.locals.size = c.maxLocals) {rest : List Value} (hst : g.stack = .int n :: .int dp :: .ref b :: .int sp :: .ref a :: rest) (hd : decode c.code g.pc = .ok (.invokestatic index, 3))
    (hf : 1 ≤ R.frames) (hl : 2 * g.monitorRoom + (rest.map fun v => v.category).sum + (nativeFrameWords "java/lang/System" "arraycopy" 5 + 11) ≤ R.locals) :
    ∃ T' h' L, Stand p l e R s m args below meth c T' (locs ++ L) cells slots ∧ T'.heap = h' ∧ Keep h h' [b] ∧ OArr Z h' b ty zb (fun i => if dp.toNatClampNeg ≤ i ∧ i < dp.toNatClampNeg + n.toNatClampNeg then f (sp.toNatClampNeg + (i - dp.toNatClampNeg)) else fb i) ∧ (∀ y ∈ L, y.base = b) ∧
      ∀ target, Steps p.tables e below (T'.setTop { g with pc := g.pc + 3, stack := rest }) target → Steps p.tables e below (T.setTop g) target := by
  obtain ⟨ca, Aa, Sa, ra, Ga⟩ := Fa
  obtain ⟨cb, Ab, Sb, rb, Gb⟩ := Fb
  subst eT
  obtain ⟨hsa, ka, hka, compa, hkinda⟩ := State.isArrayOf_alike hZ.alike Aa.2.1
  obtain ⟨hsb, kb, hkb, compb, hkindb⟩ := State.isArrayOf_alike hZ.alike Ab.2.1
  have e0 : (0 : Int32).toInt = 0 := by decide
  have ea : (ca.slots.size : Int) = za.toInt := by
    have := oNlt ra
    rw [Sa]; show (za.toInt.toNat : Int) = _; omega
  have eb : (cb.slots.size : Int) = zb.toInt := by
    have := oNlt rb
    rw [Sb]; show (zb.toInt.toNat : Int) = _; omega
  have es : (sp.toNatClampNeg : Int) = sp.toInt := by show (sp.toInt.toNat : Int) = _; omega
  have ed : (dp.toNatClampNeg : Int) = dp.toInt := by show (dp.toInt.toNat : Int) = _; omega
  have en : (n.toNatClampNeg : Int) = n.toInt := by show (n.toInt.toNat : Int) = _; omega
  have hv : ∀ i, i < n.toNatClampNeg → ca.slots.getD (sp.toNatClampNeg + i) .null = f (sp.toNatClampNeg + i) := fun i hi => by
    rw [Array.getD_eq_getD_getElem?, Ga _ (by omega)]; rfl
  obtain ⟨vm', X', st⟩ := X.arraycopy hx hown (mvT hZ w1) (mvT hZ w2) (mvT hZ w3) (mvT hZ w4) (src := a) (dst := b) (srcPos := sp) (destPos := dp) (n := n) Aa.1 Ab.1 hsa hsb Aa.2.2 Ab.2.2 hka hkb hkinda hkindb (by simp [hty]) (mNlt (by omega)) (mNlt (by omega)) (mNlt (by omega)) (by omega) (by omega)
    (fun vm₁ _ i hi => by
      have q := hfit (sp.toNatClampNeg + i) (by rw [← Sa]; omega)
      rw [hv i hi]
      refine ⟨q, ?_⟩
      cases hq : f (sp.toNatClampNeg + i) with
      | ref y => rw [hq] at q; cases ty <;> first | (cases hty; done) | (cases q; done)
      | _ => trivial) hg hsize hst hd hf hl
  obtain ⟨f1, f2, f3, -, -⟩ := Cell.storeRun_facts cb dp.toNatClampNeg (ca.stretch sp.toNatClampNeg n.toNatClampNeg)
  have hlen : (ca.stretch sp.toNatClampNeg n.toNatClampNeg).length = n.toNatClampNeg := Cell.stretch_length ..
  have hself : ((T.setVm vm').setCell b (copied ca cb sp dp n)).heap[b]? = some (copied ca cb sp dp n) := State.heap_setCell_self (show (T.setVm vm').heap[b]? = some cb from Ab.1)
  refine ⟨_, _, _, X', rfl, ⟨?_, ?_, ?_⟩, ⟨copied ca cb sp dp n, ⟨hself, ?_, ?_⟩, ?_, rb, ?_⟩, ?_, st⟩
  · exact Nat.le_of_eq (by simp [State.setCell, State.setVm])
  · intro x cx hx' hn
    rw [State.heap_setCell_other (fun q => hn (by rw [q]; exact List.mem_singleton.mpr rfl))]; exact hx'
  · intro x cx hx'
    by_cases q : b = x
    · subst q; rw [Ab.1] at hx'; cases hx'; exact ⟨_, hself, f1, f2, f3⟩
    · exact ⟨cx, by rw [State.heap_setCell_other q]; exact hx', rfl, rfl, rfl⟩
  · obtain ⟨u1, k1, u2, comp, u3⟩ := Ab.2.1
    exact ⟨fun k => by show (cb.storeRun _ _).vm ≠ _; rw [f2]; exact u1 k, k1, by show Z.vm.classes[(cb.storeRun _ _).cls]? = _; rw [f1]; exact u2, comp, u3⟩
  · show (cb.storeRun _ _).vm ≠ _
    rw [f2]; exact Ab.2.2
  · show (cb.storeRun _ _).slots.size = _
    rw [f3]; exact Sb
  · intro i hi
    have hi' : i < cb.slots.size := by
      have hi : i < (cb.storeRun dp.toNatClampNeg (ca.stretch sp.toNatClampNeg n.toNatClampNeg)).slots.size := hi
      rw [f3] at hi; exact hi
    show (cb.storeRun dp.toNatClampNeg (ca.stretch sp.toNatClampNeg n.toNatClampNeg)).slots[i]? = _
    rw [Cell.storeRun_get _ _ _ _ (by rw [hlen]; omega), hlen]
    dsimp only
    by_cases q : dp.toNatClampNeg ≤ i ∧ i < dp.toNatClampNeg + n.toNatClampNeg
    · rw [if_pos q, if_pos q, ← hv _ (by omega)]
      simp [Cell.stretch, show i - dp.toNatClampNeg < n.toNatClampNeg by omega]
    · rw [if_neg q, if_neg q]; exact Gb i hi'
  · intro y hy
    obtain ⟨q, _, rfl⟩ := List.mem_map.mp hy; rfl
end OArrs
/-- from a case's equation to the value -/
theorem oEqv {f s : State} {o : Option Outcome} {idx : List Nat} {a b : Term} (h : (Jvm.Cond.eq a b).value args f o s idx = some true) : ∃ x, a.eval args f o idx s = some x ∧ b.eval args f o idx s = some x := by
  obtain ⟨x, y, h1, h2, -, -⟩ := cmp_v (Or.inl h)
  cases x <;> cases y <;> simp [Cond.value, h1, h2] at h <;> first | (subst h; exact ⟨_, h1, h2⟩) | exact ⟨_, h1, h2⟩
theorem oFeq {s : State} {t u : Term} {x : Addr} {C n d : String} {w : Value} (ht : t.eval args s none [] s = some (.ref x)) (h : (Jvm.Cond.eq (.field t C n d) u).value args s none s [] = some true) (hu : u.eval args s none [] s = some w) : s.fieldOf? x C n d = some w := by
  obtain ⟨v, h1, h2⟩ := oEqv h
  rw [fld_at ht] at h1
  rw [h1, ← h2, hu]
theorem oNot {d : Jvm.Cond} {f s : State} {o : Option Outcome} {idx : List Nat} (h : (Jvm.Cond.not d).value args f o s idx = some true) (h2 : d.value args f o s idx = some true) : False := by
  rw [Cond.value, h2] at h
  cases h
end OwnKit
section Flt
open Jvm.FP.Core
def own_u : Rat := 1 / 9007199254740992
/-- the value of a magnitude -/
def own_r (c : Nat) (q : Int) : Rat := (c : Rat) * (2 : Rat) ^ q
theorem own_two0 : (2 : Rat) ≠ 0 := by decide
theorem own_zp (q : Int) : 0 < (2 : Rat) ^ q := Rat.zpow_pos (by decide)
theorem own_zadd (a b : Int) : (2 : Rat) ^ (a + b) = (2 : Rat) ^ a * (2 : Rat) ^ b := Rat.zpow_add own_two0 a b
theorem own_znat (n : Nat) : (2 : Rat) ^ (n : Int) = ((2 ^ n : Nat) : Rat) := by
  rw [Rat.zpow_natCast]; simp
theorem own_inU (c : Nat) {q e : Int} (h : e ≤ q) : ((inUnits c q e : Nat) : Rat) = own_r c q * (2 : Rat) ^ (-e) := by
  unfold inUnits own_r
  rw [Rat.natCast_mul, ← own_znat, Rat.mul_assoc, ← own_zadd, show ((q - e).toNat : Int) = q + -e by omega]
/-- the units of roundAt -/
theorem own_uN (A : Nat) (e q : Int) : ((unitsNum A e q : Nat) : Rat) = (A : Rat) * (2 : Rat) ^ (((e - q).toNat : Nat) : Int) := by
  unfold unitsNum; rw [Rat.natCast_mul, own_znat]
theorem own_uD (B : Nat) (e q : Int) : ((unitsDen B e q : Nat) : Rat) = (B : Rat) * (2 : Rat) ^ (((q - e).toNat : Nat) : Int) := by
  unfold unitsDen; rw [Rat.natCast_mul, own_znat]
theorem own_ratio {A B : Nat} {e q : Int} {v : Rat} (hv : v * (B : Rat) = (A : Rat) * (2 : Rat) ^ e) :
    ((unitsNum A e q : Nat) : Rat) * (2 : Rat) ^ q = v * ((unitsDen B e q : Nat) : Rat) := by
  rw [own_uN, own_uD, ← Rat.mul_assoc, hv, Rat.mul_assoc, Rat.mul_assoc, ← own_zadd, ← own_zadd]
  congr 2; omega
theorem own_zle {a b : Int} (h : a ≤ b) : (2 : Rat) ^ a ≤ (2 : Rat) ^ b := by
  have e : b = a + ((b - a).toNat : Int) := by omega
  rw [e, own_zadd, own_znat]
  have h1 : (1 : Rat) ≤ ((2 ^ (b - a).toNat : Nat) : Rat) := by
    have := Nat.two_pow_pos (b - a).toNat
    have : ((1 : Nat) : Rat) ≤ ((2 ^ (b - a).toNat : Nat) : Rat) := Rat.natCast_le_natCast.mpr this
    simpa using this
  have := Rat.mul_le_mul_of_nonneg_left h1 (Rat.le_of_lt (own_zp a))
  rw [Rat.mul_one] at this; exact this
theorem own_zlt {a b : Int} (h : (2 : Rat) ^ a ≤ (2 : Rat) ^ b) : a ≤ b := by
  refine Int.not_lt.mp fun hlt => ?_
  have h1 := own_zle (show b + 1 ≤ a by omega)
  have h2 := own_zp b
  rw [own_zadd, Rat.zpow_one] at h1
  grind
theorem own_fin_of_settle {s : Bool} {m : Nat} {r : Int} (hm : m ≤ 2 ^ b64.p) (hr : r ≤ 948) :
    ∃ c q, settle b64 s m r = .fin s c q ∧ own_r c q = (m : Rat) * (2 : Rat) ^ r := by
  have hq : b64.qmax = 971 := by decide +kernel
  unfold settle bound
  by_cases h : m < 2 ^ b64.p
  · rw [if_pos h, if_pos (by omega)]; exact ⟨_, _, rfl, rfl⟩
  · rw [if_neg h, if_pos (by omega)]
    refine ⟨_, _, rfl, ?_⟩
    have e : m = 2 ^ b64.p := by omega
    subst e
    unfold own_r
    rw [own_zadd, Rat.zpow_one]
    have : ((2 ^ b64.p : Nat) : Rat) = (b64.tails : Rat) * 2 := by decide +kernel
    rw [this]; grind
theorem own_round {s : Bool} {A B : Nat} {e : Int} {v : Rat} (hA : 0 < A) (hB : 0 < B) (hv : v * (B : Rat) = (A : Rat) * (2 : Rat) ^ e)
    (h1 : (2 : Rat) ^ (-1022 : Int) ≤ v) (h2 : v ≤ (2 : Rat) ^ (1000 : Int)) :
    ∃ c q, roundRatio b64 s A B e = .fin s c q ∧ v * (1 - own_u) ≤ own_r c q ∧ own_r c q ≤ v * (1 + own_u) := by
  unfold roundRatio
  rw [if_neg (by omega)]
  have g1 := quantum_ge b64 A B e
  have g2 := nearest_units_le (f := b64) hA hB e
  have g3 := quantum_not_below (f := b64) hA hB e
  unfold roundAt
  generalize quantum b64 A B e = r at g1 g2 g3 ⊢
  have hN := own_ratio (q := r) hv
  have hD := unitsDen_pos hB e r
  have hDr : (0 : Rat) < ((unitsDen B e r : Nat) : Rat) := Rat.natCast_pos.mpr hD
  have hP := own_zp r
  have low : (4503599627370496 : Rat) * (2 : Rat) ^ r ≤ v := by
    rcases g3 with g3 | g3
    · rw [g3]
      refine Rat.le_trans ?_ h1
      have : b64.qmin = -1074 := by decide +kernel
      rw [this]; decide +kernel
    · rw [show (b64.p : Int) - 1 = ((52 : Nat) : Int) by decide, ← units_below] at g3
      have g3 := Rat.natCast_le_natCast.mpr (Nat.le_of_not_lt g3)
      rw [Rat.natCast_mul] at g3
      have g4 := Rat.mul_le_mul_of_nonneg_right g3 (Rat.le_of_lt hP)
      rw [hN] at g4
      refine Rat.le_of_mul_le_mul_right (c := ((unitsDen B e r : Nat) : Rat)) ?_ hDr
      have : ((2 ^ 52 : Nat) : Rat) = 4503599627370496 := by decide +kernel
      rw [this] at g4
      grind
  have hr : r ≤ 948 := by
    have e0 : (4503599627370496 : Rat) = (2 : Rat) ^ (52 : Int) := by decide +kernel
    rw [e0, ← own_zadd] at low
    have := own_zlt (Rat.le_trans low h2)
    omega
  obtain ⟨n1, n2, -⟩ := nearest_spec (unitsNum A e r) (unitsDen B e r) hD
  obtain ⟨c, q, hs, hval⟩ := own_fin_of_settle (s := s) g2 hr
  refine ⟨c, q, hs, ?_⟩
  rw [hval]
  generalize nearest (unitsNum A e r) (unitsDen B e r) = m at *
  have n1 := Rat.natCast_le_natCast.mpr n1
  have n2 := Rat.natCast_le_natCast.mpr n2
  simp only [Rat.natCast_mul, Rat.natCast_add] at n1 n2
  generalize ((unitsNum A e r : Nat) : Rat) = N at *
  generalize ((unitsDen B e r : Nat) : Rat) = D at *
  generalize (2 : Rat) ^ r = P at *
  have t2 : ((2 : Nat) : Rat) = 2 := rfl
  have t1 : ((1 : Nat) : Rat) = 1 := rfl
  rw [t2] at n1 n2
  rw [t1] at n1
  have m1 := Rat.mul_le_mul_of_nonneg_right n1 (Rat.le_of_lt hP)
  have m2 := Rat.mul_le_mul_of_nonneg_right n2 (Rat.le_of_lt hP)
  have k1 : (2 * v) * D ≤ (2 * (m * P) + P) * D := by grind
  have k2 : (2 * (m * P)) * D ≤ (2 * v + P) * D := by grind
  have k1 := Rat.le_of_mul_le_mul_right k1 hDr
  have k2 := Rat.le_of_mul_le_mul_right k2 hDr
  unfold own_u
  constructor <;> grind
/-- a positive double and its value -/
def own_P (a : UInt64) (w : Rat) : Prop := ∃ c q, val64 a = .fin false c q ∧ w = own_r c q ∧ 0 < w
theorem own_P.cpos {c : Nat} {q : Int} (h : 0 < own_r c q) : 0 < c := by
  rcases Nat.eq_zero_or_pos c with h0 | h0
  · subst h0; unfold own_r at h; rw [show ((0 : Nat) : Rat) = 0 from rfl, Rat.zero_mul] at h; exact absurd h (by decide)
  · exact h0
/-- in the range of normal numbers, far from its ends -/
def own_N (v : Rat) : Prop := (2 : Rat) ^ (-1022 : Int) ≤ v ∧ v ≤ (2 : Rat) ^ (1000 : Int)
theorem own_N.pos {v : Rat} (h : own_N v) : 0 < v := by
  have := h.1; have := own_zp (-1022); grind
theorem own_upos {v : Rat} (h : 0 < v) : 0 < v * (1 - own_u) := Rat.mul_pos h (by decide +kernel)
/-- w is v, rounded once -/
def own_1 (w v : Rat) : Prop := v * (1 - own_u) ≤ w ∧ w ≤ v * (1 + own_u)
theorem own_P.of {a : UInt64} {A B : Nat} {e : Int} {v : Rat} (hd : val64 a = roundRatio b64 false A B e) (hA : 0 < A) (hB : 0 < B)
    (hv : v * (B : Rat) = (A : Rat) * (2 : Rat) ^ e) (hN : own_N v) : ∃ w, own_P a w ∧ own_1 w v := by
  obtain ⟨c, q, h1, h2, h3⟩ := own_round (s := false) hA hB hv hN.1 hN.2
  have := own_upos hN.pos
  exact ⟨own_r c q, ⟨c, q, hd.trans h1, rfl, by grind⟩, h2, h3⟩
theorem own_mul {a b : UInt64} {x y : Rat} (ha : own_P a x) (hb : own_P b y) (hN : own_N (x * y)) : ∃ w, own_P (FP.dmul a b) w ∧ own_1 w (x * y) := by
  obtain ⟨c, q, h1, h2, h3⟩ := ha
  obtain ⟨d, r, k1, k2, k3⟩ := hb
  have hc := own_P.cpos (h2 ▸ h3)
  have hd := own_P.cpos (k2 ▸ k3)
  refine own_P.of (A := c * d) (B := 1) (e := q + r) ?_ (Nat.mul_pos hc hd) (by decide) ?_ hN
  · have : val64 (FP.dmul a b) = round b64 (exactProduct (val64 a) (val64 b)) := val64_dmul a b
    rw [this, h1, k1]; rfl
  · subst h2 k2
    rw [own_zadd, Rat.natCast_mul, show ((1 : Nat) : Rat) = 1 from rfl]; unfold own_r; grind
theorem own_div {a b : UInt64} {x y : Rat} (ha : own_P a x) (hb : own_P b y) (hN : own_N (x / y)) : ∃ w, own_P (FP.ddiv a b) w ∧ own_1 w (x / y) := by
  obtain ⟨c, q, h1, h2, h3⟩ := ha
  obtain ⟨d, r, k1, k2, k3⟩ := hb
  have hc := own_P.cpos (h2 ▸ h3)
  have hd := own_P.cpos (k2 ▸ k3)
  refine own_P.of (A := c) (B := d) (e := q - r) ?_ hc hd ?_ hN
  · have : val64 (FP.ddiv a b) = quotient b64 (val64 a) (val64 b) := val64_ddiv a b
    rw [this, h1, k1]
    show (if d = 0 then _ else _) = _
    rw [if_neg (by omega)]; rfl
  · have hy : y ≠ 0 := by grind
    have e1 : x / y * y = x := Rat.div_mul_cancel hy
    have e2 : (2 : Rat) ^ q = (2 : Rat) ^ (q - r) * (2 : Rat) ^ r := by rw [← own_zadd]; congr 1; omega
    have hp := own_zp r
    generalize x / y = z at *
    subst h2 k2
    unfold own_r at e1
    rw [e2] at e1
    refine Rat.le_antisymm ?_ ?_ <;> refine Rat.le_of_mul_le_mul_right (c := (2 : Rat) ^ r) ?_ hp <;> grind
theorem own_sum {z : UInt64} {s : Bool} {a b : Datum} {c d : Nat} {q r : Int} {x y : Rat} (hz : val64 z = round b64 (exactSum a b)) (h1 : a = .fin false c q) (k1 : b = .fin s d r)
    (hx : x = own_r c q) (hy : y = (if s then -1 else 1) * own_r d r) (hN : own_N (x + y)) : ∃ w, own_P z w ∧ own_1 w (x + y) := by
  subst h1 k1
  have hv : ((sumUnits false c q s d r (min q r) : Int) : Rat) * (2 : Rat) ^ (min q r) = x + y := by
    unfold sumUnits
    have z1 : (2 : Rat) ^ (-(min q r)) * (2 : Rat) ^ (min q r) = 1 := by rw [← own_zadd, Int.add_left_neg]; rfl
    have i1 := own_inU c (show min q r ≤ q by omega)
    have i2 := own_inU d (show min q r ≤ r by omega)
    have i1 : ((inUnits c q (min q r) : Nat) : Rat) * (2 : Rat) ^ (min q r) = own_r c q := by rw [i1, Rat.mul_assoc, z1, Rat.mul_one]
    have i2 : ((inUnits d r (min q r) : Nat) : Rat) * (2 : Rat) ^ (min q r) = own_r d r := by rw [i2, Rat.mul_assoc, z1, Rat.mul_one]
    rw [Rat.intCast_add, Rat.add_mul, hx, hy]
    have j1 : ((signed false (inUnits c q (min q r)) : Int) : Rat) * (2 : Rat) ^ (min q r) = own_r c q := i1
    rw [j1]; congr 1
    · cases s
      · show (((inUnits d r (min q r) : Nat) : Int) : Rat) * _ = _
        rw [Rat.intCast_natCast, i2]; simp
      · show ((-((inUnits d r (min q r) : Nat) : Int) : Int) : Rat) * _ = _
        rw [Rat.intCast_neg, Rat.intCast_natCast, Rat.neg_mul, i2]; simp <;> grind
  have hm := own_zp (min q r)
  have hpos : 0 < sumUnits false c q s d r (min q r) := by
    have := hN.pos
    rw [← hv] at this
    have := (Rat.mul_pos_iff_of_pos_right hm).mp this
    exact Rat.intCast_pos.mp this
  rw [show exactSum (.fin false c q) (.fin s d r) = .fin (sumSign false s (sumUnits false c q s d r (min q r))) (sumUnits false c q s d r (min q r)).natAbs (min q r) from rfl] at hz
  generalize sumUnits false c q s d r (min q r) = t at *
  have hs : sumSign false s t = false := by unfold sumSign; rw [if_neg (by omega)]; simp; omega
  rw [hs] at hz
  refine own_P.of (A := t.natAbs) (B := 1) (e := min q r) hz (by omega) (by decide) ?_ hN
  rw [← hv, show ((1 : Nat) : Rat) = 1 from rfl, Rat.mul_one, ← Rat.intCast_natCast, show ((t.natAbs : Nat) : Int) = t by omega]
theorem own_add {a b : UInt64} {x y : Rat} (ha : own_P a x) (hb : own_P b y) (hN : own_N (x + y)) : ∃ w, own_P (FP.dadd a b) w ∧ own_1 w (x + y) := by
  obtain ⟨c, q, h1, h2, h3⟩ := ha
  obtain ⟨d, r, k1, k2, k3⟩ := hb
  exact own_sum (s := false) (show val64 (FP.dadd a b) = _ from val64_dadd a b) h1 k1 h2 (by rw [k2]; simp) hN
theorem own_sub {a b : UInt64} {x y : Rat} (ha : own_P a x) (hb : own_P b y) (hN : own_N (x - y)) : ∃ w, own_P (FP.dsub a b) w ∧ own_1 w (x - y) := by
  obtain ⟨c, q, h1, h2, h3⟩ := ha
  obtain ⟨d, r, k1, k2, k3⟩ := hb
  have e : x - y = x + -y := Rat.sub_eq_add_neg x y
  rw [e] at hN ⊢
  exact own_sum (s := true) (show val64 (FP.dsub a b) = _ from val64_dsub a b) h1 (by rw [k1]; rfl) h2 (by rw [k2]; simp <;> grind) hN
theorem own_int {a : UInt64} {n : Int} (h : val64 a = round b64 (ofInt n)) (hn : 0 < n) (hN : own_N (n : Rat)) : ∃ w, own_P a w ∧ own_1 w (n : Rat) := by
  unfold ofInt at h
  rw [show decide (n < 0) = false by simp; omega] at h
  refine own_P.of (A := n.natAbs) (B := 1) (e := 0) h (by omega) (by decide) ?_ hN
  rw [show ((1 : Nat) : Rat) = 1 from rfl, Rat.mul_one, Rat.zpow_zero, Rat.mul_one, ← Rat.intCast_natCast, show ((n.natAbs : Nat) : Int) = n by omega]
theorem own_mm {a b c d : Rat} (h0 : 0 ≤ a) (h1 : a ≤ b) (h2 : 0 ≤ c) (h3 : c ≤ d) : a * c ≤ b * d :=
  Rat.le_trans (Rat.mul_le_mul_of_nonneg_left h3 h0) (Rat.mul_le_mul_of_nonneg_right h1 (Rat.le_trans h2 h3))
theorem own_lediv {a b c : Rat} (hc : 0 < c) : a ≤ b / c ↔ a * c ≤ b := by
  constructor
  · intro h; have := Rat.mul_le_mul_of_nonneg_right h (Rat.le_of_lt hc); rwa [Rat.div_mul_cancel (by grind)] at this
  · intro h; refine Rat.le_of_mul_le_mul_right ?_ hc; rwa [Rat.div_mul_cancel (by grind)]
theorem own_divle {a b c : Rat} (hc : 0 < c) : b / c ≤ a ↔ b ≤ a * c := by
  constructor
  · intro h; have := Rat.mul_le_mul_of_nonneg_right h (Rat.le_of_lt hc); rwa [Rat.div_mul_cancel (by grind)] at this
  · intro h; refine Rat.le_of_mul_le_mul_right ?_ hc; rwa [Rat.div_mul_cancel (by grind)]
/-- a is a positive double within k half units of Q, between lo and hi -/
def own_D (a : UInt64) (Q k lo hi : Rat) : Prop := ∃ w, own_P a w ∧ 0 < Q ∧ Q * (1 - k * own_u) ≤ w ∧ w ≤ Q * (1 + k * own_u) ∧ lo ≤ w ∧ w ≤ hi
theorem own_lo : (0 : Rat) < 1 - own_u := by decide +kernel
theorem own_hi : (0 : Rat) < 1 + own_u := by decide +kernel
theorem own_D.lit {a : UInt64} {Q k lo hi : Rat} (c : Nat) (q : Int) (h : val64 a = .fin false c q)
    (hs : 0 < own_r c q ∧ 0 < Q ∧ Q * (1 - k * own_u) ≤ own_r c q ∧ own_r c q ≤ Q * (1 + k * own_u) ∧ lo ≤ own_r c q ∧ own_r c q ≤ hi) : own_D a Q k lo hi :=
  ⟨_, ⟨c, q, h, rfl, hs.1⟩, hs.2⟩
theorem own_Dmul {a b : UInt64} {Q1 k1 l1 h1 Q2 k2 l2 h2 : Rat} (ha : own_D a Q1 k1 l1 h1) (hb : own_D b Q2 k2 l2 h2) {k lo hi : Rat}
    (hs : (0 < l1 ∧ 0 < l2 ∧ 0 ≤ 1 - k1 * own_u ∧ 0 ≤ 1 - k2 * own_u) ∧ ((2 : Rat) ^ (-1022 : Int) ≤ l1 * l2 ∧ h1 * h2 ≤ (2 : Rat) ^ (1000 : Int)) ∧
      (lo ≤ l1 * l2 * (1 - own_u) ∧ h1 * h2 * (1 + own_u) ≤ hi) ∧
      ((1 + k1 * own_u) * (1 + k2 * own_u) * (1 + own_u) ≤ 1 + k * own_u ∧ 1 - k * own_u ≤ (1 - k1 * own_u) * (1 - k2 * own_u) * (1 - own_u))) :
    own_D (FP.dmul a b) (Q1 * Q2) k lo hi := by
  obtain ⟨x, px, q1, x1, x2, x3, x4⟩ := ha
  obtain ⟨y, py, q2, y1, y2, y3, y4⟩ := hb
  obtain ⟨⟨s1, s2, s3, s4⟩, ⟨s5, s6⟩, ⟨s7, s8⟩, s9, s10⟩ := hs
  have hx : 0 ≤ x := by grind
  have hy : 0 ≤ y := by grind
  have m1 := own_mm (Rat.le_of_lt s1) x3 (Rat.le_of_lt s2) y3
  have m2 := own_mm hx x4 hy y4
  obtain ⟨w, pw, w1, w2⟩ := own_mul px py ⟨Rat.le_trans s5 m1, Rat.le_trans m2 s6⟩
  have hl := own_lo
  have hh := own_hi
  have hQ := Rat.mul_pos q1 q2
  refine ⟨w, pw, hQ, ?_, ?_, ?_, ?_⟩
  · have a1 := own_mm (Rat.mul_nonneg (Rat.le_of_lt q1) s3) x1 (Rat.mul_nonneg (Rat.le_of_lt q2) s4) y1
    have a2 := Rat.mul_le_mul_of_nonneg_right a1 (Rat.le_of_lt hl)
    have a3 := Rat.mul_le_mul_of_nonneg_left s10 (Rat.le_of_lt hQ)
    generalize 1 - k1 * own_u = e1 at *
    generalize 1 - k2 * own_u = e2 at *
    generalize 1 - k * own_u = e3 at *
    generalize 1 - own_u = e4 at *
    grind
  · have a1 := own_mm hx x2 hy y2
    have a2 := Rat.mul_le_mul_of_nonneg_right a1 (Rat.le_of_lt hh)
    have a3 := Rat.mul_le_mul_of_nonneg_left s9 (Rat.le_of_lt hQ)
    generalize 1 + k1 * own_u = e1 at *
    generalize 1 + k2 * own_u = e2 at *
    generalize 1 + k * own_u = e3 at *
    generalize 1 + own_u = e4 at *
    grind
  · have := Rat.mul_le_mul_of_nonneg_right m1 (Rat.le_of_lt hl)
    grind
  · have := Rat.mul_le_mul_of_nonneg_right m2 (Rat.le_of_lt hh)
    grind
theorem own_Ddiv {a b : UInt64} {Q1 k1 l1 h1 Q2 k2 l2 h2 : Rat} (ha : own_D a Q1 k1 l1 h1) (hb : own_D b Q2 k2 l2 h2) {k lo hi : Rat}
    (hs : (0 < l1 ∧ 0 < l2 ∧ 0 ≤ h1 ∧ 0 < h2) ∧ ((2 : Rat) ^ (-1022 : Int) * h2 ≤ l1 ∧ h1 ≤ (2 : Rat) ^ (1000 : Int) * l2) ∧
      (lo * h2 ≤ l1 * (1 - own_u) ∧ h1 * (1 + own_u) ≤ hi * l2) ∧
      ((1 + k1 * own_u) * (1 + own_u) ≤ (1 + k * own_u) * (1 - k2 * own_u) ∧ (1 - k * own_u) * (1 + k2 * own_u) ≤ (1 - k1 * own_u) * (1 - own_u)) ∧ (0 < 1 - k * own_u ∧ 0 < 1 + k * own_u ∧ 0 ≤ lo ∧ 0 ≤ hi)) :
    own_D (FP.ddiv a b) (Q1 / Q2) k lo hi := by
  obtain ⟨x, px, q1, x1, x2, x3, x4⟩ := ha
  obtain ⟨y, py, q2, y1, y2, y3, y4⟩ := hb
  obtain ⟨⟨s1, s2, s3, s4⟩, ⟨s5, s6⟩, ⟨s7, s8⟩, ⟨s9, s10⟩, s11, s12, s13, s14⟩ := hs
  have hx : 0 ≤ x := by grind
  have hy : 0 < y := by grind
  have p1 := Rat.mul_le_mul_of_nonneg_left y4 (Rat.le_of_lt (own_zp (-1022)))
  have p2 := Rat.mul_le_mul_of_nonneg_left y3 (Rat.le_of_lt (own_zp 1000))
  have n1 : (2 : Rat) ^ (-1022 : Int) ≤ x / y := (own_lediv hy).mpr (by grind)
  have n2 : x / y ≤ (2 : Rat) ^ (1000 : Int) := (own_divle hy).mpr (by grind)
  obtain ⟨w, pw, w1, w2⟩ := own_div px py ⟨n1, n2⟩
  have hl := own_lo
  have hh := own_hi
  have e0 : x / y * y = x := Rat.div_mul_cancel (by grind)
  have w1' : x * (1 - own_u) ≤ w * y := by
    have t := Rat.mul_le_mul_of_nonneg_right w1 (Rat.le_of_lt hy); rwa [Rat.mul_assoc, Rat.mul_comm (1 - own_u), ← Rat.mul_assoc, e0] at t
  have w2' : w * y ≤ x * (1 + own_u) := by
    have t := Rat.mul_le_mul_of_nonneg_right w2 (Rat.le_of_lt hy); rwa [Rat.mul_assoc, Rat.mul_comm (1 + own_u), ← Rat.mul_assoc, e0] at t
  have hw : 0 < w := by obtain ⟨_, _, _, _, h⟩ := pw; exact h
  have f0 : Q1 / Q2 * Q2 = Q1 := Rat.div_mul_cancel (by grind)
  have fpos : 0 < Q1 / Q2 := by
    refine (Rat.lt_div_iff q2).mpr ?_; grind
  generalize Q1 / Q2 = F at *
  refine ⟨w, pw, fpos, ?_, ?_, ?_, ?_⟩
  · refine Rat.le_of_mul_le_mul_right (c := y) ?_ hy
    have a1 := Rat.mul_le_mul_of_nonneg_left y2 (Rat.mul_nonneg (Rat.le_of_lt fpos) (Rat.le_of_lt s11))
    have a2 := Rat.mul_le_mul_of_nonneg_left s10 (Rat.le_of_lt q1)
    have a3 := Rat.mul_le_mul_of_nonneg_right x1 (Rat.le_of_lt hl)
    rw [← f0] at a2 a3
    generalize 1 - k1 * own_u = e1 at *
    generalize 1 + k2 * own_u = e2 at *
    generalize 1 - k * own_u = e3 at *
    generalize 1 - own_u = e4 at *
    grind
  · refine Rat.le_of_mul_le_mul_right (c := y) ?_ hy
    have a1 := Rat.mul_le_mul_of_nonneg_left y1 (Rat.mul_nonneg (Rat.le_of_lt fpos) (Rat.le_of_lt s12))
    have a2 := Rat.mul_le_mul_of_nonneg_left s9 (Rat.le_of_lt q1)
    have a3 := Rat.mul_le_mul_of_nonneg_right x2 (Rat.le_of_lt hh)
    rw [← f0] at a2 a3
    generalize 1 + k1 * own_u = e1 at *
    generalize 1 - k2 * own_u = e2 at *
    generalize 1 + k * own_u = e3 at *
    generalize 1 + own_u = e4 at *
    grind
  · refine Rat.le_of_mul_le_mul_right (c := y) ?_ hy
    have a1 := Rat.mul_le_mul_of_nonneg_left y4 s13
    have a2 := Rat.mul_le_mul_of_nonneg_right x3 (Rat.le_of_lt hl)
    grind
  · refine Rat.le_of_mul_le_mul_right (c := y) ?_ hy
    have a1 := Rat.mul_le_mul_of_nonneg_left y3 s14
    have a2 := Rat.mul_le_mul_of_nonneg_right x4 (Rat.le_of_lt hh)
    grind
theorem own_Dadd {a b : UInt64} {Q1 k1 l1 h1 Q2 k2 l2 h2 : Rat} (ha : own_D a Q1 k1 l1 h1) (hb : own_D b Q2 k2 l2 h2) {k lo hi : Rat}
    (hs : ((2 : Rat) ^ (-1022 : Int) ≤ l1 + l2 ∧ h1 + h2 ≤ (2 : Rat) ^ (1000 : Int)) ∧ (lo ≤ (l1 + l2) * (1 - own_u) ∧ (h1 + h2) * (1 + own_u) ≤ hi) ∧
      ((1 + k1 * own_u) * (1 + own_u) ≤ 1 + k * own_u ∧ (1 + k2 * own_u) * (1 + own_u) ≤ 1 + k * own_u) ∧
      (1 - k * own_u ≤ (1 - k1 * own_u) * (1 - own_u) ∧ 1 - k * own_u ≤ (1 - k2 * own_u) * (1 - own_u))) :
    own_D (FP.dadd a b) (Q1 + Q2) k lo hi := by
  obtain ⟨x, px, q1, x1, x2, x3, x4⟩ := ha
  obtain ⟨y, py, q2, y1, y2, y3, y4⟩ := hb
  obtain ⟨⟨s5, s6⟩, ⟨s7, s8⟩, ⟨s9, s10⟩, s11, s12⟩ := hs
  have m1 : l1 + l2 ≤ x + y := by grind
  have m2 : x + y ≤ h1 + h2 := by grind
  obtain ⟨w, pw, w1, w2⟩ := own_add px py ⟨Rat.le_trans s5 m1, Rat.le_trans m2 s6⟩
  have hl := own_lo
  have hh := own_hi
  refine ⟨w, pw, by grind, ?_, ?_, ?_, ?_⟩
  · have a1 := Rat.mul_le_mul_of_nonneg_right x1 (Rat.le_of_lt hl)
    have a2 := Rat.mul_le_mul_of_nonneg_right y1 (Rat.le_of_lt hl)
    have a3 := Rat.mul_le_mul_of_nonneg_left s11 (Rat.le_of_lt q1)
    have a4 := Rat.mul_le_mul_of_nonneg_left s12 (Rat.le_of_lt q2)
    generalize 1 - k1 * own_u = e1 at *
    generalize 1 - k2 * own_u = e2 at *
    generalize 1 - k * own_u = e3 at *
    generalize 1 - own_u = e4 at *
    grind
  · have a1 := Rat.mul_le_mul_of_nonneg_right x2 (Rat.le_of_lt hh)
    have a2 := Rat.mul_le_mul_of_nonneg_right y2 (Rat.le_of_lt hh)
    have a3 := Rat.mul_le_mul_of_nonneg_left s9 (Rat.le_of_lt q1)
    have a4 := Rat.mul_le_mul_of_nonneg_left s10 (Rat.le_of_lt q2)
    generalize 1 + k1 * own_u = e1 at *
    generalize 1 + k2 * own_u = e2 at *
    generalize 1 + k * own_u = e3 at *
    generalize 1 + own_u = e4 at *
    grind
  · have := Rat.mul_le_mul_of_nonneg_right m1 (Rat.le_of_lt hl); grind
  · have := Rat.mul_le_mul_of_nonneg_right m2 (Rat.le_of_lt hh); grind
theorem own_Dsub {a b : UInt64} {Q1 k1 l1 h1 Q2 k2 l2 h2 : Rat} (ha : own_D a Q1 k1 l1 h1) (hb : own_D b Q2 k2 l2 h2) {k lo hi : Rat} (ρ : Rat)
    (hs : ((2 : Rat) ^ (-1022 : Int) ≤ l1 - h2 ∧ h1 - l2 ≤ (2 : Rat) ^ (1000 : Int)) ∧ (lo ≤ (l1 - h2) * (1 - own_u) ∧ (h1 - l2) * (1 + own_u) ≤ hi) ∧
      (0 ≤ ρ ∧ ρ < 1 ∧ 0 < 1 - k2 * own_u ∧ 0 < 1 + k1 * own_u ∧ h2 * (1 + k1 * own_u) ≤ ρ * (l1 * (1 - k2 * own_u))) ∧
      (ρ * ((1 + k * own_u) - (1 - k2 * own_u) * (1 + own_u)) ≤ (1 + k * own_u) - (1 + k1 * own_u) * (1 + own_u) ∧ 0 ≤ (1 + k * own_u) - (1 - k2 * own_u) * (1 + own_u)) ∧
      (ρ * ((1 + k2 * own_u) * (1 - own_u) - (1 - k * own_u)) ≤ (1 - k1 * own_u) * (1 - own_u) - (1 - k * own_u) ∧ 0 ≤ (1 + k2 * own_u) * (1 - own_u) - (1 - k * own_u))) :
    own_D (FP.dsub a b) (Q1 - Q2) k lo hi := by
  obtain ⟨x, px, q1, x1, x2, x3, x4⟩ := ha
  obtain ⟨y, py, q2, y1, y2, y3, y4⟩ := hb
  obtain ⟨⟨s5, s6⟩, ⟨s7, s8⟩, ⟨r0, r1, r2, r3, r4⟩, ⟨s9, s10⟩, s11, s12⟩ := hs
  have m1 : l1 - h2 ≤ x - y := by grind
  have m2 : x - y ≤ h1 - l2 := by grind
  obtain ⟨w, pw, w1, w2⟩ := own_sub px py ⟨Rat.le_trans s5 m1, Rat.le_trans m2 s6⟩
  have hl := own_lo
  have hh := own_hi
  have hQ : Q2 ≤ ρ * Q1 := by
    refine Rat.le_of_mul_le_mul_right (c := 1 - k2 * own_u) ?_ r2
    refine Rat.le_of_mul_le_mul_right (c := 1 + k1 * own_u) ?_ r3
    have b1 : Q2 * (1 - k2 * own_u) ≤ h2 := Rat.le_trans y1 y4
    have b2 : l1 ≤ Q1 * (1 + k1 * own_u) := Rat.le_trans x3 x2
    have b3 := Rat.mul_le_mul_of_nonneg_right b1 (Rat.le_of_lt r3)
    have b4 := Rat.mul_le_mul_of_nonneg_left b2 (Rat.mul_nonneg r0 (Rat.le_of_lt r2))
    generalize 1 - k2 * own_u = e1 at *
    generalize 1 + k1 * own_u = e2 at *
    grind
  have hQ' : 0 < Q1 - Q2 := by
    have := Rat.mul_lt_mul_of_pos_right r1 q1
    grind
  refine ⟨w, pw, hQ', ?_, ?_, ?_, ?_⟩
  · have a0 : Q1 * (1 - k1 * own_u) - Q2 * (1 + k2 * own_u) ≤ x - y := by grind
    have a1 := Rat.mul_le_mul_of_nonneg_right a0 (Rat.le_of_lt hl)
    have a2 := Rat.mul_le_mul_of_nonneg_left s11 (Rat.le_of_lt q1)
    have a3 := Rat.mul_le_mul_of_nonneg_right hQ s12
    generalize 1 - k1 * own_u = e1 at *
    generalize 1 + k2 * own_u = e2 at *
    generalize 1 - k * own_u = e3 at *
    generalize 1 - own_u = e4 at *
    grind
  · have a0 : x - y ≤ Q1 * (1 + k1 * own_u) - Q2 * (1 - k2 * own_u) := by grind
    have a1 := Rat.mul_le_mul_of_nonneg_right a0 (Rat.le_of_lt hh)
    have a2 := Rat.mul_le_mul_of_nonneg_left s9 (Rat.le_of_lt q1)
    have a3 := Rat.mul_le_mul_of_nonneg_right hQ s10
    generalize 1 + k1 * own_u = e1 at *
    generalize 1 - k2 * own_u = e2 at *
    generalize 1 + k * own_u = e3 at *
    generalize 1 + own_u = e4 at *
    grind
  · have := Rat.mul_le_mul_of_nonneg_right m1 (Rat.le_of_lt hl); grind
  · have := Rat.mul_le_mul_of_nonneg_right m2 (Rat.le_of_lt hh); grind
theorem own_D.fin {a : UInt64} {Q k lo hi : Rat} (h : own_D a Q k lo hi) : DFin a := by
  obtain ⟨w, ⟨c, q, h, _⟩, _⟩ := h; exact ⟨_, _, _, h⟩
theorem own_D.fin64 {a : UInt64} {Q k lo hi : Rat} (h : own_D a Q k lo hi) : Jvm.Free.Fl.Fin64 a := Jvm.Free.Fl.fin64_core.mpr h.fin
theorem own_D.no {a : UInt64} {Q k lo hi : Rat} (h : own_D a Q k lo hi) : Jvm.Free.Fl.NoNaN64 a := h.fin64.noNaN
theorem own_D.ne {a : UInt64} {Q k lo hi : Rat} (h : own_D a Q k lo hi) : val64 a ≠ .nan := (notNaN_iff _).mp (Jvm.Free.Fl.noNaN64_no.mp h.no)
theorem own_P.z {a : UInt64} {w : Rat} (h : own_P a w) : ((zval b64 (val64 a) : Int) : Rat) = w * (2 : Rat) ^ (1074 : Int) := by
  obtain ⟨c, q, h1, h2, h3⟩ := h
  have hf := val64_fits a
  rw [h1] at hf ⊢
  have : b64.qmin = -1074 := by decide +kernel
  have hq := hf.2.1
  show (((inUnits c q b64.qmin : Nat) : Int) : Rat) = _
  rw [Rat.intCast_natCast, own_inU c hq, h2, this]; rfl
end Flt

section Chn
open Jvm.FP.Core
def own_s1 (x : UInt64) : UInt64 := FP.ddiv (4607182418800017408 : UInt64) x
def own_s2 (x : UInt64) : UInt64 := FP.dmul (own_s1 x) (own_s1 x)
def own_s3 (x : UInt64) : UInt64 := FP.ddiv (own_s2 x) (4652939694701543424 : UInt64)
def own_s4 (x : UInt64) : UInt64 := FP.dsub (4558629325674461204 : UInt64) (own_s3 x)
def own_s5 (x : UInt64) : UInt64 := FP.dmul (own_s2 x) (own_s4 x)
def own_s6 (x : UInt64) : UInt64 := FP.dsub (4560459359808757786 : UInt64) (own_s5 x)
def own_s7 (x : UInt64) : UInt64 := FP.dmul (own_s2 x) (own_s6 x)
def own_s8 (x : UInt64) : UInt64 := FP.dsub (4568551541996350487 : UInt64) (own_s7 x)
def own_s9 (x : UInt64) : UInt64 := FP.dmul (own_s2 x) (own_s8 x)
def own_s10 (x : UInt64) : UInt64 := FP.dsub (4590669220166325589 : UInt64) (own_s9 x)
def own_s11 (x : UInt64) : UInt64 := FP.dmul (own_s1 x) (own_s10 x)
def own_x2 (x : UInt64) : UInt64 := FP.dmul x x
def own_n1 (x : UInt64) : UInt64 := FP.dmul (4668845229908951040 : UInt64) (own_x2 x)
def own_n2 (x : UInt64) : UInt64 := FP.dsub (own_n1 x) (4646835206144131072 : UInt64)
def own_n3 (x : UInt64) : UInt64 := FP.dmul (own_n2 x) (own_x2 x)
def own_n4 (x : UInt64) : UInt64 := FP.dadd (own_n3 x) (4638848353679966208 : UInt64)
def own_n5 (x : UInt64) : UInt64 := FP.dmul (own_n4 x) (own_x2 x)
def own_n6 (x : UInt64) : UInt64 := FP.dsub (own_n5 x) (4636666922610458624 : UInt64)
def own_n7 (x : UInt64) : UInt64 := FP.dmul (own_n6 x) (own_x2 x)
def own_n8 (x : UInt64) : UInt64 := FP.dadd (own_n7 x) (4639129828656676864 : UInt64)
def own_x4 (x : UInt64) : UInt64 := FP.dmul (own_x2 x) (own_x2 x)
def own_x8 (x : UInt64) : UInt64 := FP.dmul (own_x4 x) (own_x4 x)
def own_d1 (x : UInt64) : UInt64 := FP.dmul (own_x8 x) x
def own_d2 (x : UInt64) : UInt64 := FP.dmul (4684954724523311104 : UInt64) (own_d1 x)
def own_ref (x : UInt64) : UInt64 := FP.ddiv (own_n8 x) (own_d2 x)
def own_tol (x : UInt64) : UInt64 := FP.dmul (own_ref x) (4397347889687374747 : UInt64)
theorem own_l_one : own_D (4607182418800017408 : UInt64) (1 : Rat) (0 : Rat) (1 : Rat) (1 : Rat) := own_D.lit 4503599627370496 (-52) (by decide +kernel) (by decide +kernel)
theorem own_l_C57 : own_D (4590669220166325589 : UInt64) (1 / 12 : Rat) (1 : Rat) (22369621 / 268435456 : Rat) (11184811 / 134217728 : Rat) := own_D.lit 6004799503160661 (-56) (by decide +kernel) (by decide +kernel)
theorem own_l_C59 : own_D (4568551541996350487 : UInt64) (1 / 360 : Rat) (1 : Rat) (23860929 / 8589934592 : Rat) (11930465 / 4294967296 : Rat) := own_D.lit 6405119470038039 (-61) (by decide +kernel) (by decide +kernel)
theorem own_l_C61 : own_D (4560459359808757786 : UInt64) (1 / 1260 : Rat) (1 : Rat) (27269633 / 34359738368 : Rat) (13634817 / 17179869184 : Rat) := own_D.lit 7320136537186330 (-63) (by decide +kernel) (by decide +kernel)
theorem own_l_C63 : own_D (4558629325674461204 : UInt64) (1 / 1680 : Rat) (1 : Rat) (20452225 / 34359738368 : Rat) (10226113 / 17179869184 : Rat) := own_D.lit 5490102402889748 (-63) (by decide +kernel) (by decide +kernel)
theorem own_l_C1188 : own_D (4652939694701543424 : UInt64) (1188 : Rat) (0 : Rat) (1188 : Rat) (1188 : Rat) := own_D.lit 5224879255191552 (-42) (by decide +kernel) (by decide +kernel)
theorem own_l_K13860 : own_D (4668845229908951040 : UInt64) (13860 : Rat) (0 : Rat) (13860 : Rat) (13860 : Rat) := own_D.lit 7619615580487680 (-39) (by decide +kernel) (by decide +kernel)
theorem own_l_K462 : own_D (4646835206144131072 : UInt64) (462 : Rat) (0 : Rat) (462 : Rat) (462 : Rat) := own_D.lit 8127589952520192 (-44) (by decide +kernel) (by decide +kernel)
theorem own_l_K132 : own_D (4638848353679966208 : UInt64) (132 : Rat) (0 : Rat) (132 : Rat) (132 : Rat) := own_D.lit 4644337115725824 (-45) (by decide +kernel) (by decide +kernel)
theorem own_l_K99 : own_D (4636666922610458624 : UInt64) (99 : Rat) (0 : Rat) (99 : Rat) (99 : Rat) := own_D.lit 6966505673588736 (-46) (by decide +kernel) (by decide +kernel)
theorem own_l_K140 : own_D (4639129828656676864 : UInt64) (140 : Rat) (0 : Rat) (140 : Rat) (140 : Rat) := own_D.lit 4925812092436480 (-45) (by decide +kernel) (by decide +kernel)
theorem own_l_K166320 : own_D (4684954724523311104 : UInt64) (166320 : Rat) (0 : Rat) (166320 : Rat) (166320 : Rat) := own_D.lit 5714711685365760 (-35) (by decide +kernel) (by decide +kernel)
theorem own_l_K14 : own_D (4397347889687374747 : UInt64) (1 / 100000000000000 : Rat) (1 : Rat) (2951479 / 295147905179352825856 : Rat) (23611833 / 2361183241434822606848 : Rat) := own_D.lit 6338253001141147 (-99) (by decide +kernel) (by decide +kernel)
theorem own_h_s1 {x : UInt64} {X : Rat} (hx : own_D x X 0 9 1152921504606846976) : own_D (own_s1 x) ((1 : Rat) / X) (1 : Rat) (33554431 / 38685626227668133590597632 : Rat) (14913081 / 134217728 : Rat) := own_Ddiv own_l_one hx (by decide +kernel)
theorem own_h_s2 {x : UInt64} {X : Rat} (hx : own_D x X 0 9 1152921504606846976) : own_D (own_s2 x) (((1 : Rat) / X) * ((1 : Rat) / X)) (301 / 100 : Rat) (16777215 / 22300745198530623141535718272648361505980416 : Rat) (26512145 / 2147483648 : Rat) := own_Dmul (own_h_s1 hx) (own_h_s1 hx) (by decide +kernel)
theorem own_h_s3 {x : UInt64} {X : Rat} (hx : own_D x X 0 9 1152921504606846976) : own_D (own_s3 x) ((((1 : Rat) / X) * ((1 : Rat) / X)) / (1188 : Rat)) (201 / 50 : Rat) (903823 / 1427247692705959881058285969449495136382746624 : Rat) (5713055 / 549755813888 : Rat) := own_Ddiv (own_h_s2 hx) own_l_C1188 (by decide +kernel)
theorem own_h_s4 {x : UInt64} {X : Rat} (hx : own_D x X 0 9 1152921504606846976) : own_D (own_s4 x) ((1 / 1680 : Rat) - ((((1 : Rat) / X) * ((1 : Rat) / X)) / (1188 : Rat))) (209 / 100 : Rat) (20095159 / 34359738368 : Rat) (20452227 / 34359738368 : Rat) := own_Dsub own_l_C63 (own_h_s3 hx) (9372981 / 536870912 : Rat) (by decide +kernel)
theorem own_h_s5 {x : UInt64} {X : Rat} (hx : own_D x X 0 9 1152921504606846976) : own_D (own_s5 x) ((((1 : Rat) / X) * ((1 : Rat) / X)) * ((1 / 1680 : Rat) - ((((1 : Rat) / X) * ((1 : Rat) / X)) / (1188 : Rat)))) (611 / 100 : Rat) (20095157 / 45671926166590716193865151022383844364247891968 : Rat) (32319571 / 4398046511104 : Rat) := own_Dmul (own_h_s2 hx) (own_h_s4 hx) (by decide +kernel)
theorem own_h_s6 {x : UInt64} {X : Rat} (hx : own_D x X 0 9 1152921504606846976) : own_D (own_s6 x) ((1 / 1260 : Rat) - ((((1 : Rat) / X) * ((1 : Rat) / X)) * ((1 / 1680 : Rat) - ((((1 : Rat) / X) * ((1 : Rat) / X)) / (1188 : Rat))))) (207 / 100 : Rat) (1688571 / 2147483648 : Rat) (27269635 / 34359738368 : Rat) := own_Dsub own_l_C61 (own_h_s5 hx) (1242757 / 134217728 : Rat) (by decide +kernel)
theorem own_h_s7 {x : UInt64} {X : Rat} (hx : own_D x X 0 9 1152921504606846976) : own_D (own_s7 x) ((((1 : Rat) / X) * ((1 : Rat) / X)) * ((1 / 1260 : Rat) - ((((1 : Rat) / X) * ((1 : Rat) / X)) * ((1 / 1680 : Rat) - ((((1 : Rat) / X) * ((1 : Rat) / X)) / (1188 : Rat)))))) (609 / 100 : Rat) (13508567 / 22835963083295358096932575511191922182123945984 : Rat) (5386595 / 549755813888 : Rat) := own_Dmul (own_h_s2 hx) (own_h_s6 hx) (by decide +kernel)
theorem own_h_s8 {x : UInt64} {X : Rat} (hx : own_D x X 0 9 1152921504606846976) : own_D (own_s8 x) ((1 / 360 : Rat) - ((((1 : Rat) / X) * ((1 : Rat) / X)) * ((1 / 1260 : Rat) - ((((1 : Rat) / X) * ((1 : Rat) / X)) * ((1 / 1680 : Rat) - ((((1 : Rat) / X) * ((1 : Rat) / X)) / (1188 : Rat))))))) (203 / 100 : Rat) (23776763 / 8589934592 : Rat) (23860931 / 8589934592 : Rat) := own_Dsub own_l_C59 (own_h_s7 hx) (15149799 / 4294967296 : Rat) (by decide +kernel)
theorem own_h_s9 {x : UInt64} {X : Rat} (hx : own_D x X 0 9 1152921504606846976) : own_D (own_s9 x) ((((1 : Rat) / X) * ((1 : Rat) / X)) * ((1 / 360 : Rat) - ((((1 : Rat) / X) * ((1 : Rat) / X)) * ((1 / 1260 : Rat) - ((((1 : Rat) / X) * ((1 : Rat) / X)) * ((1 / 1680 : Rat) - ((((1 : Rat) / X) * ((1 : Rat) / X)) / (1188 : Rat)))))))) (121 / 20 : Rat) (23776761 / 11417981541647679048466287755595961091061972992 : Rat) (18853083 / 549755813888 : Rat) := own_Dmul (own_h_s2 hx) (own_h_s8 hx) (by decide +kernel)
theorem own_h_s10 {x : UInt64} {X : Rat} (hx : own_D x X 0 9 1152921504606846976) : own_D (own_s10 x) ((1 / 12 : Rat) - ((((1 : Rat) / X) * ((1 : Rat) / X)) * ((1 / 360 : Rat) - ((((1 : Rat) / X) * ((1 : Rat) / X)) * ((1 / 1260 : Rat) - ((((1 : Rat) / X) * ((1 : Rat) / X)) * ((1 / 1680 : Rat) - ((((1 : Rat) / X) * ((1 : Rat) / X)) / (1188 : Rat))))))))) (201 / 100 : Rat) (22360415 / 268435456 : Rat) (22369623 / 268435456 : Rat) := own_Dsub own_l_C57 (own_h_s9 hx) (28279625 / 68719476736 : Rat) (by decide +kernel)
theorem own_h_s11 {x : UInt64} {X : Rat} (hx : own_D x X 0 9 1152921504606846976) : own_D (own_s11 x) (((1 : Rat) / X) * ((1 / 12 : Rat) - ((((1 : Rat) / X) * ((1 : Rat) / X)) * ((1 / 360 : Rat) - ((((1 : Rat) / X) * ((1 : Rat) / X)) * ((1 / 1260 : Rat) - ((((1 : Rat) / X) * ((1 : Rat) / X)) * ((1 / 1680 : Rat) - ((((1 : Rat) / X) * ((1 : Rat) / X)) / (1188 : Rat)))))))))) (201 / 50 : Rat) (11180207 / 154742504910672534362390528 : Rat) (9942055 / 1073741824 : Rat) := own_Dmul (own_h_s1 hx) (own_h_s10 hx) (by decide +kernel)
theorem own_h_x2 {x : UInt64} {X : Rat} (hx : own_D x X 0 9 1152921504606846976) : own_D (own_x2 x) (X * X) (1 : Rat) (21233663 / 262144 : Rat) (1329228075013078387168144653824294912 : Rat) := own_Dmul hx hx (by decide +kernel)
theorem own_h_n1 {x : UInt64} {X : Rat} (hx : own_D x X 0 9 1152921504606846976) : own_D (own_n1 x) ((13860 : Rat) * (X * X)) (201 / 100 : Rat) (17962559 / 16 : Rat) (18423101319653148632153672988109658128384 : Rat) := own_Dmul own_l_K13860 (own_h_x2 hx) (by decide +kernel)
theorem own_h_n2 {x : UInt64} {X : Rat} (hx : own_D x X 0 9 1152921504606846976) : own_D (own_n2 x) (((13860 : Rat) * (X * X)) - (462 : Rat)) (151 / 50 : Rat) (8977583 / 8 : Rat) (18423101968690255949007126554421699280896 : Rat) := own_Dsub (own_h_n1 hx) own_l_K462 (14139811 / 34359738368 : Rat) (by decide +kernel)
theorem own_h_n3 {x : UInt64} {X : Rat} (hx : own_D x X 0 9 1152921504606846976) : own_D (own_n3 x) ((((13860 : Rat) * (X * X)) - (462 : Rat)) * (X * X)) (503 / 100 : Rat) (90898020 : Rat) (24488504631419873552126870507019264552509834592639186366057058926493349969920 : Rat) := own_Dmul (own_h_n2 hx) (own_h_x2 hx) (by decide +kernel)
theorem own_h_n4 {x : UInt64} {X : Rat} (hx : own_D x X 0 9 1152921504606846976) : own_D (own_n4 x) (((((13860 : Rat) * (X * X)) - (462 : Rat)) * (X * X)) + (132 : Rat)) (151 / 25 : Rat) (90898148 : Rat) (24488505494138166900947343936363747337138016149027807887355378321808877944832 : Rat) := own_Dadd (own_h_n3 hx) own_l_K132 (by decide +kernel)
theorem own_h_n5 {x : UInt64} {X : Rat} (hx : own_D x X 0 9 1152921504606846976) : own_D (own_n5 x) ((((((13860 : Rat) * (X * X)) - (462 : Rat)) * (X * X)) + (132 : Rat)) * (X * X)) (161 / 20 : Rat) (7362749440 : Rat) (32550809371239792498834247514783792407774723314129270081127547815791774635779977380346100397687106664525364985856 : Rat) := own_Dmul (own_h_n4 hx) (own_h_x2 hx) (by decide +kernel)
theorem own_h_n6 {x : UInt64} {X : Rat} (hx : own_D x X 0 9 1152921504606846976) : own_D (own_n6 x) (((((((13860 : Rat) * (X * X)) - (462 : Rat)) * (X * X)) + (132 : Rat)) * (X * X)) - (99 : Rat)) (453 / 50 : Rat) (7362749184 : Rat) (32550810517989100493870003320194240058818193712411764665268109684586194329241415424588504432696383219588208263168 : Rat) := own_Dsub (own_h_n5 hx) own_l_K99 (30277845 / 2251799813685248 : Rat) (by decide +kernel)
theorem own_h_n7 {x : UInt64} {X : Rat} (hx : own_D x X 0 9 1152921504606846976) : own_D (own_n7 x) ((((((((13860 : Rat) * (X * X)) - (462 : Rat)) * (X * X)) + (132 : Rat)) * (X * X)) - (99 : Rat)) * (X * X)) (1107 / 100 : Rat) (596382646272 : Rat) (43267451674583780000735336627184030957064907774221055480342807770332728412878439296342941281510356971452780737069376621198512385262461255522495496192 : Rat) := own_Dmul (own_h_n6 hx) (own_h_x2 hx) (by decide +kernel)
theorem own_h_n8 {x : UInt64} {X : Rat} (hx : own_D x X 0 9 1152921504606846976) : own_D (own_n8 x) (((((((((13860 : Rat) * (X * X)) - (462 : Rat)) * (X * X)) + (132 : Rat)) * (X * X)) - (99 : Rat)) * (X * X)) + (140 : Rat)) (302 / 25 : Rat) (596382646272 : Rat) (43267453198875064334715918356479553317009393003028742328473252525780462604954483641931622980878571357923469779953620332822839970930418130174978555904 : Rat) := own_Dadd (own_h_n7 hx) own_l_K140 (by decide +kernel)
theorem own_h_x4 {x : UInt64} {X : Rat} (hx : own_D x X 0 9 1152921504606846976) : own_D (own_x4 x) ((X * X) * (X * X)) (301 / 100 : Rat) (26873853 / 4096 : Rat) (1766847380715259335254857594497001566838780853560905159768939964225552384 : Rat) := own_Dmul (own_h_x2 hx) (own_h_x2 hx) (by decide +kernel)
theorem own_h_x8 {x : UInt64} {X : Rat} (hx : own_D x X 0 9 1152921504606846976) : own_D (own_x8 x) (((X * X) * (X * X)) * ((X * X) * (X * X))) (703 / 100 : Rat) (43046710 : Rat) (3121749852810986169109145094181430041052723704390289502533120984055808670525369919329384703597854850224136416007845341324438832573294403783753728 : Rat) := own_Dmul (own_h_x4 hx) (own_h_x4 hx) (by decide +kernel)
theorem own_h_d1 {x : UInt64} {X : Rat} (hx : own_D x X 0 9 1152921504606846976) : own_D (own_d1 x) ((((X * X) * (X * X)) * ((X * X) * (X * X))) * X) (201 / 25 : Rat) (387420384 : Rat) (3599132751833972138900859551623985257444062012000358342306956806705334860922986145669245579523022851083575472830894563968781122124892439680367765288199203862872064 : Rat) := own_Dmul (own_h_x8 hx) hx (by decide +kernel)
theorem own_h_d2 {x : UInt64} {X : Rat} (hx : own_D x X 0 9 1152921504606846976) : own_D (own_d2 x) ((166320 : Rat) * ((((X * X) * (X * X)) * ((X * X) * (X * X))) * X)) (181 / 20 : Rat) (64435756466176 : Rat) (598607783147062912755990329903188405625019217064456702790622659146386278197659161237961361964286471531436305742316362276075138768848140854653820615240613926388820344832 : Rat) := own_Dmul own_l_K166320 (own_h_d1 hx) (by decide +kernel)
theorem own_h_ref {x : UInt64} {X : Rat} (hx : own_D x X 0 9 1152921504606846976) : own_D (own_ref x) ((((((((((13860 : Rat) * (X * X)) - (462 : Rat)) * (X * X)) + (132 : Rat)) * (X * X)) - (99 : Rat)) * (X * X)) + (140 : Rat)) / ((166320 : Rat) * ((((X * X) * (X * X)) * ((X * X) * (X * X))) * X))) (1107 / 50 : Rat) (14343009 / 14396524142538228424993723224595141948383030778566133225922417832357880258148761185020930195532450742879746914027266864394266451377581759004827248578768524336431104 : Rat) (671482070591737027413715502312536477564752831117134763128273665082464243978853066521895441698693751243781751677258056718453463773609984 : Rat) := own_Ddiv (own_h_n8 hx) (own_h_d2 hx) (by decide +kernel)
theorem own_h_tol {x : UInt64} {X : Rat} (hx : own_D x X 0 9 1152921504606846976) : own_D (own_tol x) (((((((((((13860 : Rat) * (X * X)) - (462 : Rat)) * (X * X)) + (132 : Rat)) * (X * X)) - (99 : Rat)) * (X * X)) + (140 : Rat)) / ((166320 : Rat) * ((((X * X) * (X * X)) * ((X * X) * (X * X))) * X))) * (1 / 100000000000000 : Rat)) (483 / 20 : Rat) (10092995 / 1013065324433836171511818326096474890383898005918563696288002277756507034036354527929615978746851512277392062160962106733983191180520452956027069051297354415786421338721071661056 : Rat) (6714820942478703457017972525546299413337530276928998106620079252438098474285454512278649280191541274903894130509104545792 : Rat) := own_Dmul (own_h_ref hx) own_l_K14 (by decide +kernel)
theorem own_same {X : Rat} (h : 0 < X) : (((1 : Rat) / X) * ((1 / 12 : Rat) - ((((1 : Rat) / X) * ((1 : Rat) / X)) * ((1 / 360 : Rat) - ((((1 : Rat) / X) * ((1 : Rat) / X)) * ((1 / 1260 : Rat) - ((((1 : Rat) / X) * ((1 : Rat) / X)) * ((1 / 1680 : Rat) - ((((1 : Rat) / X) * ((1 : Rat) / X)) / (1188 : Rat)))))))))) = ((((((((((13860 : Rat) * (X * X)) - (462 : Rat)) * (X * X)) + (132 : Rat)) * (X * X)) - (99 : Rat)) * (X * X)) + (140 : Rat)) / ((166320 : Rat) * ((((X * X) * (X * X)) * ((X * X) * (X * X))) * X))) := by
  have hX : X ≠ 0 := by grind
  have hr : 1 / X * X = 1 := Rat.div_mul_cancel hX
  generalize 1 / X = r at *
  have hD : (0 : Rat) < ((166320 : Rat) * ((((X * X) * (X * X)) * ((X * X) * (X * X))) * X)) := by
    have h2 := Rat.mul_pos h h
    have h4 := Rat.mul_pos h2 h2
    have h8 := Rat.mul_pos h4 h4
    exact Rat.mul_pos (by decide) (Rat.mul_pos h8 h)
  have key : (r * ((1 / 12 : Rat) - ((r * r) * ((1 / 360 : Rat) - ((r * r) * ((1 / 1260 : Rat) - ((r * r) * ((1 / 1680 : Rat) - ((r * r) / (1188 : Rat)))))))))) * ((166320 : Rat) * ((((X * X) * (X * X)) * ((X * X) * (X * X))) * X)) = (((((((((13860 : Rat) * (X * X)) - (462 : Rat)) * (X * X)) + (132 : Rat)) * (X * X)) - (99 : Rat)) * (X * X)) + (140 : Rat)) := by
    clear hD h hX
    have ht : (r * r) * (X * X) = 1 := by grind
    generalize hy : X * X = y at *
    generalize r * r = t at *
    generalize e4 : 1 / 1680 - t / 1188 = E4
    generalize e3 : 1 / 1260 - t * E4 = E3
    generalize e2 : 1 / 360 - t * E3 = E2
    generalize e1 : 1 / 12 - t * E2 = E1
    have f4 : y * E4 = y / 1680 - 1 / 1188 := by rw [← e4]; grind
    have f3 : y * y * E3 = y * y / 1260 - y * E4 := by rw [← e3]; grind
    have f2 : y * y * y * E2 = y * y * y / 360 - y * y * E3 := by rw [← e2]; grind
    have f1 : y * y * y * y * E1 = y * y * y * y / 12 - y * y * y * E2 := by rw [← e1]; grind
    have g : r * E1 * (166320 * (y * y * (y * y) * X)) = 166320 * (y * y * y * y * E1) * (r * X) := by grind
    rw [g, hr, f1, f2, f3, f4]; grind
  refine Rat.le_antisymm ?_ ?_
  · refine (own_lediv hD).mpr ?_; rw [key]; exact Rat.le_refl
  · refine (own_divle hD).mpr ?_; rw [key]; exact Rat.le_refl
theorem own_zp1074 : (0 : Rat) < (2 : Rat) ^ (1074 : Int) := own_zp _
/-- the three comparisons of the law -/
theorem own_close {x : UInt64} {X : Rat} (hx : own_D x X 0 9 1152921504606846976) :
    (0 : Int) < zval b64 (val64 (own_ref x)) ∧ zval b64 (val64 (own_s11 x)) - zval b64 (val64 (own_ref x)) ≤ zval b64 (val64 (own_tol x)) ∧
      zval b64 (val64 (own_ref x)) - zval b64 (val64 (own_s11 x)) ≤ zval b64 (val64 (own_tol x)) := by
  have hX : 0 < X := by obtain ⟨_, _, h, _⟩ := hx; exact h
  obtain ⟨s, ps, qs, s1, s2, -, -⟩ := own_h_s11 hx
  obtain ⟨r, pr, qr, r1, r2, -, -⟩ := own_h_ref hx
  obtain ⟨t, pt, qt, t1, t2, -, -⟩ := own_h_tol hx
  rw [own_same hX] at s1 s2 qs
  have zs := ps.z
  have zr := pr.z
  have zt := pt.z
  have hz := own_zp1074
  have hr : 0 < r := by obtain ⟨_, _, _, _, h⟩ := pr; exact h
  generalize ((((((((((13860 : Rat) * (X * X)) - (462 : Rat)) * (X * X)) + (132 : Rat)) * (X * X)) - (99 : Rat)) * (X * X)) + (140 : Rat)) / ((166320 : Rat) * ((((X * X) * (X * X)) * ((X * X) * (X * X))) * X))) = Q at *
  generalize (2 : Rat) ^ (1074 : Int) = P at *
  have c1 : ((201 / 50 : Rat) + (1107 / 50 : Rat)) * own_u ≤ (1 / 100000000000000 : Rat) * (1 - (483 / 20 : Rat) * own_u) := by decide +kernel
  have c2 := Rat.mul_le_mul_of_nonneg_left c1 (Rat.le_of_lt qr)
  have d1 : s - r ≤ t := by grind
  have d2 : r - s ≤ t := by grind
  have e1 := Rat.mul_le_mul_of_nonneg_right d1 (Rat.le_of_lt hz)
  have e2 := Rat.mul_le_mul_of_nonneg_right d2 (Rat.le_of_lt hz)
  refine ⟨?_, ?_, ?_⟩
  · refine Rat.intCast_pos.mp ?_; rw [zr]; exact Rat.mul_pos hr hz
  · refine Rat.intCast_le_intCast.mp ?_; rw [Rat.intCast_sub, zs, zr, zt]; grind
  · refine Rat.intCast_le_intCast.mp ?_; rw [Rat.intCast_sub, zs, zr, zt]; grind
def own_diff (x : UInt64) : UInt64 := FP.dsub (own_s11 x) (own_ref x)
def own_ndiff (x : UInt64) : UInt64 := FP.dneg (own_diff x)
theorem own_ndif {x : UInt64} {X : Rat} (hx : own_D x X 0 9 1152921504606846976) : Jvm.Free.Fl.NoNaN64 (own_diff x) := Jvm.Free.Fl.dsub_out (own_h_s11 hx).no (own_h_ref hx).fin64
theorem own_nan {a : UInt64} (h : Jvm.Free.Fl.NoNaN64 a) : val64 a ≠ .nan := (notNaN_iff _).mp (Jvm.Free.Fl.noNaN64_no.mp h)
theorem own_notgt {a b : UInt64} (ha : val64 a ≠ .nan) (hb : val64 b ≠ .nan) (h : zval b64 (val64 a) ≤ zval b64 (val64 b)) : ¬ 0 < cmpValue (FP.dcmp a b) .g := by
  have q : FP.dcmp a b = some (compare _ _) := dcmp_zval ha hb
  rw [q]
  generalize zval b64 (val64 a) = A at *
  generalize zval b64 (val64 b) = B at *
  cases e : compare A B with
  | lt => decide
  | eq => decide
  | gt => exact absurd ((compare_gt_iff _ _).mp e) (by omega)
theorem own_zs {x : UInt64} {X : Rat} (hx : own_D x X 0 9 1152921504606846976) : zval b64 (val64 (own_diff x)) ≤ zval b64 (val64 (own_tol x)) ∧ zval b64 (negate (val64 (own_tol x))) ≤ zval b64 (val64 (own_diff x)) := by
  obtain ⟨c0, c1, c2⟩ := own_close hx
  have e : val64 (own_diff x) = round b64 (exactSum (val64 (own_s11 x)) (negate (val64 (own_ref x)))) := val64_dsub _ _
  have f1 : ∃ s c q, val64 (own_s11 x) = .fin s c q := (own_h_s11 hx).fin
  obtain ⟨s, c, q, f2⟩ : ∃ s c q, val64 (own_ref x) = .fin s c q := (own_h_ref hx).fin
  have f3 : ∃ s c q, negate (val64 (own_ref x)) = .fin s c q := ⟨!s, c, q, by rw [f2]; rfl⟩
  have hz := zval_negate b64 (val64 (own_ref x))
  have ht := zval_negate b64 (val64 (own_tol x))
  rw [e]
  constructor
  · refine sum_le good_b64 f1 f3 (val64_fits _) (negate_fits (val64_fits _)) (val64_fits _) (own_h_tol hx).ne ?_
    rw [hz]; omega
  · refine sum_ge good_b64 f1 f3 (val64_fits _) (negate_fits (val64_fits _)) (negate_fits (val64_fits _)) (negate_ne_nan (own_h_tol hx).ne) ?_
    rw [hz, ht]; omega
theorem own_c1 {x : UInt64} {X : Rat} (hx : own_D x X 0 9 1152921504606846976) : cmpValue (FP.dcmp (own_ref x) (0 : UInt64)) .l = 1 := by
  have q : FP.dcmp (own_ref x) (0 : UInt64) = some (compare _ _) := dcmp_zval (own_h_ref hx).ne (by decide +kernel)
  rw [q, zval64_zero]
  have := (own_close hx).1
  rw [(compare_gt_iff _ _).mpr this]; rfl
theorem own_c2 {x : UInt64} {X : Rat} (hx : own_D x X 0 9 1152921504606846976) : ¬ 0 < cmpValue (FP.dcmp (own_diff x) (own_tol x)) .g :=
  own_notgt (own_nan (own_ndif hx)) (own_h_tol hx).ne (own_zs hx).1
theorem own_c3 {x : UInt64} {X : Rat} (hx : own_D x X 0 9 1152921504606846976) : ¬ 0 < cmpValue (FP.dcmp (own_ndiff x) (own_tol x)) .g := by
  have e : val64 (own_ndiff x) = negate (val64 (own_diff x)) := FP.val64_dneg _
  refine own_notgt ?_ (own_h_tol hx).ne ?_
  · rw [e]; exact negate_ne_nan (own_nan (own_ndif hx))
  · have := (own_zs hx).2
    rw [e, zval_negate]; rw [zval_negate] at this; omega
/-- an int or long divided by 16 -/
theorem own_x16 {a : UInt64} {n : Int} (h : val64 a = round b64 (ofInt n)) (h1 : 160 ≤ n) (h2 : n < 9223372036854775808) : ∃ X, own_D (FP.ddiv a (4625196817309499392 : UInt64)) X 0 9 1152921504606846976 := by
  have n1 : (160 : Rat) ≤ (n : Rat) := by have := Rat.intCast_le_intCast.mpr h1; exact this
  have n2 : (n : Rat) ≤ 9223372036854775808 := by have := Rat.intCast_le_intCast.mpr (Int.le_of_lt h2); exact this
  have b1 : (2 : Rat) ^ (-1022 : Int) ≤ 160 := by decide +kernel
  have b2 : (9223372036854775808 : Rat) ≤ (2 : Rat) ^ (1000 : Int) := by decide +kernel
  obtain ⟨w, pw, w1, w2⟩ := own_int h (by omega) ⟨Rat.le_trans b1 n1, Rat.le_trans n2 b2⟩
  have i1 : (159 : Rat) ≤ w := by
    have := Rat.mul_le_mul_of_nonneg_right n1 (Rat.le_of_lt own_lo)
    have c : (159 : Rat) ≤ 160 * (1 - own_u) := by decide +kernel
    grind
  have i2 : w ≤ 9223372036854777000 := by
    have := Rat.mul_le_mul_of_nonneg_right n2 (Rat.le_of_lt own_hi)
    have c : (9223372036854775808 : Rat) * (1 + own_u) ≤ 9223372036854777000 := by decide +kernel
    grind
  have hD : own_D a w 0 159 9223372036854777000 := ⟨w, pw, by grind, by grind, by grind, i1, i2⟩
  have h16 : own_D (4625196817309499392 : UInt64) 16 0 16 16 := own_D.lit 4503599627370496 (-48) (by decide +kernel) (by decide +kernel)
  obtain ⟨z, pz, q1, z1, z2, z3, z4⟩ := own_Ddiv hD h16 (k := 2) (lo := 9) (hi := 1152921504606846976) (by decide +kernel)
  exact ⟨z, z, pz, by grind, by grind, by grind, z3, z4⟩

def own_xi (a : Int32) : UInt64 := FP.ddiv (FP.i2d ((160 : Int32) + (a &&& (65535 : Int32)))) (4625196817309499392 : UInt64)
def own_xl (b : Int64) : UInt64 := FP.ddiv (FP.l2d ((160 : Int64) + (b &&& (4611686018427387903 : Int64)))) (4625196817309499392 : UInt64)
theorem own_dxi (a : Int32) : ∃ X, own_D (own_xi a) X 0 9 1152921504606846976 := by
  have h : 160 ≤ ((160 : Int32) + (a &&& (65535 : Int32))).toInt ∧ ((160 : Int32) + (a &&& (65535 : Int32))).toInt < 9223372036854775808 := by
    have l1 : (a &&& (65535 : Int32)).toInt = a.toInt % 65536 := c_mask a 65535 16 (by decide) (by decide)
    rw [Int32.toInt_add, show (160 : Int32).toInt = 160 by decide, Int.bmod_eq_of_le (by omega) (by omega)]
    omega
  exact own_x16 (val64_i2d _) h.1 h.2
theorem own_dxl (b : Int64) : ∃ X, own_D (own_xl b) X 0 9 1152921504606846976 := by
  have h : 160 ≤ ((160 : Int64) + (b &&& (4611686018427387903 : Int64))).toInt ∧ ((160 : Int64) + (b &&& (4611686018427387903 : Int64))).toInt < 9223372036854775808 := by
    have l1 : (b &&& (4611686018427387903 : Int64)).toInt = b.toInt % 4611686018427387904 := c_maskL b 4611686018427387903 62 (by decide) (by decide)
    rw [Int64.toInt_add, show (160 : Int64).toInt = 160 by decide, Int.bmod_eq_of_le (by omega) (by omega)]
    omega
  exact own_x16 (val64_l2d _) h.1 h.2
end Chn
theorem own_d_prog_71_method_4_code_0 : decode prog_71_method_4_code 0 = .ok (.dconst 1, 1) := by decide +kernel
theorem own_d_prog_71_method_4_code_1 : decode prog_71_method_4_code 1 = .ok (.dload_n 0, 1) := by decide +kernel
theorem own_d_prog_71_method_4_code_2 : decode prog_71_method_4_code 2 = .ok (.ddiv, 1) := by decide +kernel
theorem own_d_prog_71_method_4_code_3 : decode prog_71_method_4_code 3 = .ok (.dstore_n 2, 1) := by decide +kernel
theorem own_d_prog_71_method_4_code_4 : decode prog_71_method_4_code 4 = .ok (.dload_n 2, 1) := by decide +kernel
theorem own_d_prog_71_method_4_code_5 : decode prog_71_method_4_code 5 = .ok (.dload_n 2, 1) := by decide +kernel
theorem own_d_prog_71_method_4_code_6 : decode prog_71_method_4_code 6 = .ok (.dmul, 1) := by decide +kernel
theorem own_d_prog_71_method_4_code_7 : decode prog_71_method_4_code 7 = .ok (.dstore 4, 2) := by decide +kernel
theorem own_d_prog_71_method_4_code_9 : decode prog_71_method_4_code 9 = .ok (.dload_n 2, 1) := by decide +kernel
theorem own_d_prog_71_method_4_code_10 : decode prog_71_method_4_code 10 = .ok (.ldc2_w 57, 3) := by decide +kernel
theorem own_d_prog_71_method_4_code_13 : decode prog_71_method_4_code 13 = .ok (.dload 4, 2) := by decide +kernel
theorem own_d_prog_71_method_4_code_15 : decode prog_71_method_4_code 15 = .ok (.ldc2_w 59, 3) := by decide +kernel
theorem own_d_prog_71_method_4_code_18 : decode prog_71_method_4_code 18 = .ok (.dload 4, 2) := by decide +kernel
theorem own_d_prog_71_method_4_code_20 : decode prog_71_method_4_code 20 = .ok (.ldc2_w 61, 3) := by decide +kernel
theorem own_d_prog_71_method_4_code_23 : decode prog_71_method_4_code 23 = .ok (.dload 4, 2) := by decide +kernel
theorem own_d_prog_71_method_4_code_25 : decode prog_71_method_4_code 25 = .ok (.ldc2_w 63, 3) := by decide +kernel
theorem own_d_prog_71_method_4_code_28 : decode prog_71_method_4_code 28 = .ok (.dload 4, 2) := by decide +kernel
theorem own_d_prog_71_method_4_code_30 : decode prog_71_method_4_code 30 = .ok (.ldc2_w 65, 3) := by decide +kernel
theorem own_d_prog_71_method_4_code_33 : decode prog_71_method_4_code 33 = .ok (.ddiv, 1) := by decide +kernel
theorem own_d_prog_71_method_4_code_34 : decode prog_71_method_4_code 34 = .ok (.dsub, 1) := by decide +kernel
theorem own_d_prog_71_method_4_code_35 : decode prog_71_method_4_code 35 = .ok (.dmul, 1) := by decide +kernel
theorem own_d_prog_71_method_4_code_36 : decode prog_71_method_4_code 36 = .ok (.dsub, 1) := by decide +kernel
theorem own_d_prog_71_method_4_code_37 : decode prog_71_method_4_code 37 = .ok (.dmul, 1) := by decide +kernel
theorem own_d_prog_71_method_4_code_38 : decode prog_71_method_4_code 38 = .ok (.dsub, 1) := by decide +kernel
theorem own_d_prog_71_method_4_code_39 : decode prog_71_method_4_code 39 = .ok (.dmul, 1) := by decide +kernel
theorem own_d_prog_71_method_4_code_40 : decode prog_71_method_4_code 40 = .ok (.dsub, 1) := by decide +kernel
theorem own_d_prog_71_method_4_code_41 : decode prog_71_method_4_code 41 = .ok (.dmul, 1) := by decide +kernel
theorem own_d_prog_71_method_4_code_42 : decode prog_71_method_4_code 42 = .ok (.dreturn, 1) := by decide +kernel
theorem own_pn_com_example_andesite_andesite_model_PortableMath : plainName "com/example/andesite/andesite/model/PortableMath" = true := by first | (simp [plainName, overriddenIn]; done) | decide +kernel
theorem own_ef_rmS (x0 : UInt64) (m : MethodId) : entryFrame m #[(.double x0)] 6 = mkF m 0 #[.val (.double x0), .second, .unset, .unset, .unset, .unset] [] := by first | (simp [entryFrame, mkF, argsToLocals, Value.category]; done) | rfl
set_option maxRecDepth 65536 in
set_option maxHeartbeats 40000000 in
theorem rmS (l : Launch) (Z : State) (a0 : Array Value) (hw : ∀ d ∈ tables_1, d.before a0 Z = true) (dx : UInt64) (X : Rat) (h0 : Heap) (n0 : Nat) (Z0 : n0 ≤ h0.size) (hX : own_D dx X 0 9 1152921504606846976) :
    OCon l Z (⟨"com/example/andesite/andesite/model/PortableMath", "stirlingSeries", "(D)D"⟩ : MethodName) prog_71_method_4_code 6 (some .double) ({ frames := 0, cells := 0, slots := 0, locals := 0 } : Room) #[(.double dx)] h0 (fun v h L => v = some (.double (own_s11 dx)) ∧ Fr n0 L ∧ h = h0) := by
  refine OConK.intro (y := (⟨"com/example/andesite/andesite/model/PortableMath", "stirlingSeries", "(D)D"⟩ : MethodName)) (plainFor_of_name own_pn_com_example_andesite_andesite_model_PortableMath) (own_ef_rmS dx) ?_
  intro p e s m below meth c s₁ hx hby hml hown hnm hret hlk hZ X0 e0
  show OGoal p e below s _ _ _ (s₁.setTop (mkF m 0 #[.val (.double dx), .second, .unset, .unset, .unset, .unset] []))
  refine OGoal.mp (S' := (s₁.setTop (mkF m 1 #[.val (.double dx), .second, .unset, .unset, .unset, .unset] [(.double (4607182418800017408 : UInt64))]))) (fun _ k => XS.dconst1 X0.here hx rfl (hb hby own_d_prog_71_method_4_code_0) rfl k) ?_
  refine OGoal.mp (S' := (s₁.setTop (mkF m 2 #[.val (.double dx), .second, .unset, .unset, .unset, .unset] [(.double dx), (.double (4607182418800017408 : UInt64))]))) (fun _ k => XS.dloadN X0.here hx rfl (hb hby own_d_prog_71_method_4_code_1) rfl k) ?_
  refine OGoal.mp (S' := (s₁.setTop (mkF m 3 #[.val (.double dx), .second, .unset, .unset, .unset, .unset] [(.double (own_s1 dx))]))) (fun _ k => XS.ddivS (g := mkF m 2 #[.val (.double dx), .second, .unset, .unset, .unset, .unset] [(.double dx), (.double (4607182418800017408 : UInt64))]) (x := (4607182418800017408 : UInt64)) (y := dx) (v := (own_s1 dx)) (rest := []) X0.here hx rfl (hb hby own_d_prog_71_method_4_code_2) rfl (own_h_s1 hX).no rfl k) ?_
  refine OGoal.mp (S' := (s₁.setTop (mkF m 4 #[.val (.double dx), .second, .val (.double (own_s1 dx)), .second, .unset, .unset] []))) (fun _ k => XS.dstoreN X0.here hx rfl (hb hby own_d_prog_71_method_4_code_3) rfl (l' := #[.val (.double dx), .second, .val (.double (own_s1 dx)), .second, .unset, .unset]) rfl k) ?_
  refine OGoal.mp (S' := (s₁.setTop (mkF m 5 #[.val (.double dx), .second, .val (.double (own_s1 dx)), .second, .unset, .unset] [(.double (own_s1 dx))]))) (fun _ k => XS.dloadN X0.here hx rfl (hb hby own_d_prog_71_method_4_code_4) rfl k) ?_
  refine OGoal.mp (S' := (s₁.setTop (mkF m 6 #[.val (.double dx), .second, .val (.double (own_s1 dx)), .second, .unset, .unset] [(.double (own_s1 dx)), (.double (own_s1 dx))]))) (fun _ k => XS.dloadN X0.here hx rfl (hb hby own_d_prog_71_method_4_code_5) rfl k) ?_
  refine OGoal.mp (S' := (s₁.setTop (mkF m 7 #[.val (.double dx), .second, .val (.double (own_s1 dx)), .second, .unset, .unset] [(.double (own_s2 dx))]))) (fun _ k => XS.dmulS (g := mkF m 6 #[.val (.double dx), .second, .val (.double (own_s1 dx)), .second, .unset, .unset] [(.double (own_s1 dx)), (.double (own_s1 dx))]) (x := (own_s1 dx)) (y := (own_s1 dx)) (v := (own_s2 dx)) (rest := []) X0.here hx rfl (hb hby own_d_prog_71_method_4_code_6) rfl (own_h_s2 hX).no rfl k) ?_
  refine OGoal.mp (S' := (s₁.setTop (mkF m 9 #[.val (.double dx), .second, .val (.double (own_s1 dx)), .second, .val (.double (own_s2 dx)), .second] []))) (fun _ k => XS.dstore X0.here hx rfl (hb hby own_d_prog_71_method_4_code_7) rfl (l' := #[.val (.double dx), .second, .val (.double (own_s1 dx)), .second, .val (.double (own_s2 dx)), .second]) rfl k) ?_
  refine OGoal.mp (S' := (s₁.setTop (mkF m 10 #[.val (.double dx), .second, .val (.double (own_s1 dx)), .second, .val (.double (own_s2 dx)), .second] [(.double (own_s1 dx))]))) (fun _ k => XS.dloadN X0.here hx rfl (hb hby own_d_prog_71_method_4_code_9) rfl k) ?_
  refine OGoal.mp (S' := (s₁.setTop (mkF m 13 #[.val (.double dx), .second, .val (.double (own_s1 dx)), .second, .val (.double (own_s2 dx)), .second] [(.double (4590669220166325589 : UInt64)), (.double (own_s1 dx))]))) (fun _ k => X0.ldc2DoubleC hx hown (mvT hZ (hw _ (List.mem_of_getElem? (i := 7) rfl))) (g := mkF m 10 #[.val (.double dx), .second, .val (.double (own_s1 dx)), .second, .val (.double (own_s2 dx)), .second] [(.double (own_s1 dx))]) rfl (hb hby own_d_prog_71_method_4_code_10) _ k) ?_
  refine OGoal.mp (S' := (s₁.setTop (mkF m 15 #[.val (.double dx), .second, .val (.double (own_s1 dx)), .second, .val (.double (own_s2 dx)), .second] [(.double (own_s2 dx)), (.double (4590669220166325589 : UInt64)), (.double (own_s1 dx))]))) (fun _ k => XS.dload X0.here hx rfl (hb hby own_d_prog_71_method_4_code_13) rfl k) ?_
  refine OGoal.mp (S' := (s₁.setTop (mkF m 18 #[.val (.double dx), .second, .val (.double (own_s1 dx)), .second, .val (.double (own_s2 dx)), .second] [(.double (4568551541996350487 : UInt64)), (.double (own_s2 dx)), (.double (4590669220166325589 : UInt64)), (.double (own_s1 dx))]))) (fun _ k => X0.ldc2DoubleC hx hown (mvT hZ (hw _ (List.mem_of_getElem? (i := 8) rfl))) (g := mkF m 15 #[.val (.double dx), .second, .val (.double (own_s1 dx)), .second, .val (.double (own_s2 dx)), .second] [(.double (own_s2 dx)), (.double (4590669220166325589 : UInt64)), (.double (own_s1 dx))]) rfl (hb hby own_d_prog_71_method_4_code_15) _ k) ?_
  refine OGoal.mp (S' := (s₁.setTop (mkF m 20 #[.val (.double dx), .second, .val (.double (own_s1 dx)), .second, .val (.double (own_s2 dx)), .second] [(.double (own_s2 dx)), (.double (4568551541996350487 : UInt64)), (.double (own_s2 dx)), (.double (4590669220166325589 : UInt64)), (.double (own_s1 dx))]))) (fun _ k => XS.dload X0.here hx rfl (hb hby own_d_prog_71_method_4_code_18) rfl k) ?_
  refine OGoal.mp (S' := (s₁.setTop (mkF m 23 #[.val (.double dx), .second, .val (.double (own_s1 dx)), .second, .val (.double (own_s2 dx)), .second] [(.double (4560459359808757786 : UInt64)), (.double (own_s2 dx)), (.double (4568551541996350487 : UInt64)), (.double (own_s2 dx)), (.double (4590669220166325589 : UInt64)), (.double (own_s1 dx))]))) (fun _ k => X0.ldc2DoubleC hx hown (mvT hZ (hw _ (List.mem_of_getElem? (i := 9) rfl))) (g := mkF m 20 #[.val (.double dx), .second, .val (.double (own_s1 dx)), .second, .val (.double (own_s2 dx)), .second] [(.double (own_s2 dx)), (.double (4568551541996350487 : UInt64)), (.double (own_s2 dx)), (.double (4590669220166325589 : UInt64)), (.double (own_s1 dx))]) rfl (hb hby own_d_prog_71_method_4_code_20) _ k) ?_
  refine OGoal.mp (S' := (s₁.setTop (mkF m 25 #[.val (.double dx), .second, .val (.double (own_s1 dx)), .second, .val (.double (own_s2 dx)), .second] [(.double (own_s2 dx)), (.double (4560459359808757786 : UInt64)), (.double (own_s2 dx)), (.double (4568551541996350487 : UInt64)), (.double (own_s2 dx)), (.double (4590669220166325589 : UInt64)), (.double (own_s1 dx))]))) (fun _ k => XS.dload X0.here hx rfl (hb hby own_d_prog_71_method_4_code_23) rfl k) ?_
  refine OGoal.mp (S' := (s₁.setTop (mkF m 28 #[.val (.double dx), .second, .val (.double (own_s1 dx)), .second, .val (.double (own_s2 dx)), .second] [(.double (4558629325674461204 : UInt64)), (.double (own_s2 dx)), (.double (4560459359808757786 : UInt64)), (.double (own_s2 dx)), (.double (4568551541996350487 : UInt64)), (.double (own_s2 dx)), (.double (4590669220166325589 : UInt64)), (.double (own_s1 dx))]))) (fun _ k => X0.ldc2DoubleC hx hown (mvT hZ (hw _ (List.mem_of_getElem? (i := 10) rfl))) (g := mkF m 25 #[.val (.double dx), .second, .val (.double (own_s1 dx)), .second, .val (.double (own_s2 dx)), .second] [(.double (own_s2 dx)), (.double (4560459359808757786 : UInt64)), (.double (own_s2 dx)), (.double (4568551541996350487 : UInt64)), (.double (own_s2 dx)), (.double (4590669220166325589 : UInt64)), (.double (own_s1 dx))]) rfl (hb hby own_d_prog_71_method_4_code_25) _ k) ?_
  refine OGoal.mp (S' := (s₁.setTop (mkF m 30 #[.val (.double dx), .second, .val (.double (own_s1 dx)), .second, .val (.double (own_s2 dx)), .second] [(.double (own_s2 dx)), (.double (4558629325674461204 : UInt64)), (.double (own_s2 dx)), (.double (4560459359808757786 : UInt64)), (.double (own_s2 dx)), (.double (4568551541996350487 : UInt64)), (.double (own_s2 dx)), (.double (4590669220166325589 : UInt64)), (.double (own_s1 dx))]))) (fun _ k => XS.dload X0.here hx rfl (hb hby own_d_prog_71_method_4_code_28) rfl k) ?_
  refine OGoal.mp (S' := (s₁.setTop (mkF m 33 #[.val (.double dx), .second, .val (.double (own_s1 dx)), .second, .val (.double (own_s2 dx)), .second] [(.double (4652939694701543424 : UInt64)), (.double (own_s2 dx)), (.double (4558629325674461204 : UInt64)), (.double (own_s2 dx)), (.double (4560459359808757786 : UInt64)), (.double (own_s2 dx)), (.double (4568551541996350487 : UInt64)), (.double (own_s2 dx)), (.double (4590669220166325589 : UInt64)), (.double (own_s1 dx))]))) (fun _ k => X0.ldc2DoubleC hx hown (mvT hZ (hw _ (List.mem_of_getElem? (i := 11) rfl))) (g := mkF m 30 #[.val (.double dx), .second, .val (.double (own_s1 dx)), .second, .val (.double (own_s2 dx)), .second] [(.double (own_s2 dx)), (.double (4558629325674461204 : UInt64)), (.double (own_s2 dx)), (.double (4560459359808757786 : UInt64)), (.double (own_s2 dx)), (.double (4568551541996350487 : UInt64)), (.double (own_s2 dx)), (.double (4590669220166325589 : UInt64)), (.double (own_s1 dx))]) rfl (hb hby own_d_prog_71_method_4_code_30) _ k) ?_
  refine OGoal.mp (S' := (s₁.setTop (mkF m 34 #[.val (.double dx), .second, .val (.double (own_s1 dx)), .second, .val (.double (own_s2 dx)), .second] [(.double (own_s3 dx)), (.double (4558629325674461204 : UInt64)), (.double (own_s2 dx)), (.double (4560459359808757786 : UInt64)), (.double (own_s2 dx)), (.double (4568551541996350487 : UInt64)), (.double (own_s2 dx)), (.double (4590669220166325589 : UInt64)), (.double (own_s1 dx))]))) (fun _ k => XS.ddivS (g := mkF m 33 #[.val (.double dx), .second, .val (.double (own_s1 dx)), .second, .val (.double (own_s2 dx)), .second] [(.double (4652939694701543424 : UInt64)), (.double (own_s2 dx)), (.double (4558629325674461204 : UInt64)), (.double (own_s2 dx)), (.double (4560459359808757786 : UInt64)), (.double (own_s2 dx)), (.double (4568551541996350487 : UInt64)), (.double (own_s2 dx)), (.double (4590669220166325589 : UInt64)), (.double (own_s1 dx))]) (x := (own_s2 dx)) (y := (4652939694701543424 : UInt64)) (v := (own_s3 dx)) (rest := [(.double (4558629325674461204 : UInt64)), (.double (own_s2 dx)), (.double (4560459359808757786 : UInt64)), (.double (own_s2 dx)), (.double (4568551541996350487 : UInt64)), (.double (own_s2 dx)), (.double (4590669220166325589 : UInt64)), (.double (own_s1 dx))]) X0.here hx rfl (hb hby own_d_prog_71_method_4_code_33) rfl (own_h_s3 hX).no rfl k) ?_
  refine OGoal.mp (S' := (s₁.setTop (mkF m 35 #[.val (.double dx), .second, .val (.double (own_s1 dx)), .second, .val (.double (own_s2 dx)), .second] [(.double (own_s4 dx)), (.double (own_s2 dx)), (.double (4560459359808757786 : UInt64)), (.double (own_s2 dx)), (.double (4568551541996350487 : UInt64)), (.double (own_s2 dx)), (.double (4590669220166325589 : UInt64)), (.double (own_s1 dx))]))) (fun _ k => XS.dsubS (g := mkF m 34 #[.val (.double dx), .second, .val (.double (own_s1 dx)), .second, .val (.double (own_s2 dx)), .second] [(.double (own_s3 dx)), (.double (4558629325674461204 : UInt64)), (.double (own_s2 dx)), (.double (4560459359808757786 : UInt64)), (.double (own_s2 dx)), (.double (4568551541996350487 : UInt64)), (.double (own_s2 dx)), (.double (4590669220166325589 : UInt64)), (.double (own_s1 dx))]) (x := (4558629325674461204 : UInt64)) (y := (own_s3 dx)) (v := (own_s4 dx)) (rest := [(.double (own_s2 dx)), (.double (4560459359808757786 : UInt64)), (.double (own_s2 dx)), (.double (4568551541996350487 : UInt64)), (.double (own_s2 dx)), (.double (4590669220166325589 : UInt64)), (.double (own_s1 dx))]) X0.here hx rfl (hb hby own_d_prog_71_method_4_code_34) rfl (own_h_s4 hX).no rfl k) ?_
  refine OGoal.mp (S' := (s₁.setTop (mkF m 36 #[.val (.double dx), .second, .val (.double (own_s1 dx)), .second, .val (.double (own_s2 dx)), .second] [(.double (own_s5 dx)), (.double (4560459359808757786 : UInt64)), (.double (own_s2 dx)), (.double (4568551541996350487 : UInt64)), (.double (own_s2 dx)), (.double (4590669220166325589 : UInt64)), (.double (own_s1 dx))]))) (fun _ k => XS.dmulS (g := mkF m 35 #[.val (.double dx), .second, .val (.double (own_s1 dx)), .second, .val (.double (own_s2 dx)), .second] [(.double (own_s4 dx)), (.double (own_s2 dx)), (.double (4560459359808757786 : UInt64)), (.double (own_s2 dx)), (.double (4568551541996350487 : UInt64)), (.double (own_s2 dx)), (.double (4590669220166325589 : UInt64)), (.double (own_s1 dx))]) (x := (own_s2 dx)) (y := (own_s4 dx)) (v := (own_s5 dx)) (rest := [(.double (4560459359808757786 : UInt64)), (.double (own_s2 dx)), (.double (4568551541996350487 : UInt64)), (.double (own_s2 dx)), (.double (4590669220166325589 : UInt64)), (.double (own_s1 dx))]) X0.here hx rfl (hb hby own_d_prog_71_method_4_code_35) rfl (own_h_s5 hX).no rfl k) ?_
  refine OGoal.mp (S' := (s₁.setTop (mkF m 37 #[.val (.double dx), .second, .val (.double (own_s1 dx)), .second, .val (.double (own_s2 dx)), .second] [(.double (own_s6 dx)), (.double (own_s2 dx)), (.double (4568551541996350487 : UInt64)), (.double (own_s2 dx)), (.double (4590669220166325589 : UInt64)), (.double (own_s1 dx))]))) (fun _ k => XS.dsubS (g := mkF m 36 #[.val (.double dx), .second, .val (.double (own_s1 dx)), .second, .val (.double (own_s2 dx)), .second] [(.double (own_s5 dx)), (.double (4560459359808757786 : UInt64)), (.double (own_s2 dx)), (.double (4568551541996350487 : UInt64)), (.double (own_s2 dx)), (.double (4590669220166325589 : UInt64)), (.double (own_s1 dx))]) (x := (4560459359808757786 : UInt64)) (y := (own_s5 dx)) (v := (own_s6 dx)) (rest := [(.double (own_s2 dx)), (.double (4568551541996350487 : UInt64)), (.double (own_s2 dx)), (.double (4590669220166325589 : UInt64)), (.double (own_s1 dx))]) X0.here hx rfl (hb hby own_d_prog_71_method_4_code_36) rfl (own_h_s6 hX).no rfl k) ?_
  refine OGoal.mp (S' := (s₁.setTop (mkF m 38 #[.val (.double dx), .second, .val (.double (own_s1 dx)), .second, .val (.double (own_s2 dx)), .second] [(.double (own_s7 dx)), (.double (4568551541996350487 : UInt64)), (.double (own_s2 dx)), (.double (4590669220166325589 : UInt64)), (.double (own_s1 dx))]))) (fun _ k => XS.dmulS (g := mkF m 37 #[.val (.double dx), .second, .val (.double (own_s1 dx)), .second, .val (.double (own_s2 dx)), .second] [(.double (own_s6 dx)), (.double (own_s2 dx)), (.double (4568551541996350487 : UInt64)), (.double (own_s2 dx)), (.double (4590669220166325589 : UInt64)), (.double (own_s1 dx))]) (x := (own_s2 dx)) (y := (own_s6 dx)) (v := (own_s7 dx)) (rest := [(.double (4568551541996350487 : UInt64)), (.double (own_s2 dx)), (.double (4590669220166325589 : UInt64)), (.double (own_s1 dx))]) X0.here hx rfl (hb hby own_d_prog_71_method_4_code_37) rfl (own_h_s7 hX).no rfl k) ?_
  refine OGoal.mp (S' := (s₁.setTop (mkF m 39 #[.val (.double dx), .second, .val (.double (own_s1 dx)), .second, .val (.double (own_s2 dx)), .second] [(.double (own_s8 dx)), (.double (own_s2 dx)), (.double (4590669220166325589 : UInt64)), (.double (own_s1 dx))]))) (fun _ k => XS.dsubS (g := mkF m 38 #[.val (.double dx), .second, .val (.double (own_s1 dx)), .second, .val (.double (own_s2 dx)), .second] [(.double (own_s7 dx)), (.double (4568551541996350487 : UInt64)), (.double (own_s2 dx)), (.double (4590669220166325589 : UInt64)), (.double (own_s1 dx))]) (x := (4568551541996350487 : UInt64)) (y := (own_s7 dx)) (v := (own_s8 dx)) (rest := [(.double (own_s2 dx)), (.double (4590669220166325589 : UInt64)), (.double (own_s1 dx))]) X0.here hx rfl (hb hby own_d_prog_71_method_4_code_38) rfl (own_h_s8 hX).no rfl k) ?_
  refine OGoal.mp (S' := (s₁.setTop (mkF m 40 #[.val (.double dx), .second, .val (.double (own_s1 dx)), .second, .val (.double (own_s2 dx)), .second] [(.double (own_s9 dx)), (.double (4590669220166325589 : UInt64)), (.double (own_s1 dx))]))) (fun _ k => XS.dmulS (g := mkF m 39 #[.val (.double dx), .second, .val (.double (own_s1 dx)), .second, .val (.double (own_s2 dx)), .second] [(.double (own_s8 dx)), (.double (own_s2 dx)), (.double (4590669220166325589 : UInt64)), (.double (own_s1 dx))]) (x := (own_s2 dx)) (y := (own_s8 dx)) (v := (own_s9 dx)) (rest := [(.double (4590669220166325589 : UInt64)), (.double (own_s1 dx))]) X0.here hx rfl (hb hby own_d_prog_71_method_4_code_39) rfl (own_h_s9 hX).no rfl k) ?_
  refine OGoal.mp (S' := (s₁.setTop (mkF m 41 #[.val (.double dx), .second, .val (.double (own_s1 dx)), .second, .val (.double (own_s2 dx)), .second] [(.double (own_s10 dx)), (.double (own_s1 dx))]))) (fun _ k => XS.dsubS (g := mkF m 40 #[.val (.double dx), .second, .val (.double (own_s1 dx)), .second, .val (.double (own_s2 dx)), .second] [(.double (own_s9 dx)), (.double (4590669220166325589 : UInt64)), (.double (own_s1 dx))]) (x := (4590669220166325589 : UInt64)) (y := (own_s9 dx)) (v := (own_s10 dx)) (rest := [(.double (own_s1 dx))]) X0.here hx rfl (hb hby own_d_prog_71_method_4_code_40) rfl (own_h_s10 hX).no rfl k) ?_
  refine OGoal.mp (S' := (s₁.setTop (mkF m 42 #[.val (.double dx), .second, .val (.double (own_s1 dx)), .second, .val (.double (own_s2 dx)), .second] [(.double (own_s11 dx))]))) (fun _ k => XS.dmulS (g := mkF m 41 #[.val (.double dx), .second, .val (.double (own_s1 dx)), .second, .val (.double (own_s2 dx)), .second] [(.double (own_s10 dx)), (.double (own_s1 dx))]) (x := (own_s1 dx)) (y := (own_s10 dx)) (v := (own_s11 dx)) (rest := []) X0.here hx rfl (hb hby own_d_prog_71_method_4_code_41) rfl (own_h_s11 hX).no rfl k) ?_
  refine oRetD X0 hx hlk hret (hb hby own_d_prog_71_method_4_code_42) ?_ (by decide) (by decide)
  exact ⟨rfl, (Fr.nil n0), e0⟩
theorem own_pd__D_D : parseMethodDescriptor "(D)D" = some ⟨[.double], some .double⟩ := by decide +kernel
theorem own_pn_com_example_andesite_andesite_model_PortableMathStirlingSeriesPinLaw : plainName "com/example/andesite/andesite/model/PortableMathStirlingSeriesPinLaw" = true := by first | (simp [plainName, overriddenIn]; done) | decide +kernel
theorem own_ef_rm0 (x0 : Int32) (x1 : Int64) (x2 : Int32) (m : MethodId) : entryFrame m #[(.int x0), (.long x1), (.int x2)] maxLocals = mkF m 0 #[.val (.int x0), .val (.long x1), .second, .val (.int x2), .unset, .unset, .unset, .unset, .unset, .unset, .unset, .unset, .unset, .unset, .unset, .unset, .unset, .unset, .unset, .unset, .unset, .unset, .unset, .unset] [] := by first | (simp [entryFrame, mkF, argsToLocals, Value.category, maxLocals]; done) | rfl
set_option maxRecDepth 65536 in
set_option maxHeartbeats 40000000 in
theorem rm0 (l : Launch) (Z : State) (a0 : Array Value) (hw : ∀ d ∈ tables_1, d.before a0 Z = true) (p1 : Int32) (p2 : Int64) (p3 : Int32) (h0 : Heap) (n0 : Nat) (Z0 : n0 ≤ h0.size)  :
    OConK l Z x code maxLocals ret room_1 0 0 #[(.int p1), (.long p2), (.int p3)] h0 (fun v h L => v = some (.int 1) ∧ Fr n0 L) := by
  refine OConK.intro (y := x) (plainFor_of_name own_pn_com_example_andesite_andesite_model_PortableMathStirlingSeriesPinLaw) (own_ef_rm0 p1 p2 p3) ?_
  intro p e s m below meth c s₁ hx hby hml hown hnm hret hlk hZ X0 e0
  show OGoal p e below s _ _ _ (s₁.setTop (mkF m 0 #[.val (.int p1), .val (.long p2), .second, .val (.int p3), .unset, .unset, .unset, .unset, .unset, .unset, .unset, .unset, .unset, .unset, .unset, .unset, .unset, .unset, .unset, .unset, .unset, .unset, .unset, .unset] []))
  refine OGoal.mp (S' := (s₁.setTop (mkF m 1 #[.val (.int p1), .val (.long p2), .second, .val (.int p3), .unset, .unset, .unset, .unset, .unset, .unset, .unset, .unset, .unset, .unset, .unset, .unset, .unset, .unset, .unset, .unset, .unset, .unset, .unset, .unset] [(.int p3)]))) (fun _ k => XS.iloadN X0.here hx rfl (hb hby at_0) rfl k) ?_
  refine OGoal.mp (S' := (s₁.setTop (mkF m 2 #[.val (.int p1), .val (.long p2), .second, .val (.int p3), .unset, .unset, .unset, .unset, .unset, .unset, .unset, .unset, .unset, .unset, .unset, .unset, .unset, .unset, .unset, .unset, .unset, .unset, .unset, .unset] [(.int (1 : Int32)), (.int p3)]))) (fun _ k => XS.iconst X0.here hx rfl (hb hby at_1) k) ?_
  refine OGoal.mp (S' := (s₁.setTop (mkF m 3 #[.val (.int p1), .val (.long p2), .second, .val (.int p3), .unset, .unset, .unset, .unset, .unset, .unset, .unset, .unset, .unset, .unset, .unset, .unset, .unset, .unset, .unset, .unset, .unset, .unset, .unset, .unset] [(.int (p3 &&& (1 : Int32)))]))) (fun _ k => XS.iand X0.here hx rfl (hb hby at_2) rfl k) ?_
  by_cases hc1 : (p3 &&& (1 : Int32)) = 0
  · refine OGoal.mp (S' := (s₁.setTop (mkF m 6 #[.val (.int p1), .val (.long p2), .second, .val (.int p3), .unset, .unset, .unset, .unset, .unset, .unset, .unset, .unset, .unset, .unset, .unset, .unset, .unset, .unset, .unset, .unset, .unset, .unset, .unset, .unset] []))) (fun _ k => XS.ifNo X0.here hx rfl (hb hby at_3) rfl (XT.i0_ne_f hc1) k) ?_
    refine OGoal.mp (S' := (s₁.setTop (mkF m 9 #[.val (.int p1), .val (.long p2), .second, .val (.int p3), .unset, .unset, .unset, .unset, .unset, .unset, .unset, .unset, .unset, .unset, .unset, .unset, .unset, .unset, .unset, .unset, .unset, .unset, .unset, .unset] [(.int (160 : Int32))]))) (fun _ k => XS.sipush X0.here hx rfl (hb hby at_6) k) ?_
    refine OGoal.mp (S' := (s₁.setTop (mkF m 10 #[.val (.int p1), .val (.long p2), .second, .val (.int p3), .unset, .unset, .unset, .unset, .unset, .unset, .unset, .unset, .unset, .unset, .unset, .unset, .unset, .unset, .unset, .unset, .unset, .unset, .unset, .unset] [(.int p1), (.int (160 : Int32))]))) (fun _ k => XS.iloadN X0.here hx rfl (hb hby at_9) rfl k) ?_
    refine OGoal.mp (S' := (s₁.setTop (mkF m 12 #[.val (.int p1), .val (.long p2), .second, .val (.int p3), .unset, .unset, .unset, .unset, .unset, .unset, .unset, .unset, .unset, .unset, .unset, .unset, .unset, .unset, .unset, .unset, .unset, .unset, .unset, .unset] [(.int (65535 : Int32)), (.int p1), (.int (160 : Int32))]))) (fun _ k => Stand.ldcI X0 hx hown (mvT hZ (hw _ (List.mem_of_getElem? (i := 19) rfl))) rfl (hb hby at_10) k) ?_
    refine OGoal.mp (S' := (s₁.setTop (mkF m 13 #[.val (.int p1), .val (.long p2), .second, .val (.int p3), .unset, .unset, .unset, .unset, .unset, .unset, .unset, .unset, .unset, .unset, .unset, .unset, .unset, .unset, .unset, .unset, .unset, .unset, .unset, .unset] [(.int (p1 &&& (65535 : Int32))), (.int (160 : Int32))]))) (fun _ k => XS.iand X0.here hx rfl (hb hby at_12) rfl k) ?_
    refine OGoal.mp (S' := (s₁.setTop (mkF m 14 #[.val (.int p1), .val (.long p2), .second, .val (.int p3), .unset, .unset, .unset, .unset, .unset, .unset, .unset, .unset, .unset, .unset, .unset, .unset, .unset, .unset, .unset, .unset, .unset, .unset, .unset, .unset] [(.int ((160 : Int32) + (p1 &&& (65535 : Int32))))]))) (fun _ k => XS.iadd X0.here hx rfl (hb hby at_13) rfl k) ?_
    refine OGoal.mp (S' := (s₁.setTop (mkF m 15 #[.val (.int p1), .val (.long p2), .second, .val (.int p3), .unset, .unset, .unset, .unset, .unset, .unset, .unset, .unset, .unset, .unset, .unset, .unset, .unset, .unset, .unset, .unset, .unset, .unset, .unset, .unset] [(.double (FP.i2d ((160 : Int32) + (p1 &&& (65535 : Int32)))))]))) (fun _ k => XS.i2dS X0.here hx rfl (hb hby at_14) rfl rfl k) ?_
    refine OGoal.mp (S' := (s₁.setTop (mkF m 18 #[.val (.int p1), .val (.long p2), .second, .val (.int p3), .unset, .unset, .unset, .unset, .unset, .unset, .unset, .unset, .unset, .unset, .unset, .unset, .unset, .unset, .unset, .unset, .unset, .unset, .unset, .unset] [(.double (4625196817309499392 : UInt64)), (.double (FP.i2d ((160 : Int32) + (p1 &&& (65535 : Int32)))))]))) (fun _ k => X0.ldc2DoubleC hx hown (mvT hZ (hw _ (List.mem_of_getElem? (i := 2) rfl))) (g := mkF m 15 #[.val (.int p1), .val (.long p2), .second, .val (.int p3), .unset, .unset, .unset, .unset, .unset, .unset, .unset, .unset, .unset, .unset, .unset, .unset, .unset, .unset, .unset, .unset, .unset, .unset, .unset, .unset] [(.double (FP.i2d ((160 : Int32) + (p1 &&& (65535 : Int32)))))]) rfl (hb hby at_15) _ k) ?_
    obtain ⟨X, hX⟩ := own_dxi p1
    refine OGoal.mp (S' := (s₁.setTop (mkF m 19 #[.val (.int p1), .val (.long p2), .second, .val (.int p3), .unset, .unset, .unset, .unset, .unset, .unset, .unset, .unset, .unset, .unset, .unset, .unset, .unset, .unset, .unset, .unset, .unset, .unset, .unset, .unset] [(.double (own_xi p1))]))) (fun _ k => XS.ddivS (g := mkF m 18 #[.val (.int p1), .val (.long p2), .second, .val (.int p3), .unset, .unset, .unset, .unset, .unset, .unset, .unset, .unset, .unset, .unset, .unset, .unset, .unset, .unset, .unset, .unset, .unset, .unset, .unset, .unset] [(.double (4625196817309499392 : UInt64)), (.double (FP.i2d ((160 : Int32) + (p1 &&& (65535 : Int32)))))]) (x := (FP.i2d ((160 : Int32) + (p1 &&& (65535 : Int32))))) (y := (4625196817309499392 : UInt64)) (v := (own_xi p1)) (rest := []) X0.here hx rfl (hb hby at_18) rfl hX.no rfl k) ?_
    refine OGoal.mp (S' := (s₁.setTop (mkF m 21 #[.val (.int p1), .val (.long p2), .second, .val (.int p3), .val (.double (own_xi p1)), .second, .unset, .unset, .unset, .unset, .unset, .unset, .unset, .unset, .unset, .unset, .unset, .unset, .unset, .unset, .unset, .unset, .unset, .unset] []))) (fun _ k => XS.dstore X0.here hx rfl (hb hby at_19) rfl (l' := #[.val (.int p1), .val (.long p2), .second, .val (.int p3), .val (.double (own_xi p1)), .second, .unset, .unset, .unset, .unset, .unset, .unset, .unset, .unset, .unset, .unset, .unset, .unset, .unset, .unset, .unset, .unset, .unset, .unset]) rfl k) ?_
    refine OGoal.mp (S' := (s₁.setTop (mkF m 40 #[.val (.int p1), .val (.long p2), .second, .val (.int p3), .val (.double (own_xi p1)), .second, .unset, .unset, .unset, .unset, .unset, .unset, .unset, .unset, .unset, .unset, .unset, .unset, .unset, .unset, .unset, .unset, .unset, .unset] []))) (fun _ k => XS.goto X0.here hx rfl (pc0 := 21) (pc' := 40) rfl (hb hby at_21) (by decide) (by decide) k) ?_
    refine OGoal.mp (S' := (s₁.setTop (mkF m 42 #[.val (.int p1), .val (.long p2), .second, .val (.int p3), .val (.double (own_xi p1)), .second, .unset, .unset, .unset, .unset, .unset, .unset, .unset, .unset, .unset, .unset, .unset, .unset, .unset, .unset, .unset, .unset, .unset, .unset] [(.double (own_xi p1))]))) (fun _ k => XS.dload X0.here hx rfl (hb hby at_40) rfl k) ?_
    refine oCallS (y := (⟨"com/example/andesite/andesite/model/PortableMath", "stirlingSeries", "(D)D"⟩ : MethodName)) X0 hx hZ hown (hw _ (List.mem_of_getElem? (i := 3) rfl)) (hw _ (List.mem_of_getElem? (i := 4) rfl)) (hw _ (List.mem_of_getElem? (i := 5) rfl)) (hw _ (List.mem_of_getElem? (i := 6) rfl)) (by decide) (rmS l Z a0 hw (own_xi p1) X h0 n0 Z0 hX) e0 [(.double (own_xi p1))] [] rfl rfl (by rw [hml]; rfl) (lenOf own_pd__D_D rfl) 0 (Nat.le_of_eq rfl) (by decide) (by decide) (by decide) (by decide) (hb hby at_42) ?_
    intro v2 T3 L4 X5 q6
    obtain ⟨rfl, N7, e8⟩ := q6
    have N9 := Fr.app (Fr.nil n0) N7
    show OGoal p e below s _ _ _ (T3.setTop (mkF m 45 #[.val (.int p1), .val (.long p2), .second, .val (.int p3), .val (.double (own_xi p1)), .second, .unset, .unset, .unset, .unset, .unset, .unset, .unset, .unset, .unset, .unset, .unset, .unset, .unset, .unset, .unset, .unset, .unset, .unset] [(.double (own_s11 (own_xi p1)))]))
    refine OGoal.mp (S' := (T3.setTop (mkF m 47 #[.val (.int p1), .val (.long p2), .second, .val (.int p3), .val (.double (own_xi p1)), .second, .val (.double (own_s11 (own_xi p1))), .second, .unset, .unset, .unset, .unset, .unset, .unset, .unset, .unset, .unset, .unset, .unset, .unset, .unset, .unset, .unset, .unset] []))) (fun _ k => XS.dstore X5.here hx rfl (hb hby at_45) rfl (l' := #[.val (.int p1), .val (.long p2), .second, .val (.int p3), .val (.double (own_xi p1)), .second, .val (.double (own_s11 (own_xi p1))), .second, .unset, .unset, .unset, .unset, .unset, .unset, .unset, .unset, .unset, .unset, .unset, .unset, .unset, .unset, .unset, .unset]) rfl k) ?_
    refine OGoal.mp (S' := (T3.setTop (mkF m 49 #[.val (.int p1), .val (.long p2), .second, .val (.int p3), .val (.double (own_xi p1)), .second, .val (.double (own_s11 (own_xi p1))), .second, .unset, .unset, .unset, .unset, .unset, .unset, .unset, .unset, .unset, .unset, .unset, .unset, .unset, .unset, .unset, .unset] [(.double (own_xi p1))]))) (fun _ k => XS.dload X5.here hx rfl (hb hby at_47) rfl k) ?_
    refine OGoal.mp (S' := (T3.setTop (mkF m 51 #[.val (.int p1), .val (.long p2), .second, .val (.int p3), .val (.double (own_xi p1)), .second, .val (.double (own_s11 (own_xi p1))), .second, .unset, .unset, .unset, .unset, .unset, .unset, .unset, .unset, .unset, .unset, .unset, .unset, .unset, .unset, .unset, .unset] [(.double (own_xi p1)), (.double (own_xi p1))]))) (fun _ k => XS.dload X5.here hx rfl (hb hby at_49) rfl k) ?_
    refine OGoal.mp (S' := (T3.setTop (mkF m 52 #[.val (.int p1), .val (.long p2), .second, .val (.int p3), .val (.double (own_xi p1)), .second, .val (.double (own_s11 (own_xi p1))), .second, .unset, .unset, .unset, .unset, .unset, .unset, .unset, .unset, .unset, .unset, .unset, .unset, .unset, .unset, .unset, .unset] [(.double (own_x2 (own_xi p1)))]))) (fun _ k => XS.dmulS (g := mkF m 51 #[.val (.int p1), .val (.long p2), .second, .val (.int p3), .val (.double (own_xi p1)), .second, .val (.double (own_s11 (own_xi p1))), .second, .unset, .unset, .unset, .unset, .unset, .unset, .unset, .unset, .unset, .unset, .unset, .unset, .unset, .unset, .unset, .unset] [(.double (own_xi p1)), (.double (own_xi p1))]) (x := (own_xi p1)) (y := (own_xi p1)) (v := (own_x2 (own_xi p1))) (rest := []) X5.here hx rfl (hb hby at_51) rfl (own_h_x2 hX).no rfl k) ?_
    refine OGoal.mp (S' := (T3.setTop (mkF m 54 #[.val (.int p1), .val (.long p2), .second, .val (.int p3), .val (.double (own_xi p1)), .second, .val (.double (own_s11 (own_xi p1))), .second, .val (.double (own_x2 (own_xi p1))), .second, .unset, .unset, .unset, .unset, .unset, .unset, .unset, .unset, .unset, .unset, .unset, .unset, .unset, .unset] []))) (fun _ k => XS.dstore X5.here hx rfl (hb hby at_52) rfl (l' := #[.val (.int p1), .val (.long p2), .second, .val (.int p3), .val (.double (own_xi p1)), .second, .val (.double (own_s11 (own_xi p1))), .second, .val (.double (own_x2 (own_xi p1))), .second, .unset, .unset, .unset, .unset, .unset, .unset, .unset, .unset, .unset, .unset, .unset, .unset, .unset, .unset]) rfl k) ?_
    refine OGoal.mp (S' := (T3.setTop (mkF m 57 #[.val (.int p1), .val (.long p2), .second, .val (.int p3), .val (.double (own_xi p1)), .second, .val (.double (own_s11 (own_xi p1))), .second, .val (.double (own_x2 (own_xi p1))), .second, .unset, .unset, .unset, .unset, .unset, .unset, .unset, .unset, .unset, .unset, .unset, .unset, .unset, .unset] [(.double (4668845229908951040 : UInt64))]))) (fun _ k => X5.ldc2DoubleC hx hown (mvT hZ (hw _ (List.mem_of_getElem? (i := 12) rfl))) (g := mkF m 54 #[.val (.int p1), .val (.long p2), .second, .val (.int p3), .val (.double (own_xi p1)), .second, .val (.double (own_s11 (own_xi p1))), .second, .val (.double (own_x2 (own_xi p1))), .second, .unset, .unset, .unset, .unset, .unset, .unset, .unset, .unset, .unset, .unset, .unset, .unset, .unset, .unset] []) rfl (hb hby at_54) _ k) ?_
    refine OGoal.mp (S' := (T3.setTop (mkF m 59 #[.val (.int p1), .val (.long p2), .second, .val (.int p3), .val (.double (own_xi p1)), .second, .val (.double (own_s11 (own_xi p1))), .second, .val (.double (own_x2 (own_xi p1))), .second, .unset, .unset, .unset, .unset, .unset, .unset, .unset, .unset, .unset, .unset, .unset, .unset, .unset, .unset] [(.double (own_x2 (own_xi p1))), (.double (4668845229908951040 : UInt64))]))) (fun _ k => XS.dload X5.here hx rfl (hb hby at_57) rfl k) ?_
    refine OGoal.mp (S' := (T3.setTop (mkF m 60 #[.val (.int p1), .val (.long p2), .second, .val (.int p3), .val (.double (own_xi p1)), .second, .val (.double (own_s11 (own_xi p1))), .second, .val (.double (own_x2 (own_xi p1))), .second, .unset, .unset, .unset, .unset, .unset, .unset, .unset, .unset, .unset, .unset, .unset, .unset, .unset, .unset] [(.double (own_n1 (own_xi p1)))]))) (fun _ k => XS.dmulS (g := mkF m 59 #[.val (.int p1), .val (.long p2), .second, .val (.int p3), .val (.double (own_xi p1)), .second, .val (.double (own_s11 (own_xi p1))), .second, .val (.double (own_x2 (own_xi p1))), .second, .unset, .unset, .unset, .unset, .unset, .unset, .unset, .unset, .unset, .unset, .unset, .unset, .unset, .unset] [(.double (own_x2 (own_xi p1))), (.double (4668845229908951040 : UInt64))]) (x := (4668845229908951040 : UInt64)) (y := (own_x2 (own_xi p1))) (v := (own_n1 (own_xi p1))) (rest := []) X5.here hx rfl (hb hby at_59) rfl (own_h_n1 hX).no rfl k) ?_
    refine OGoal.mp (S' := (T3.setTop (mkF m 63 #[.val (.int p1), .val (.long p2), .second, .val (.int p3), .val (.double (own_xi p1)), .second, .val (.double (own_s11 (own_xi p1))), .second, .val (.double (own_x2 (own_xi p1))), .second, .unset, .unset, .unset, .unset, .unset, .unset, .unset, .unset, .unset, .unset, .unset, .unset, .unset, .unset] [(.double (4646835206144131072 : UInt64)), (.double (own_n1 (own_xi p1)))]))) (fun _ k => X5.ldc2DoubleC hx hown (mvT hZ (hw _ (List.mem_of_getElem? (i := 13) rfl))) (g := mkF m 60 #[.val (.int p1), .val (.long p2), .second, .val (.int p3), .val (.double (own_xi p1)), .second, .val (.double (own_s11 (own_xi p1))), .second, .val (.double (own_x2 (own_xi p1))), .second, .unset, .unset, .unset, .unset, .unset, .unset, .unset, .unset, .unset, .unset, .unset, .unset, .unset, .unset] [(.double (own_n1 (own_xi p1)))]) rfl (hb hby at_60) _ k) ?_
    refine OGoal.mp (S' := (T3.setTop (mkF m 64 #[.val (.int p1), .val (.long p2), .second, .val (.int p3), .val (.double (own_xi p1)), .second, .val (.double (own_s11 (own_xi p1))), .second, .val (.double (own_x2 (own_xi p1))), .second, .unset, .unset, .unset, .unset, .unset, .unset, .unset, .unset, .unset, .unset, .unset, .unset, .unset, .unset] [(.double (own_n2 (own_xi p1)))]))) (fun _ k => XS.dsubS (g := mkF m 63 #[.val (.int p1), .val (.long p2), .second, .val (.int p3), .val (.double (own_xi p1)), .second, .val (.double (own_s11 (own_xi p1))), .second, .val (.double (own_x2 (own_xi p1))), .second, .unset, .unset, .unset, .unset, .unset, .unset, .unset, .unset, .unset, .unset, .unset, .unset, .unset, .unset] [(.double (4646835206144131072 : UInt64)), (.double (own_n1 (own_xi p1)))]) (x := (own_n1 (own_xi p1))) (y := (4646835206144131072 : UInt64)) (v := (own_n2 (own_xi p1))) (rest := []) X5.here hx rfl (hb hby at_63) rfl (own_h_n2 hX).no rfl k) ?_
    refine OGoal.mp (S' := (T3.setTop (mkF m 66 #[.val (.int p1), .val (.long p2), .second, .val (.int p3), .val (.double (own_xi p1)), .second, .val (.double (own_s11 (own_xi p1))), .second, .val (.double (own_x2 (own_xi p1))), .second, .unset, .unset, .unset, .unset, .unset, .unset, .unset, .unset, .unset, .unset, .unset, .unset, .unset, .unset] [(.double (own_x2 (own_xi p1))), (.double (own_n2 (own_xi p1)))]))) (fun _ k => XS.dload X5.here hx rfl (hb hby at_64) rfl k) ?_
    refine OGoal.mp (S' := (T3.setTop (mkF m 67 #[.val (.int p1), .val (.long p2), .second, .val (.int p3), .val (.double (own_xi p1)), .second, .val (.double (own_s11 (own_xi p1))), .second, .val (.double (own_x2 (own_xi p1))), .second, .unset, .unset, .unset, .unset, .unset, .unset, .unset, .unset, .unset, .unset, .unset, .unset, .unset, .unset] [(.double (own_n3 (own_xi p1)))]))) (fun _ k => XS.dmulS (g := mkF m 66 #[.val (.int p1), .val (.long p2), .second, .val (.int p3), .val (.double (own_xi p1)), .second, .val (.double (own_s11 (own_xi p1))), .second, .val (.double (own_x2 (own_xi p1))), .second, .unset, .unset, .unset, .unset, .unset, .unset, .unset, .unset, .unset, .unset, .unset, .unset, .unset, .unset] [(.double (own_x2 (own_xi p1))), (.double (own_n2 (own_xi p1)))]) (x := (own_n2 (own_xi p1))) (y := (own_x2 (own_xi p1))) (v := (own_n3 (own_xi p1))) (rest := []) X5.here hx rfl (hb hby at_66) rfl (own_h_n3 hX).no rfl k) ?_
    refine OGoal.mp (S' := (T3.setTop (mkF m 70 #[.val (.int p1), .val (.long p2), .second, .val (.int p3), .val (.double (own_xi p1)), .second, .val (.double (own_s11 (own_xi p1))), .second, .val (.double (own_x2 (own_xi p1))), .second, .unset, .unset, .unset, .unset, .unset, .unset, .unset, .unset, .unset, .unset, .unset, .unset, .unset, .unset] [(.double (4638848353679966208 : UInt64)), (.double (own_n3 (own_xi p1)))]))) (fun _ k => X5.ldc2DoubleC hx hown (mvT hZ (hw _ (List.mem_of_getElem? (i := 14) rfl))) (g := mkF m 67 #[.val (.int p1), .val (.long p2), .second, .val (.int p3), .val (.double (own_xi p1)), .second, .val (.double (own_s11 (own_xi p1))), .second, .val (.double (own_x2 (own_xi p1))), .second, .unset, .unset, .unset, .unset, .unset, .unset, .unset, .unset, .unset, .unset, .unset, .unset, .unset, .unset] [(.double (own_n3 (own_xi p1)))]) rfl (hb hby at_67) _ k) ?_
    refine OGoal.mp (S' := (T3.setTop (mkF m 71 #[.val (.int p1), .val (.long p2), .second, .val (.int p3), .val (.double (own_xi p1)), .second, .val (.double (own_s11 (own_xi p1))), .second, .val (.double (own_x2 (own_xi p1))), .second, .unset, .unset, .unset, .unset, .unset, .unset, .unset, .unset, .unset, .unset, .unset, .unset, .unset, .unset] [(.double (own_n4 (own_xi p1)))]))) (fun _ k => XS.daddS (g := mkF m 70 #[.val (.int p1), .val (.long p2), .second, .val (.int p3), .val (.double (own_xi p1)), .second, .val (.double (own_s11 (own_xi p1))), .second, .val (.double (own_x2 (own_xi p1))), .second, .unset, .unset, .unset, .unset, .unset, .unset, .unset, .unset, .unset, .unset, .unset, .unset, .unset, .unset] [(.double (4638848353679966208 : UInt64)), (.double (own_n3 (own_xi p1)))]) (x := (own_n3 (own_xi p1))) (y := (4638848353679966208 : UInt64)) (v := (own_n4 (own_xi p1))) (rest := []) X5.here hx rfl (hb hby at_70) rfl (own_h_n4 hX).no rfl k) ?_
    refine OGoal.mp (S' := (T3.setTop (mkF m 73 #[.val (.int p1), .val (.long p2), .second, .val (.int p3), .val (.double (own_xi p1)), .second, .val (.double (own_s11 (own_xi p1))), .second, .val (.double (own_x2 (own_xi p1))), .second, .unset, .unset, .unset, .unset, .unset, .unset, .unset, .unset, .unset, .unset, .unset, .unset, .unset, .unset] [(.double (own_x2 (own_xi p1))), (.double (own_n4 (own_xi p1)))]))) (fun _ k => XS.dload X5.here hx rfl (hb hby at_71) rfl k) ?_
    refine OGoal.mp (S' := (T3.setTop (mkF m 74 #[.val (.int p1), .val (.long p2), .second, .val (.int p3), .val (.double (own_xi p1)), .second, .val (.double (own_s11 (own_xi p1))), .second, .val (.double (own_x2 (own_xi p1))), .second, .unset, .unset, .unset, .unset, .unset, .unset, .unset, .unset, .unset, .unset, .unset, .unset, .unset, .unset] [(.double (own_n5 (own_xi p1)))]))) (fun _ k => XS.dmulS (g := mkF m 73 #[.val (.int p1), .val (.long p2), .second, .val (.int p3), .val (.double (own_xi p1)), .second, .val (.double (own_s11 (own_xi p1))), .second, .val (.double (own_x2 (own_xi p1))), .second, .unset, .unset, .unset, .unset, .unset, .unset, .unset, .unset, .unset, .unset, .unset, .unset, .unset, .unset] [(.double (own_x2 (own_xi p1))), (.double (own_n4 (own_xi p1)))]) (x := (own_n4 (own_xi p1))) (y := (own_x2 (own_xi p1))) (v := (own_n5 (own_xi p1))) (rest := []) X5.here hx rfl (hb hby at_73) rfl (own_h_n5 hX).no rfl k) ?_
    refine OGoal.mp (S' := (T3.setTop (mkF m 77 #[.val (.int p1), .val (.long p2), .second, .val (.int p3), .val (.double (own_xi p1)), .second, .val (.double (own_s11 (own_xi p1))), .second, .val (.double (own_x2 (own_xi p1))), .second, .unset, .unset, .unset, .unset, .unset, .unset, .unset, .unset, .unset, .unset, .unset, .unset, .unset, .unset] [(.double (4636666922610458624 : UInt64)), (.double (own_n5 (own_xi p1)))]))) (fun _ k => X5.ldc2DoubleC hx hown (mvT hZ (hw _ (List.mem_of_getElem? (i := 15) rfl))) (g := mkF m 74 #[.val (.int p1), .val (.long p2), .second, .val (.int p3), .val (.double (own_xi p1)), .second, .val (.double (own_s11 (own_xi p1))), .second, .val (.double (own_x2 (own_xi p1))), .second, .unset, .unset, .unset, .unset, .unset, .unset, .unset, .unset, .unset, .unset, .unset, .unset, .unset, .unset] [(.double (own_n5 (own_xi p1)))]) rfl (hb hby at_74) _ k) ?_
    refine OGoal.mp (S' := (T3.setTop (mkF m 78 #[.val (.int p1), .val (.long p2), .second, .val (.int p3), .val (.double (own_xi p1)), .second, .val (.double (own_s11 (own_xi p1))), .second, .val (.double (own_x2 (own_xi p1))), .second, .unset, .unset, .unset, .unset, .unset, .unset, .unset, .unset, .unset, .unset, .unset, .unset, .unset, .unset] [(.double (own_n6 (own_xi p1)))]))) (fun _ k => XS.dsubS (g := mkF m 77 #[.val (.int p1), .val (.long p2), .second, .val (.int p3), .val (.double (own_xi p1)), .second, .val (.double (own_s11 (own_xi p1))), .second, .val (.double (own_x2 (own_xi p1))), .second, .unset, .unset, .unset, .unset, .unset, .unset, .unset, .unset, .unset, .unset, .unset, .unset, .unset, .unset] [(.double (4636666922610458624 : UInt64)), (.double (own_n5 (own_xi p1)))]) (x := (own_n5 (own_xi p1))) (y := (4636666922610458624 : UInt64)) (v := (own_n6 (own_xi p1))) (rest := []) X5.here hx rfl (hb hby at_77) rfl (own_h_n6 hX).no rfl k) ?_
    refine OGoal.mp (S' := (T3.setTop (mkF m 80 #[.val (.int p1), .val (.long p2), .second, .val (.int p3), .val (.double (own_xi p1)), .second, .val (.double (own_s11 (own_xi p1))), .second, .val (.double (own_x2 (own_xi p1))), .second, .unset, .unset, .unset, .unset, .unset, .unset, .unset, .unset, .unset, .unset, .unset, .unset, .unset, .unset] [(.double (own_x2 (own_xi p1))), (.double (own_n6 (own_xi p1)))]))) (fun _ k => XS.dload X5.here hx rfl (hb hby at_78) rfl k) ?_
    refine OGoal.mp (S' := (T3.setTop (mkF m 81 #[.val (.int p1), .val (.long p2), .second, .val (.int p3), .val (.double (own_xi p1)), .second, .val (.double (own_s11 (own_xi p1))), .second, .val (.double (own_x2 (own_xi p1))), .second, .unset, .unset, .unset, .unset, .unset, .unset, .unset, .unset, .unset, .unset, .unset, .unset, .unset, .unset] [(.double (own_n7 (own_xi p1)))]))) (fun _ k => XS.dmulS (g := mkF m 80 #[.val (.int p1), .val (.long p2), .second, .val (.int p3), .val (.double (own_xi p1)), .second, .val (.double (own_s11 (own_xi p1))), .second, .val (.double (own_x2 (own_xi p1))), .second, .unset, .unset, .unset, .unset, .unset, .unset, .unset, .unset, .unset, .unset, .unset, .unset, .unset, .unset] [(.double (own_x2 (own_xi p1))), (.double (own_n6 (own_xi p1)))]) (x := (own_n6 (own_xi p1))) (y := (own_x2 (own_xi p1))) (v := (own_n7 (own_xi p1))) (rest := []) X5.here hx rfl (hb hby at_80) rfl (own_h_n7 hX).no rfl k) ?_
    refine OGoal.mp (S' := (T3.setTop (mkF m 84 #[.val (.int p1), .val (.long p2), .second, .val (.int p3), .val (.double (own_xi p1)), .second, .val (.double (own_s11 (own_xi p1))), .second, .val (.double (own_x2 (own_xi p1))), .second, .unset, .unset, .unset, .unset, .unset, .unset, .unset, .unset, .unset, .unset, .unset, .unset, .unset, .unset] [(.double (4639129828656676864 : UInt64)), (.double (own_n7 (own_xi p1)))]))) (fun _ k => X5.ldc2DoubleC hx hown (mvT hZ (hw _ (List.mem_of_getElem? (i := 16) rfl))) (g := mkF m 81 #[.val (.int p1), .val (.long p2), .second, .val (.int p3), .val (.double (own_xi p1)), .second, .val (.double (own_s11 (own_xi p1))), .second, .val (.double (own_x2 (own_xi p1))), .second, .unset, .unset, .unset, .unset, .unset, .unset, .unset, .unset, .unset, .unset, .unset, .unset, .unset, .unset] [(.double (own_n7 (own_xi p1)))]) rfl (hb hby at_81) _ k) ?_
    refine OGoal.mp (S' := (T3.setTop (mkF m 85 #[.val (.int p1), .val (.long p2), .second, .val (.int p3), .val (.double (own_xi p1)), .second, .val (.double (own_s11 (own_xi p1))), .second, .val (.double (own_x2 (own_xi p1))), .second, .unset, .unset, .unset, .unset, .unset, .unset, .unset, .unset, .unset, .unset, .unset, .unset, .unset, .unset] [(.double (own_n8 (own_xi p1)))]))) (fun _ k => XS.daddS (g := mkF m 84 #[.val (.int p1), .val (.long p2), .second, .val (.int p3), .val (.double (own_xi p1)), .second, .val (.double (own_s11 (own_xi p1))), .second, .val (.double (own_x2 (own_xi p1))), .second, .unset, .unset, .unset, .unset, .unset, .unset, .unset, .unset, .unset, .unset, .unset, .unset, .unset, .unset] [(.double (4639129828656676864 : UInt64)), (.double (own_n7 (own_xi p1)))]) (x := (own_n7 (own_xi p1))) (y := (4639129828656676864 : UInt64)) (v := (own_n8 (own_xi p1))) (rest := []) X5.here hx rfl (hb hby at_84) rfl (own_h_n8 hX).no rfl k) ?_
    refine OGoal.mp (S' := (T3.setTop (mkF m 87 #[.val (.int p1), .val (.long p2), .second, .val (.int p3), .val (.double (own_xi p1)), .second, .val (.double (own_s11 (own_xi p1))), .second, .val (.double (own_x2 (own_xi p1))), .second, .val (.double (own_n8 (own_xi p1))), .second, .unset, .unset, .unset, .unset, .unset, .unset, .unset, .unset, .unset, .unset, .unset, .unset] []))) (fun _ k => XS.dstore X5.here hx rfl (hb hby at_85) rfl (l' := #[.val (.int p1), .val (.long p2), .second, .val (.int p3), .val (.double (own_xi p1)), .second, .val (.double (own_s11 (own_xi p1))), .second, .val (.double (own_x2 (own_xi p1))), .second, .val (.double (own_n8 (own_xi p1))), .second, .unset, .unset, .unset, .unset, .unset, .unset, .unset, .unset, .unset, .unset, .unset, .unset]) rfl k) ?_
    refine OGoal.mp (S' := (T3.setTop (mkF m 89 #[.val (.int p1), .val (.long p2), .second, .val (.int p3), .val (.double (own_xi p1)), .second, .val (.double (own_s11 (own_xi p1))), .second, .val (.double (own_x2 (own_xi p1))), .second, .val (.double (own_n8 (own_xi p1))), .second, .unset, .unset, .unset, .unset, .unset, .unset, .unset, .unset, .unset, .unset, .unset, .unset] [(.double (own_x2 (own_xi p1)))]))) (fun _ k => XS.dload X5.here hx rfl (hb hby at_87) rfl k) ?_
    refine OGoal.mp (S' := (T3.setTop (mkF m 91 #[.val (.int p1), .val (.long p2), .second, .val (.int p3), .val (.double (own_xi p1)), .second, .val (.double (own_s11 (own_xi p1))), .second, .val (.double (own_x2 (own_xi p1))), .second, .val (.double (own_n8 (own_xi p1))), .second, .unset, .unset, .unset, .unset, .unset, .unset, .unset, .unset, .unset, .unset, .unset, .unset] [(.double (own_x2 (own_xi p1))), (.double (own_x2 (own_xi p1)))]))) (fun _ k => XS.dload X5.here hx rfl (hb hby at_89) rfl k) ?_
    refine OGoal.mp (S' := (T3.setTop (mkF m 92 #[.val (.int p1), .val (.long p2), .second, .val (.int p3), .val (.double (own_xi p1)), .second, .val (.double (own_s11 (own_xi p1))), .second, .val (.double (own_x2 (own_xi p1))), .second, .val (.double (own_n8 (own_xi p1))), .second, .unset, .unset, .unset, .unset, .unset, .unset, .unset, .unset, .unset, .unset, .unset, .unset] [(.double (own_x4 (own_xi p1)))]))) (fun _ k => XS.dmulS (g := mkF m 91 #[.val (.int p1), .val (.long p2), .second, .val (.int p3), .val (.double (own_xi p1)), .second, .val (.double (own_s11 (own_xi p1))), .second, .val (.double (own_x2 (own_xi p1))), .second, .val (.double (own_n8 (own_xi p1))), .second, .unset, .unset, .unset, .unset, .unset, .unset, .unset, .unset, .unset, .unset, .unset, .unset] [(.double (own_x2 (own_xi p1))), (.double (own_x2 (own_xi p1)))]) (x := (own_x2 (own_xi p1))) (y := (own_x2 (own_xi p1))) (v := (own_x4 (own_xi p1))) (rest := []) X5.here hx rfl (hb hby at_91) rfl (own_h_x4 hX).no rfl k) ?_
    refine OGoal.mp (S' := (T3.setTop (mkF m 94 #[.val (.int p1), .val (.long p2), .second, .val (.int p3), .val (.double (own_xi p1)), .second, .val (.double (own_s11 (own_xi p1))), .second, .val (.double (own_x2 (own_xi p1))), .second, .val (.double (own_n8 (own_xi p1))), .second, .val (.double (own_x4 (own_xi p1))), .second, .unset, .unset, .unset, .unset, .unset, .unset, .unset, .unset, .unset, .unset] []))) (fun _ k => XS.dstore X5.here hx rfl (hb hby at_92) rfl (l' := #[.val (.int p1), .val (.long p2), .second, .val (.int p3), .val (.double (own_xi p1)), .second, .val (.double (own_s11 (own_xi p1))), .second, .val (.double (own_x2 (own_xi p1))), .second, .val (.double (own_n8 (own_xi p1))), .second, .val (.double (own_x4 (own_xi p1))), .second, .unset, .unset, .unset, .unset, .unset, .unset, .unset, .unset, .unset, .unset]) rfl k) ?_
    refine OGoal.mp (S' := (T3.setTop (mkF m 96 #[.val (.int p1), .val (.long p2), .second, .val (.int p3), .val (.double (own_xi p1)), .second, .val (.double (own_s11 (own_xi p1))), .second, .val (.double (own_x2 (own_xi p1))), .second, .val (.double (own_n8 (own_xi p1))), .second, .val (.double (own_x4 (own_xi p1))), .second, .unset, .unset, .unset, .unset, .unset, .unset, .unset, .unset, .unset, .unset] [(.double (own_x4 (own_xi p1)))]))) (fun _ k => XS.dload X5.here hx rfl (hb hby at_94) rfl k) ?_
    refine OGoal.mp (S' := (T3.setTop (mkF m 98 #[.val (.int p1), .val (.long p2), .second, .val (.int p3), .val (.double (own_xi p1)), .second, .val (.double (own_s11 (own_xi p1))), .second, .val (.double (own_x2 (own_xi p1))), .second, .val (.double (own_n8 (own_xi p1))), .second, .val (.double (own_x4 (own_xi p1))), .second, .unset, .unset, .unset, .unset, .unset, .unset, .unset, .unset, .unset, .unset] [(.double (own_x4 (own_xi p1))), (.double (own_x4 (own_xi p1)))]))) (fun _ k => XS.dload X5.here hx rfl (hb hby at_96) rfl k) ?_
    refine OGoal.mp (S' := (T3.setTop (mkF m 99 #[.val (.int p1), .val (.long p2), .second, .val (.int p3), .val (.double (own_xi p1)), .second, .val (.double (own_s11 (own_xi p1))), .second, .val (.double (own_x2 (own_xi p1))), .second, .val (.double (own_n8 (own_xi p1))), .second, .val (.double (own_x4 (own_xi p1))), .second, .unset, .unset, .unset, .unset, .unset, .unset, .unset, .unset, .unset, .unset] [(.double (own_x8 (own_xi p1)))]))) (fun _ k => XS.dmulS (g := mkF m 98 #[.val (.int p1), .val (.long p2), .second, .val (.int p3), .val (.double (own_xi p1)), .second, .val (.double (own_s11 (own_xi p1))), .second, .val (.double (own_x2 (own_xi p1))), .second, .val (.double (own_n8 (own_xi p1))), .second, .val (.double (own_x4 (own_xi p1))), .second, .unset, .unset, .unset, .unset, .unset, .unset, .unset, .unset, .unset, .unset] [(.double (own_x4 (own_xi p1))), (.double (own_x4 (own_xi p1)))]) (x := (own_x4 (own_xi p1))) (y := (own_x4 (own_xi p1))) (v := (own_x8 (own_xi p1))) (rest := []) X5.here hx rfl (hb hby at_98) rfl (own_h_x8 hX).no rfl k) ?_
    refine OGoal.mp (S' := (T3.setTop (mkF m 101 #[.val (.int p1), .val (.long p2), .second, .val (.int p3), .val (.double (own_xi p1)), .second, .val (.double (own_s11 (own_xi p1))), .second, .val (.double (own_x2 (own_xi p1))), .second, .val (.double (own_n8 (own_xi p1))), .second, .val (.double (own_x4 (own_xi p1))), .second, .val (.double (own_x8 (own_xi p1))), .second, .unset, .unset, .unset, .unset, .unset, .unset, .unset, .unset] []))) (fun _ k => XS.dstore X5.here hx rfl (hb hby at_99) rfl (l' := #[.val (.int p1), .val (.long p2), .second, .val (.int p3), .val (.double (own_xi p1)), .second, .val (.double (own_s11 (own_xi p1))), .second, .val (.double (own_x2 (own_xi p1))), .second, .val (.double (own_n8 (own_xi p1))), .second, .val (.double (own_x4 (own_xi p1))), .second, .val (.double (own_x8 (own_xi p1))), .second, .unset, .unset, .unset, .unset, .unset, .unset, .unset, .unset]) rfl k) ?_
    refine OGoal.mp (S' := (T3.setTop (mkF m 104 #[.val (.int p1), .val (.long p2), .second, .val (.int p3), .val (.double (own_xi p1)), .second, .val (.double (own_s11 (own_xi p1))), .second, .val (.double (own_x2 (own_xi p1))), .second, .val (.double (own_n8 (own_xi p1))), .second, .val (.double (own_x4 (own_xi p1))), .second, .val (.double (own_x8 (own_xi p1))), .second, .unset, .unset, .unset, .unset, .unset, .unset, .unset, .unset] [(.double (4684954724523311104 : UInt64))]))) (fun _ k => X5.ldc2DoubleC hx hown (mvT hZ (hw _ (List.mem_of_getElem? (i := 17) rfl))) (g := mkF m 101 #[.val (.int p1), .val (.long p2), .second, .val (.int p3), .val (.double (own_xi p1)), .second, .val (.double (own_s11 (own_xi p1))), .second, .val (.double (own_x2 (own_xi p1))), .second, .val (.double (own_n8 (own_xi p1))), .second, .val (.double (own_x4 (own_xi p1))), .second, .val (.double (own_x8 (own_xi p1))), .second, .unset, .unset, .unset, .unset, .unset, .unset, .unset, .unset] []) rfl (hb hby at_101) _ k) ?_
    refine OGoal.mp (S' := (T3.setTop (mkF m 106 #[.val (.int p1), .val (.long p2), .second, .val (.int p3), .val (.double (own_xi p1)), .second, .val (.double (own_s11 (own_xi p1))), .second, .val (.double (own_x2 (own_xi p1))), .second, .val (.double (own_n8 (own_xi p1))), .second, .val (.double (own_x4 (own_xi p1))), .second, .val (.double (own_x8 (own_xi p1))), .second, .unset, .unset, .unset, .unset, .unset, .unset, .unset, .unset] [(.double (own_x8 (own_xi p1))), (.double (4684954724523311104 : UInt64))]))) (fun _ k => XS.dload X5.here hx rfl (hb hby at_104) rfl k) ?_
    refine OGoal.mp (S' := (T3.setTop (mkF m 108 #[.val (.int p1), .val (.long p2), .second, .val (.int p3), .val (.double (own_xi p1)), .second, .val (.double (own_s11 (own_xi p1))), .second, .val (.double (own_x2 (own_xi p1))), .second, .val (.double (own_n8 (own_xi p1))), .second, .val (.double (own_x4 (own_xi p1))), .second, .val (.double (own_x8 (own_xi p1))), .second, .unset, .unset, .unset, .unset, .unset, .unset, .unset, .unset] [(.double (own_xi p1)), (.double (own_x8 (own_xi p1))), (.double (4684954724523311104 : UInt64))]))) (fun _ k => XS.dload X5.here hx rfl (hb hby at_106) rfl k) ?_
    refine OGoal.mp (S' := (T3.setTop (mkF m 109 #[.val (.int p1), .val (.long p2), .second, .val (.int p3), .val (.double (own_xi p1)), .second, .val (.double (own_s11 (own_xi p1))), .second, .val (.double (own_x2 (own_xi p1))), .second, .val (.double (own_n8 (own_xi p1))), .second, .val (.double (own_x4 (own_xi p1))), .second, .val (.double (own_x8 (own_xi p1))), .second, .unset, .unset, .unset, .unset, .unset, .unset, .unset, .unset] [(.double (own_d1 (own_xi p1))), (.double (4684954724523311104 : UInt64))]))) (fun _ k => XS.dmulS (g := mkF m 108 #[.val (.int p1), .val (.long p2), .second, .val (.int p3), .val (.double (own_xi p1)), .second, .val (.double (own_s11 (own_xi p1))), .second, .val (.double (own_x2 (own_xi p1))), .second, .val (.double (own_n8 (own_xi p1))), .second, .val (.double (own_x4 (own_xi p1))), .second, .val (.double (own_x8 (own_xi p1))), .second, .unset, .unset, .unset, .unset, .unset, .unset, .unset, .unset] [(.double (own_xi p1)), (.double (own_x8 (own_xi p1))), (.double (4684954724523311104 : UInt64))]) (x := (own_x8 (own_xi p1))) (y := (own_xi p1)) (v := (own_d1 (own_xi p1))) (rest := [(.double (4684954724523311104 : UInt64))]) X5.here hx rfl (hb hby at_108) rfl (own_h_d1 hX).no rfl k) ?_
    refine OGoal.mp (S' := (T3.setTop (mkF m 110 #[.val (.int p1), .val (.long p2), .second, .val (.int p3), .val (.double (own_xi p1)), .second, .val (.double (own_s11 (own_xi p1))), .second, .val (.double (own_x2 (own_xi p1))), .second, .val (.double (own_n8 (own_xi p1))), .second, .val (.double (own_x4 (own_xi p1))), .second, .val (.double (own_x8 (own_xi p1))), .second, .unset, .unset, .unset, .unset, .unset, .unset, .unset, .unset] [(.double (own_d2 (own_xi p1)))]))) (fun _ k => XS.dmulS (g := mkF m 109 #[.val (.int p1), .val (.long p2), .second, .val (.int p3), .val (.double (own_xi p1)), .second, .val (.double (own_s11 (own_xi p1))), .second, .val (.double (own_x2 (own_xi p1))), .second, .val (.double (own_n8 (own_xi p1))), .second, .val (.double (own_x4 (own_xi p1))), .second, .val (.double (own_x8 (own_xi p1))), .second, .unset, .unset, .unset, .unset, .unset, .unset, .unset, .unset] [(.double (own_d1 (own_xi p1))), (.double (4684954724523311104 : UInt64))]) (x := (4684954724523311104 : UInt64)) (y := (own_d1 (own_xi p1))) (v := (own_d2 (own_xi p1))) (rest := []) X5.here hx rfl (hb hby at_109) rfl (own_h_d2 hX).no rfl k) ?_
    refine OGoal.mp (S' := (T3.setTop (mkF m 112 #[.val (.int p1), .val (.long p2), .second, .val (.int p3), .val (.double (own_xi p1)), .second, .val (.double (own_s11 (own_xi p1))), .second, .val (.double (own_x2 (own_xi p1))), .second, .val (.double (own_n8 (own_xi p1))), .second, .val (.double (own_x4 (own_xi p1))), .second, .val (.double (own_x8 (own_xi p1))), .second, .val (.double (own_d2 (own_xi p1))), .second, .unset, .unset, .unset, .unset, .unset, .unset] []))) (fun _ k => XS.dstore X5.here hx rfl (hb hby at_110) rfl (l' := #[.val (.int p1), .val (.long p2), .second, .val (.int p3), .val (.double (own_xi p1)), .second, .val (.double (own_s11 (own_xi p1))), .second, .val (.double (own_x2 (own_xi p1))), .second, .val (.double (own_n8 (own_xi p1))), .second, .val (.double (own_x4 (own_xi p1))), .second, .val (.double (own_x8 (own_xi p1))), .second, .val (.double (own_d2 (own_xi p1))), .second, .unset, .unset, .unset, .unset, .unset, .unset]) rfl k) ?_
    refine OGoal.mp (S' := (T3.setTop (mkF m 114 #[.val (.int p1), .val (.long p2), .second, .val (.int p3), .val (.double (own_xi p1)), .second, .val (.double (own_s11 (own_xi p1))), .second, .val (.double (own_x2 (own_xi p1))), .second, .val (.double (own_n8 (own_xi p1))), .second, .val (.double (own_x4 (own_xi p1))), .second, .val (.double (own_x8 (own_xi p1))), .second, .val (.double (own_d2 (own_xi p1))), .second, .unset, .unset, .unset, .unset, .unset, .unset] [(.double (own_n8 (own_xi p1)))]))) (fun _ k => XS.dload X5.here hx rfl (hb hby at_112) rfl k) ?_
    refine OGoal.mp (S' := (T3.setTop (mkF m 116 #[.val (.int p1), .val (.long p2), .second, .val (.int p3), .val (.double (own_xi p1)), .second, .val (.double (own_s11 (own_xi p1))), .second, .val (.double (own_x2 (own_xi p1))), .second, .val (.double (own_n8 (own_xi p1))), .second, .val (.double (own_x4 (own_xi p1))), .second, .val (.double (own_x8 (own_xi p1))), .second, .val (.double (own_d2 (own_xi p1))), .second, .unset, .unset, .unset, .unset, .unset, .unset] [(.double (own_d2 (own_xi p1))), (.double (own_n8 (own_xi p1)))]))) (fun _ k => XS.dload X5.here hx rfl (hb hby at_114) rfl k) ?_
    refine OGoal.mp (S' := (T3.setTop (mkF m 117 #[.val (.int p1), .val (.long p2), .second, .val (.int p3), .val (.double (own_xi p1)), .second, .val (.double (own_s11 (own_xi p1))), .second, .val (.double (own_x2 (own_xi p1))), .second, .val (.double (own_n8 (own_xi p1))), .second, .val (.double (own_x4 (own_xi p1))), .second, .val (.double (own_x8 (own_xi p1))), .second, .val (.double (own_d2 (own_xi p1))), .second, .unset, .unset, .unset, .unset, .unset, .unset] [(.double (own_ref (own_xi p1)))]))) (fun _ k => XS.ddivS (g := mkF m 116 #[.val (.int p1), .val (.long p2), .second, .val (.int p3), .val (.double (own_xi p1)), .second, .val (.double (own_s11 (own_xi p1))), .second, .val (.double (own_x2 (own_xi p1))), .second, .val (.double (own_n8 (own_xi p1))), .second, .val (.double (own_x4 (own_xi p1))), .second, .val (.double (own_x8 (own_xi p1))), .second, .val (.double (own_d2 (own_xi p1))), .second, .unset, .unset, .unset, .unset, .unset, .unset] [(.double (own_d2 (own_xi p1))), (.double (own_n8 (own_xi p1)))]) (x := (own_n8 (own_xi p1))) (y := (own_d2 (own_xi p1))) (v := (own_ref (own_xi p1))) (rest := []) X5.here hx rfl (hb hby at_116) rfl (own_h_ref hX).no rfl k) ?_
    refine OGoal.mp (S' := (T3.setTop (mkF m 119 #[.val (.int p1), .val (.long p2), .second, .val (.int p3), .val (.double (own_xi p1)), .second, .val (.double (own_s11 (own_xi p1))), .second, .val (.double (own_x2 (own_xi p1))), .second, .val (.double (own_n8 (own_xi p1))), .second, .val (.double (own_x4 (own_xi p1))), .second, .val (.double (own_x8 (own_xi p1))), .second, .val (.double (own_d2 (own_xi p1))), .second, .val (.double (own_ref (own_xi p1))), .second, .unset, .unset, .unset, .unset] []))) (fun _ k => XS.dstore X5.here hx rfl (hb hby at_117) rfl (l' := #[.val (.int p1), .val (.long p2), .second, .val (.int p3), .val (.double (own_xi p1)), .second, .val (.double (own_s11 (own_xi p1))), .second, .val (.double (own_x2 (own_xi p1))), .second, .val (.double (own_n8 (own_xi p1))), .second, .val (.double (own_x4 (own_xi p1))), .second, .val (.double (own_x8 (own_xi p1))), .second, .val (.double (own_d2 (own_xi p1))), .second, .val (.double (own_ref (own_xi p1))), .second, .unset, .unset, .unset, .unset]) rfl k) ?_
    refine OGoal.mp (S' := (T3.setTop (mkF m 121 #[.val (.int p1), .val (.long p2), .second, .val (.int p3), .val (.double (own_xi p1)), .second, .val (.double (own_s11 (own_xi p1))), .second, .val (.double (own_x2 (own_xi p1))), .second, .val (.double (own_n8 (own_xi p1))), .second, .val (.double (own_x4 (own_xi p1))), .second, .val (.double (own_x8 (own_xi p1))), .second, .val (.double (own_d2 (own_xi p1))), .second, .val (.double (own_ref (own_xi p1))), .second, .unset, .unset, .unset, .unset] [(.double (own_ref (own_xi p1)))]))) (fun _ k => XS.dload X5.here hx rfl (hb hby at_119) rfl k) ?_
    refine OGoal.mp (S' := (T3.setTop (mkF m 124 #[.val (.int p1), .val (.long p2), .second, .val (.int p3), .val (.double (own_xi p1)), .second, .val (.double (own_s11 (own_xi p1))), .second, .val (.double (own_x2 (own_xi p1))), .second, .val (.double (own_n8 (own_xi p1))), .second, .val (.double (own_x4 (own_xi p1))), .second, .val (.double (own_x8 (own_xi p1))), .second, .val (.double (own_d2 (own_xi p1))), .second, .val (.double (own_ref (own_xi p1))), .second, .unset, .unset, .unset, .unset] [(.double (4397347889687374747 : UInt64)), (.double (own_ref (own_xi p1)))]))) (fun _ k => X5.ldc2DoubleC hx hown (mvT hZ (hw _ (List.mem_of_getElem? (i := 18) rfl))) (g := mkF m 121 #[.val (.int p1), .val (.long p2), .second, .val (.int p3), .val (.double (own_xi p1)), .second, .val (.double (own_s11 (own_xi p1))), .second, .val (.double (own_x2 (own_xi p1))), .second, .val (.double (own_n8 (own_xi p1))), .second, .val (.double (own_x4 (own_xi p1))), .second, .val (.double (own_x8 (own_xi p1))), .second, .val (.double (own_d2 (own_xi p1))), .second, .val (.double (own_ref (own_xi p1))), .second, .unset, .unset, .unset, .unset] [(.double (own_ref (own_xi p1)))]) rfl (hb hby at_121) _ k) ?_
    refine OGoal.mp (S' := (T3.setTop (mkF m 125 #[.val (.int p1), .val (.long p2), .second, .val (.int p3), .val (.double (own_xi p1)), .second, .val (.double (own_s11 (own_xi p1))), .second, .val (.double (own_x2 (own_xi p1))), .second, .val (.double (own_n8 (own_xi p1))), .second, .val (.double (own_x4 (own_xi p1))), .second, .val (.double (own_x8 (own_xi p1))), .second, .val (.double (own_d2 (own_xi p1))), .second, .val (.double (own_ref (own_xi p1))), .second, .unset, .unset, .unset, .unset] [(.double (own_tol (own_xi p1)))]))) (fun _ k => XS.dmulS (g := mkF m 124 #[.val (.int p1), .val (.long p2), .second, .val (.int p3), .val (.double (own_xi p1)), .second, .val (.double (own_s11 (own_xi p1))), .second, .val (.double (own_x2 (own_xi p1))), .second, .val (.double (own_n8 (own_xi p1))), .second, .val (.double (own_x4 (own_xi p1))), .second, .val (.double (own_x8 (own_xi p1))), .second, .val (.double (own_d2 (own_xi p1))), .second, .val (.double (own_ref (own_xi p1))), .second, .unset, .unset, .unset, .unset] [(.double (4397347889687374747 : UInt64)), (.double (own_ref (own_xi p1)))]) (x := (own_ref (own_xi p1))) (y := (4397347889687374747 : UInt64)) (v := (own_tol (own_xi p1))) (rest := []) X5.here hx rfl (hb hby at_124) rfl (own_h_tol hX).no rfl k) ?_
    refine OGoal.mp (S' := (T3.setTop (mkF m 127 #[.val (.int p1), .val (.long p2), .second, .val (.int p3), .val (.double (own_xi p1)), .second, .val (.double (own_s11 (own_xi p1))), .second, .val (.double (own_x2 (own_xi p1))), .second, .val (.double (own_n8 (own_xi p1))), .second, .val (.double (own_x4 (own_xi p1))), .second, .val (.double (own_x8 (own_xi p1))), .second, .val (.double (own_d2 (own_xi p1))), .second, .val (.double (own_ref (own_xi p1))), .second, .val (.double (own_tol (own_xi p1))), .second, .unset, .unset] []))) (fun _ k => XS.dstore X5.here hx rfl (hb hby at_125) rfl (l' := #[.val (.int p1), .val (.long p2), .second, .val (.int p3), .val (.double (own_xi p1)), .second, .val (.double (own_s11 (own_xi p1))), .second, .val (.double (own_x2 (own_xi p1))), .second, .val (.double (own_n8 (own_xi p1))), .second, .val (.double (own_x4 (own_xi p1))), .second, .val (.double (own_x8 (own_xi p1))), .second, .val (.double (own_d2 (own_xi p1))), .second, .val (.double (own_ref (own_xi p1))), .second, .val (.double (own_tol (own_xi p1))), .second, .unset, .unset]) rfl k) ?_
    refine OGoal.mp (S' := (T3.setTop (mkF m 129 #[.val (.int p1), .val (.long p2), .second, .val (.int p3), .val (.double (own_xi p1)), .second, .val (.double (own_s11 (own_xi p1))), .second, .val (.double (own_x2 (own_xi p1))), .second, .val (.double (own_n8 (own_xi p1))), .second, .val (.double (own_x4 (own_xi p1))), .second, .val (.double (own_x8 (own_xi p1))), .second, .val (.double (own_d2 (own_xi p1))), .second, .val (.double (own_ref (own_xi p1))), .second, .val (.double (own_tol (own_xi p1))), .second, .unset, .unset] [(.double (own_s11 (own_xi p1)))]))) (fun _ k => XS.dload X5.here hx rfl (hb hby at_127) rfl k) ?_
    refine OGoal.mp (S' := (T3.setTop (mkF m 131 #[.val (.int p1), .val (.long p2), .second, .val (.int p3), .val (.double (own_xi p1)), .second, .val (.double (own_s11 (own_xi p1))), .second, .val (.double (own_x2 (own_xi p1))), .second, .val (.double (own_n8 (own_xi p1))), .second, .val (.double (own_x4 (own_xi p1))), .second, .val (.double (own_x8 (own_xi p1))), .second, .val (.double (own_d2 (own_xi p1))), .second, .val (.double (own_ref (own_xi p1))), .second, .val (.double (own_tol (own_xi p1))), .second, .unset, .unset] [(.double (own_ref (own_xi p1))), (.double (own_s11 (own_xi p1)))]))) (fun _ k => XS.dload X5.here hx rfl (hb hby at_129) rfl k) ?_
    refine OGoal.mp (S' := (T3.setTop (mkF m 132 #[.val (.int p1), .val (.long p2), .second, .val (.int p3), .val (.double (own_xi p1)), .second, .val (.double (own_s11 (own_xi p1))), .second, .val (.double (own_x2 (own_xi p1))), .second, .val (.double (own_n8 (own_xi p1))), .second, .val (.double (own_x4 (own_xi p1))), .second, .val (.double (own_x8 (own_xi p1))), .second, .val (.double (own_d2 (own_xi p1))), .second, .val (.double (own_ref (own_xi p1))), .second, .val (.double (own_tol (own_xi p1))), .second, .unset, .unset] [(.double (own_diff (own_xi p1)))]))) (fun _ k => XS.dsubS (g := mkF m 131 #[.val (.int p1), .val (.long p2), .second, .val (.int p3), .val (.double (own_xi p1)), .second, .val (.double (own_s11 (own_xi p1))), .second, .val (.double (own_x2 (own_xi p1))), .second, .val (.double (own_n8 (own_xi p1))), .second, .val (.double (own_x4 (own_xi p1))), .second, .val (.double (own_x8 (own_xi p1))), .second, .val (.double (own_d2 (own_xi p1))), .second, .val (.double (own_ref (own_xi p1))), .second, .val (.double (own_tol (own_xi p1))), .second, .unset, .unset] [(.double (own_ref (own_xi p1))), (.double (own_s11 (own_xi p1)))]) (x := (own_s11 (own_xi p1))) (y := (own_ref (own_xi p1))) (v := (own_diff (own_xi p1))) (rest := []) X5.here hx rfl (hb hby at_131) rfl (own_ndif hX) rfl k) ?_
    refine OGoal.mp (S' := (T3.setTop (mkF m 134 #[.val (.int p1), .val (.long p2), .second, .val (.int p3), .val (.double (own_xi p1)), .second, .val (.double (own_s11 (own_xi p1))), .second, .val (.double (own_x2 (own_xi p1))), .second, .val (.double (own_n8 (own_xi p1))), .second, .val (.double (own_x4 (own_xi p1))), .second, .val (.double (own_x8 (own_xi p1))), .second, .val (.double (own_d2 (own_xi p1))), .second, .val (.double (own_ref (own_xi p1))), .second, .val (.double (own_tol (own_xi p1))), .second, .val (.double (own_diff (own_xi p1))), .second] []))) (fun _ k => XS.dstore X5.here hx rfl (hb hby at_132) rfl (l' := #[.val (.int p1), .val (.long p2), .second, .val (.int p3), .val (.double (own_xi p1)), .second, .val (.double (own_s11 (own_xi p1))), .second, .val (.double (own_x2 (own_xi p1))), .second, .val (.double (own_n8 (own_xi p1))), .second, .val (.double (own_x4 (own_xi p1))), .second, .val (.double (own_x8 (own_xi p1))), .second, .val (.double (own_d2 (own_xi p1))), .second, .val (.double (own_ref (own_xi p1))), .second, .val (.double (own_tol (own_xi p1))), .second, .val (.double (own_diff (own_xi p1))), .second]) rfl k) ?_
    refine OGoal.mp (S' := (T3.setTop (mkF m 136 #[.val (.int p1), .val (.long p2), .second, .val (.int p3), .val (.double (own_xi p1)), .second, .val (.double (own_s11 (own_xi p1))), .second, .val (.double (own_x2 (own_xi p1))), .second, .val (.double (own_n8 (own_xi p1))), .second, .val (.double (own_x4 (own_xi p1))), .second, .val (.double (own_x8 (own_xi p1))), .second, .val (.double (own_d2 (own_xi p1))), .second, .val (.double (own_ref (own_xi p1))), .second, .val (.double (own_tol (own_xi p1))), .second, .val (.double (own_diff (own_xi p1))), .second] [(.double (own_ref (own_xi p1)))]))) (fun _ k => XS.dload X5.here hx rfl (hb hby at_134) rfl k) ?_
    refine OGoal.mp (S' := (T3.setTop (mkF m 137 #[.val (.int p1), .val (.long p2), .second, .val (.int p3), .val (.double (own_xi p1)), .second, .val (.double (own_s11 (own_xi p1))), .second, .val (.double (own_x2 (own_xi p1))), .second, .val (.double (own_n8 (own_xi p1))), .second, .val (.double (own_x4 (own_xi p1))), .second, .val (.double (own_x8 (own_xi p1))), .second, .val (.double (own_d2 (own_xi p1))), .second, .val (.double (own_ref (own_xi p1))), .second, .val (.double (own_tol (own_xi p1))), .second, .val (.double (own_diff (own_xi p1))), .second] [(.double (0 : UInt64)), (.double (own_ref (own_xi p1)))]))) (fun _ k => XS.dconst0 X5.here hx rfl (hb hby at_136) rfl k) ?_
    refine OGoal.mp (S' := (T3.setTop (mkF m 138 #[.val (.int p1), .val (.long p2), .second, .val (.int p3), .val (.double (own_xi p1)), .second, .val (.double (own_s11 (own_xi p1))), .second, .val (.double (own_x2 (own_xi p1))), .second, .val (.double (own_n8 (own_xi p1))), .second, .val (.double (own_x4 (own_xi p1))), .second, .val (.double (own_x8 (own_xi p1))), .second, .val (.double (own_d2 (own_xi p1))), .second, .val (.double (own_ref (own_xi p1))), .second, .val (.double (own_tol (own_xi p1))), .second, .val (.double (own_diff (own_xi p1))), .second] [(.int (1 : Int32))]))) (fun _ k => XS.dcmpS (g := mkF m 137 #[.val (.int p1), .val (.long p2), .second, .val (.int p3), .val (.double (own_xi p1)), .second, .val (.double (own_s11 (own_xi p1))), .second, .val (.double (own_x2 (own_xi p1))), .second, .val (.double (own_n8 (own_xi p1))), .second, .val (.double (own_x4 (own_xi p1))), .second, .val (.double (own_x8 (own_xi p1))), .second, .val (.double (own_d2 (own_xi p1))), .second, .val (.double (own_ref (own_xi p1))), .second, .val (.double (own_tol (own_xi p1))), .second, .val (.double (own_diff (own_xi p1))), .second] [(.double (0 : UInt64)), (.double (own_ref (own_xi p1)))]) (o := .l) (x := (own_ref (own_xi p1))) (y := (0 : UInt64)) (v := (1 : Int32)) (rest := []) X5.here hx rfl (hb hby at_137) rfl (own_c1 hX) k) ?_
    refine OGoal.mp (S' := (T3.setTop (mkF m 141 #[.val (.int p1), .val (.long p2), .second, .val (.int p3), .val (.double (own_xi p1)), .second, .val (.double (own_s11 (own_xi p1))), .second, .val (.double (own_x2 (own_xi p1))), .second, .val (.double (own_n8 (own_xi p1))), .second, .val (.double (own_x4 (own_xi p1))), .second, .val (.double (own_x8 (own_xi p1))), .second, .val (.double (own_d2 (own_xi p1))), .second, .val (.double (own_ref (own_xi p1))), .second, .val (.double (own_tol (own_xi p1))), .second, .val (.double (own_diff (own_xi p1))), .second] []))) (fun _ k => XS.ifNo X5.here hx rfl (hb hby at_138) rfl (XT.i0_le_f (by decide)) k) ?_
    refine OGoal.mp (S' := (T3.setTop (mkF m 143 #[.val (.int p1), .val (.long p2), .second, .val (.int p3), .val (.double (own_xi p1)), .second, .val (.double (own_s11 (own_xi p1))), .second, .val (.double (own_x2 (own_xi p1))), .second, .val (.double (own_n8 (own_xi p1))), .second, .val (.double (own_x4 (own_xi p1))), .second, .val (.double (own_x8 (own_xi p1))), .second, .val (.double (own_d2 (own_xi p1))), .second, .val (.double (own_ref (own_xi p1))), .second, .val (.double (own_tol (own_xi p1))), .second, .val (.double (own_diff (own_xi p1))), .second] [(.double (own_diff (own_xi p1)))]))) (fun _ k => XS.dload X5.here hx rfl (hb hby at_141) rfl k) ?_
    refine OGoal.mp (S' := (T3.setTop (mkF m 145 #[.val (.int p1), .val (.long p2), .second, .val (.int p3), .val (.double (own_xi p1)), .second, .val (.double (own_s11 (own_xi p1))), .second, .val (.double (own_x2 (own_xi p1))), .second, .val (.double (own_n8 (own_xi p1))), .second, .val (.double (own_x4 (own_xi p1))), .second, .val (.double (own_x8 (own_xi p1))), .second, .val (.double (own_d2 (own_xi p1))), .second, .val (.double (own_ref (own_xi p1))), .second, .val (.double (own_tol (own_xi p1))), .second, .val (.double (own_diff (own_xi p1))), .second] [(.double (own_tol (own_xi p1))), (.double (own_diff (own_xi p1)))]))) (fun _ k => XS.dload X5.here hx rfl (hb hby at_143) rfl k) ?_
    refine OGoal.mp (S' := (T3.setTop (mkF m 146 #[.val (.int p1), .val (.long p2), .second, .val (.int p3), .val (.double (own_xi p1)), .second, .val (.double (own_s11 (own_xi p1))), .second, .val (.double (own_x2 (own_xi p1))), .second, .val (.double (own_n8 (own_xi p1))), .second, .val (.double (own_x4 (own_xi p1))), .second, .val (.double (own_x8 (own_xi p1))), .second, .val (.double (own_d2 (own_xi p1))), .second, .val (.double (own_ref (own_xi p1))), .second, .val (.double (own_tol (own_xi p1))), .second, .val (.double (own_diff (own_xi p1))), .second] [(.int (cmpValue (FP.dcmp (own_diff (own_xi p1)) (own_tol (own_xi p1))) .g))]))) (fun _ k => XS.dcmpS (g := mkF m 145 #[.val (.int p1), .val (.long p2), .second, .val (.int p3), .val (.double (own_xi p1)), .second, .val (.double (own_s11 (own_xi p1))), .second, .val (.double (own_x2 (own_xi p1))), .second, .val (.double (own_n8 (own_xi p1))), .second, .val (.double (own_x4 (own_xi p1))), .second, .val (.double (own_x8 (own_xi p1))), .second, .val (.double (own_d2 (own_xi p1))), .second, .val (.double (own_ref (own_xi p1))), .second, .val (.double (own_tol (own_xi p1))), .second, .val (.double (own_diff (own_xi p1))), .second] [(.double (own_tol (own_xi p1))), (.double (own_diff (own_xi p1)))]) (o := .g) (x := (own_diff (own_xi p1))) (y := (own_tol (own_xi p1))) (v := (cmpValue (FP.dcmp (own_diff (own_xi p1)) (own_tol (own_xi p1))) .g)) (rest := []) X5.here hx rfl (hb hby at_145) rfl rfl k) ?_
    refine OGoal.mp (S' := (T3.setTop (mkF m 149 #[.val (.int p1), .val (.long p2), .second, .val (.int p3), .val (.double (own_xi p1)), .second, .val (.double (own_s11 (own_xi p1))), .second, .val (.double (own_x2 (own_xi p1))), .second, .val (.double (own_n8 (own_xi p1))), .second, .val (.double (own_x4 (own_xi p1))), .second, .val (.double (own_x8 (own_xi p1))), .second, .val (.double (own_d2 (own_xi p1))), .second, .val (.double (own_ref (own_xi p1))), .second, .val (.double (own_tol (own_xi p1))), .second, .val (.double (own_diff (own_xi p1))), .second] []))) (fun _ k => XS.ifNo X5.here hx rfl (hb hby at_146) rfl (XT.i0_gt_f (own_c2 hX)) k) ?_
    refine OGoal.mp (S' := (T3.setTop (mkF m 151 #[.val (.int p1), .val (.long p2), .second, .val (.int p3), .val (.double (own_xi p1)), .second, .val (.double (own_s11 (own_xi p1))), .second, .val (.double (own_x2 (own_xi p1))), .second, .val (.double (own_n8 (own_xi p1))), .second, .val (.double (own_x4 (own_xi p1))), .second, .val (.double (own_x8 (own_xi p1))), .second, .val (.double (own_d2 (own_xi p1))), .second, .val (.double (own_ref (own_xi p1))), .second, .val (.double (own_tol (own_xi p1))), .second, .val (.double (own_diff (own_xi p1))), .second] [(.double (own_diff (own_xi p1)))]))) (fun _ k => XS.dload X5.here hx rfl (hb hby at_149) rfl k) ?_
    refine OGoal.mp (S' := (T3.setTop (mkF m 152 #[.val (.int p1), .val (.long p2), .second, .val (.int p3), .val (.double (own_xi p1)), .second, .val (.double (own_s11 (own_xi p1))), .second, .val (.double (own_x2 (own_xi p1))), .second, .val (.double (own_n8 (own_xi p1))), .second, .val (.double (own_x4 (own_xi p1))), .second, .val (.double (own_x8 (own_xi p1))), .second, .val (.double (own_d2 (own_xi p1))), .second, .val (.double (own_ref (own_xi p1))), .second, .val (.double (own_tol (own_xi p1))), .second, .val (.double (own_diff (own_xi p1))), .second] [(.double (own_ndiff (own_xi p1)))]))) (fun _ k => XS.dnegS (g := mkF m 151 #[.val (.int p1), .val (.long p2), .second, .val (.int p3), .val (.double (own_xi p1)), .second, .val (.double (own_s11 (own_xi p1))), .second, .val (.double (own_x2 (own_xi p1))), .second, .val (.double (own_n8 (own_xi p1))), .second, .val (.double (own_x4 (own_xi p1))), .second, .val (.double (own_x8 (own_xi p1))), .second, .val (.double (own_d2 (own_xi p1))), .second, .val (.double (own_ref (own_xi p1))), .second, .val (.double (own_tol (own_xi p1))), .second, .val (.double (own_diff (own_xi p1))), .second] [(.double (own_diff (own_xi p1)))]) (x := (own_diff (own_xi p1))) (v := (own_ndiff (own_xi p1))) (rest := []) X5.here hx rfl (hb hby at_151) rfl rfl k) ?_
    refine OGoal.mp (S' := (T3.setTop (mkF m 154 #[.val (.int p1), .val (.long p2), .second, .val (.int p3), .val (.double (own_xi p1)), .second, .val (.double (own_s11 (own_xi p1))), .second, .val (.double (own_x2 (own_xi p1))), .second, .val (.double (own_n8 (own_xi p1))), .second, .val (.double (own_x4 (own_xi p1))), .second, .val (.double (own_x8 (own_xi p1))), .second, .val (.double (own_d2 (own_xi p1))), .second, .val (.double (own_ref (own_xi p1))), .second, .val (.double (own_tol (own_xi p1))), .second, .val (.double (own_diff (own_xi p1))), .second] [(.double (own_tol (own_xi p1))), (.double (own_ndiff (own_xi p1)))]))) (fun _ k => XS.dload X5.here hx rfl (hb hby at_152) rfl k) ?_
    refine OGoal.mp (S' := (T3.setTop (mkF m 155 #[.val (.int p1), .val (.long p2), .second, .val (.int p3), .val (.double (own_xi p1)), .second, .val (.double (own_s11 (own_xi p1))), .second, .val (.double (own_x2 (own_xi p1))), .second, .val (.double (own_n8 (own_xi p1))), .second, .val (.double (own_x4 (own_xi p1))), .second, .val (.double (own_x8 (own_xi p1))), .second, .val (.double (own_d2 (own_xi p1))), .second, .val (.double (own_ref (own_xi p1))), .second, .val (.double (own_tol (own_xi p1))), .second, .val (.double (own_diff (own_xi p1))), .second] [(.int (cmpValue (FP.dcmp (own_ndiff (own_xi p1)) (own_tol (own_xi p1))) .g))]))) (fun _ k => XS.dcmpS (g := mkF m 154 #[.val (.int p1), .val (.long p2), .second, .val (.int p3), .val (.double (own_xi p1)), .second, .val (.double (own_s11 (own_xi p1))), .second, .val (.double (own_x2 (own_xi p1))), .second, .val (.double (own_n8 (own_xi p1))), .second, .val (.double (own_x4 (own_xi p1))), .second, .val (.double (own_x8 (own_xi p1))), .second, .val (.double (own_d2 (own_xi p1))), .second, .val (.double (own_ref (own_xi p1))), .second, .val (.double (own_tol (own_xi p1))), .second, .val (.double (own_diff (own_xi p1))), .second] [(.double (own_tol (own_xi p1))), (.double (own_ndiff (own_xi p1)))]) (o := .g) (x := (own_ndiff (own_xi p1))) (y := (own_tol (own_xi p1))) (v := (cmpValue (FP.dcmp (own_ndiff (own_xi p1)) (own_tol (own_xi p1))) .g)) (rest := []) X5.here hx rfl (hb hby at_154) rfl rfl k) ?_
    refine OGoal.mp (S' := (T3.setTop (mkF m 158 #[.val (.int p1), .val (.long p2), .second, .val (.int p3), .val (.double (own_xi p1)), .second, .val (.double (own_s11 (own_xi p1))), .second, .val (.double (own_x2 (own_xi p1))), .second, .val (.double (own_n8 (own_xi p1))), .second, .val (.double (own_x4 (own_xi p1))), .second, .val (.double (own_x8 (own_xi p1))), .second, .val (.double (own_d2 (own_xi p1))), .second, .val (.double (own_ref (own_xi p1))), .second, .val (.double (own_tol (own_xi p1))), .second, .val (.double (own_diff (own_xi p1))), .second] []))) (fun _ k => XS.ifNo X5.here hx rfl (hb hby at_155) rfl (XT.i0_gt_f (own_c3 hX)) k) ?_
    refine OGoal.mp (S' := (T3.setTop (mkF m 159 #[.val (.int p1), .val (.long p2), .second, .val (.int p3), .val (.double (own_xi p1)), .second, .val (.double (own_s11 (own_xi p1))), .second, .val (.double (own_x2 (own_xi p1))), .second, .val (.double (own_n8 (own_xi p1))), .second, .val (.double (own_x4 (own_xi p1))), .second, .val (.double (own_x8 (own_xi p1))), .second, .val (.double (own_d2 (own_xi p1))), .second, .val (.double (own_ref (own_xi p1))), .second, .val (.double (own_tol (own_xi p1))), .second, .val (.double (own_diff (own_xi p1))), .second] [(.int (1 : Int32))]))) (fun _ k => XS.iconst X5.here hx rfl (hb hby at_158) k) ?_
    refine OGoal.mp (S' := (T3.setTop (mkF m 163 #[.val (.int p1), .val (.long p2), .second, .val (.int p3), .val (.double (own_xi p1)), .second, .val (.double (own_s11 (own_xi p1))), .second, .val (.double (own_x2 (own_xi p1))), .second, .val (.double (own_n8 (own_xi p1))), .second, .val (.double (own_x4 (own_xi p1))), .second, .val (.double (own_x8 (own_xi p1))), .second, .val (.double (own_d2 (own_xi p1))), .second, .val (.double (own_ref (own_xi p1))), .second, .val (.double (own_tol (own_xi p1))), .second, .val (.double (own_diff (own_xi p1))), .second] [(.int (1 : Int32))]))) (fun _ k => XS.goto X5.here hx rfl (pc0 := 159) (pc' := 163) rfl (hb hby at_159) (by decide) (by decide) k) ?_
    refine oRetZ X5 hx hlk hret (Or.inr rfl) (hb hby at_163) ?_ (by decide) (by decide)
    exact ⟨rfl, N9⟩
  · refine OGoal.mp (S' := (s₁.setTop (mkF m 24 #[.val (.int p1), .val (.long p2), .second, .val (.int p3), .unset, .unset, .unset, .unset, .unset, .unset, .unset, .unset, .unset, .unset, .unset, .unset, .unset, .unset, .unset, .unset, .unset, .unset, .unset, .unset] []))) (fun _ k => XS.ifYes X0.here hx rfl (pc0 := 3) (pc' := 24) rfl (hb hby at_3) rfl (XT.i0_ne_t hc1) (by decide) (by decide) k) ?_
    refine OGoal.mp (S' := (s₁.setTop (mkF m 27 #[.val (.int p1), .val (.long p2), .second, .val (.int p3), .unset, .unset, .unset, .unset, .unset, .unset, .unset, .unset, .unset, .unset, .unset, .unset, .unset, .unset, .unset, .unset, .unset, .unset, .unset, .unset] [(.long (160 : Int64))]))) (fun _ k => Stand.ldc2J X0 hx hown (mvT hZ (hw _ (List.mem_of_getElem? (i := 0) rfl))) rfl (hb hby at_24) k) ?_
    refine OGoal.mp (S' := (s₁.setTop (mkF m 28 #[.val (.int p1), .val (.long p2), .second, .val (.int p3), .unset, .unset, .unset, .unset, .unset, .unset, .unset, .unset, .unset, .unset, .unset, .unset, .unset, .unset, .unset, .unset, .unset, .unset, .unset, .unset] [(.long p2), (.long (160 : Int64))]))) (fun _ k => XT.lloadN X0.here hx rfl (hb hby at_27) rfl k) ?_
    refine OGoal.mp (S' := (s₁.setTop (mkF m 31 #[.val (.int p1), .val (.long p2), .second, .val (.int p3), .unset, .unset, .unset, .unset, .unset, .unset, .unset, .unset, .unset, .unset, .unset, .unset, .unset, .unset, .unset, .unset, .unset, .unset, .unset, .unset] [(.long (4611686018427387903 : Int64)), (.long p2), (.long (160 : Int64))]))) (fun _ k => Stand.ldc2J X0 hx hown (mvT hZ (hw _ (List.mem_of_getElem? (i := 1) rfl))) rfl (hb hby at_28) k) ?_
    refine OGoal.mp (S' := (s₁.setTop (mkF m 32 #[.val (.int p1), .val (.long p2), .second, .val (.int p3), .unset, .unset, .unset, .unset, .unset, .unset, .unset, .unset, .unset, .unset, .unset, .unset, .unset, .unset, .unset, .unset, .unset, .unset, .unset, .unset] [(.long (p2 &&& (4611686018427387903 : Int64))), (.long (160 : Int64))]))) (fun _ k => XT.land X0.here hx rfl (hb hby at_31) rfl k) ?_
    refine OGoal.mp (S' := (s₁.setTop (mkF m 33 #[.val (.int p1), .val (.long p2), .second, .val (.int p3), .unset, .unset, .unset, .unset, .unset, .unset, .unset, .unset, .unset, .unset, .unset, .unset, .unset, .unset, .unset, .unset, .unset, .unset, .unset, .unset] [(.long ((160 : Int64) + (p2 &&& (4611686018427387903 : Int64))))]))) (fun _ k => XT.ladd X0.here hx rfl (hb hby at_32) rfl k) ?_
    refine OGoal.mp (S' := (s₁.setTop (mkF m 34 #[.val (.int p1), .val (.long p2), .second, .val (.int p3), .unset, .unset, .unset, .unset, .unset, .unset, .unset, .unset, .unset, .unset, .unset, .unset, .unset, .unset, .unset, .unset, .unset, .unset, .unset, .unset] [(.double (FP.l2d ((160 : Int64) + (p2 &&& (4611686018427387903 : Int64)))))]))) (fun _ k => XS.l2dS X0.here hx rfl (hb hby at_33) rfl rfl k) ?_
    refine OGoal.mp (S' := (s₁.setTop (mkF m 37 #[.val (.int p1), .val (.long p2), .second, .val (.int p3), .unset, .unset, .unset, .unset, .unset, .unset, .unset, .unset, .unset, .unset, .unset, .unset, .unset, .unset, .unset, .unset, .unset, .unset, .unset, .unset] [(.double (4625196817309499392 : UInt64)), (.double (FP.l2d ((160 : Int64) + (p2 &&& (4611686018427387903 : Int64)))))]))) (fun _ k => X0.ldc2DoubleC hx hown (mvT hZ (hw _ (List.mem_of_getElem? (i := 2) rfl))) (g := mkF m 34 #[.val (.int p1), .val (.long p2), .second, .val (.int p3), .unset, .unset, .unset, .unset, .unset, .unset, .unset, .unset, .unset, .unset, .unset, .unset, .unset, .unset, .unset, .unset, .unset, .unset, .unset, .unset] [(.double (FP.l2d ((160 : Int64) + (p2 &&& (4611686018427387903 : Int64)))))]) rfl (hb hby at_34) _ k) ?_
    obtain ⟨X, hX⟩ := own_dxl p2
    refine OGoal.mp (S' := (s₁.setTop (mkF m 38 #[.val (.int p1), .val (.long p2), .second, .val (.int p3), .unset, .unset, .unset, .unset, .unset, .unset, .unset, .unset, .unset, .unset, .unset, .unset, .unset, .unset, .unset, .unset, .unset, .unset, .unset, .unset] [(.double (own_xl p2))]))) (fun _ k => XS.ddivS (g := mkF m 37 #[.val (.int p1), .val (.long p2), .second, .val (.int p3), .unset, .unset, .unset, .unset, .unset, .unset, .unset, .unset, .unset, .unset, .unset, .unset, .unset, .unset, .unset, .unset, .unset, .unset, .unset, .unset] [(.double (4625196817309499392 : UInt64)), (.double (FP.l2d ((160 : Int64) + (p2 &&& (4611686018427387903 : Int64)))))]) (x := (FP.l2d ((160 : Int64) + (p2 &&& (4611686018427387903 : Int64))))) (y := (4625196817309499392 : UInt64)) (v := (own_xl p2)) (rest := []) X0.here hx rfl (hb hby at_37) rfl hX.no rfl k) ?_
    refine OGoal.mp (S' := (s₁.setTop (mkF m 40 #[.val (.int p1), .val (.long p2), .second, .val (.int p3), .val (.double (own_xl p2)), .second, .unset, .unset, .unset, .unset, .unset, .unset, .unset, .unset, .unset, .unset, .unset, .unset, .unset, .unset, .unset, .unset, .unset, .unset] []))) (fun _ k => XS.dstore X0.here hx rfl (hb hby at_38) rfl (l' := #[.val (.int p1), .val (.long p2), .second, .val (.int p3), .val (.double (own_xl p2)), .second, .unset, .unset, .unset, .unset, .unset, .unset, .unset, .unset, .unset, .unset, .unset, .unset, .unset, .unset, .unset, .unset, .unset, .unset]) rfl k) ?_
    refine OGoal.mp (S' := (s₁.setTop (mkF m 42 #[.val (.int p1), .val (.long p2), .second, .val (.int p3), .val (.double (own_xl p2)), .second, .unset, .unset, .unset, .unset, .unset, .unset, .unset, .unset, .unset, .unset, .unset, .unset, .unset, .unset, .unset, .unset, .unset, .unset] [(.double (own_xl p2))]))) (fun _ k => XS.dload X0.here hx rfl (hb hby at_40) rfl k) ?_
    refine oCallS (y := (⟨"com/example/andesite/andesite/model/PortableMath", "stirlingSeries", "(D)D"⟩ : MethodName)) X0 hx hZ hown (hw _ (List.mem_of_getElem? (i := 3) rfl)) (hw _ (List.mem_of_getElem? (i := 4) rfl)) (hw _ (List.mem_of_getElem? (i := 5) rfl)) (hw _ (List.mem_of_getElem? (i := 6) rfl)) (by decide) (rmS l Z a0 hw (own_xl p2) X h0 n0 Z0 hX) e0 [(.double (own_xl p2))] [] rfl rfl (by rw [hml]; rfl) (lenOf own_pd__D_D rfl) 0 (Nat.le_of_eq rfl) (by decide) (by decide) (by decide) (by decide) (hb hby at_42) ?_
    intro v10 T11 L12 X13 q14
    obtain ⟨rfl, N15, e16⟩ := q14
    have N17 := Fr.app (Fr.nil n0) N15
    show OGoal p e below s _ _ _ (T11.setTop (mkF m 45 #[.val (.int p1), .val (.long p2), .second, .val (.int p3), .val (.double (own_xl p2)), .second, .unset, .unset, .unset, .unset, .unset, .unset, .unset, .unset, .unset, .unset, .unset, .unset, .unset, .unset, .unset, .unset, .unset, .unset] [(.double (own_s11 (own_xl p2)))]))
    refine OGoal.mp (S' := (T11.setTop (mkF m 47 #[.val (.int p1), .val (.long p2), .second, .val (.int p3), .val (.double (own_xl p2)), .second, .val (.double (own_s11 (own_xl p2))), .second, .unset, .unset, .unset, .unset, .unset, .unset, .unset, .unset, .unset, .unset, .unset, .unset, .unset, .unset, .unset, .unset] []))) (fun _ k => XS.dstore X13.here hx rfl (hb hby at_45) rfl (l' := #[.val (.int p1), .val (.long p2), .second, .val (.int p3), .val (.double (own_xl p2)), .second, .val (.double (own_s11 (own_xl p2))), .second, .unset, .unset, .unset, .unset, .unset, .unset, .unset, .unset, .unset, .unset, .unset, .unset, .unset, .unset, .unset, .unset]) rfl k) ?_
    refine OGoal.mp (S' := (T11.setTop (mkF m 49 #[.val (.int p1), .val (.long p2), .second, .val (.int p3), .val (.double (own_xl p2)), .second, .val (.double (own_s11 (own_xl p2))), .second, .unset, .unset, .unset, .unset, .unset, .unset, .unset, .unset, .unset, .unset, .unset, .unset, .unset, .unset, .unset, .unset] [(.double (own_xl p2))]))) (fun _ k => XS.dload X13.here hx rfl (hb hby at_47) rfl k) ?_
    refine OGoal.mp (S' := (T11.setTop (mkF m 51 #[.val (.int p1), .val (.long p2), .second, .val (.int p3), .val (.double (own_xl p2)), .second, .val (.double (own_s11 (own_xl p2))), .second, .unset, .unset, .unset, .unset, .unset, .unset, .unset, .unset, .unset, .unset, .unset, .unset, .unset, .unset, .unset, .unset] [(.double (own_xl p2)), (.double (own_xl p2))]))) (fun _ k => XS.dload X13.here hx rfl (hb hby at_49) rfl k) ?_
    refine OGoal.mp (S' := (T11.setTop (mkF m 52 #[.val (.int p1), .val (.long p2), .second, .val (.int p3), .val (.double (own_xl p2)), .second, .val (.double (own_s11 (own_xl p2))), .second, .unset, .unset, .unset, .unset, .unset, .unset, .unset, .unset, .unset, .unset, .unset, .unset, .unset, .unset, .unset, .unset] [(.double (own_x2 (own_xl p2)))]))) (fun _ k => XS.dmulS (g := mkF m 51 #[.val (.int p1), .val (.long p2), .second, .val (.int p3), .val (.double (own_xl p2)), .second, .val (.double (own_s11 (own_xl p2))), .second, .unset, .unset, .unset, .unset, .unset, .unset, .unset, .unset, .unset, .unset, .unset, .unset, .unset, .unset, .unset, .unset] [(.double (own_xl p2)), (.double (own_xl p2))]) (x := (own_xl p2)) (y := (own_xl p2)) (v := (own_x2 (own_xl p2))) (rest := []) X13.here hx rfl (hb hby at_51) rfl (own_h_x2 hX).no rfl k) ?_
    refine OGoal.mp (S' := (T11.setTop (mkF m 54 #[.val (.int p1), .val (.long p2), .second, .val (.int p3), .val (.double (own_xl p2)), .second, .val (.double (own_s11 (own_xl p2))), .second, .val (.double (own_x2 (own_xl p2))), .second, .unset, .unset, .unset, .unset, .unset, .unset, .unset, .unset, .unset, .unset, .unset, .unset, .unset, .unset] []))) (fun _ k => XS.dstore X13.here hx rfl (hb hby at_52) rfl (l' := #[.val (.int p1), .val (.long p2), .second, .val (.int p3), .val (.double (own_xl p2)), .second, .val (.double (own_s11 (own_xl p2))), .second, .val (.double (own_x2 (own_xl p2))), .second, .unset, .unset, .unset, .unset, .unset, .unset, .unset, .unset, .unset, .unset, .unset, .unset, .unset, .unset]) rfl k) ?_
    refine OGoal.mp (S' := (T11.setTop (mkF m 57 #[.val (.int p1), .val (.long p2), .second, .val (.int p3), .val (.double (own_xl p2)), .second, .val (.double (own_s11 (own_xl p2))), .second, .val (.double (own_x2 (own_xl p2))), .second, .unset, .unset, .unset, .unset, .unset, .unset, .unset, .unset, .unset, .unset, .unset, .unset, .unset, .unset] [(.double (4668845229908951040 : UInt64))]))) (fun _ k => X13.ldc2DoubleC hx hown (mvT hZ (hw _ (List.mem_of_getElem? (i := 12) rfl))) (g := mkF m 54 #[.val (.int p1), .val (.long p2), .second, .val (.int p3), .val (.double (own_xl p2)), .second, .val (.double (own_s11 (own_xl p2))), .second, .val (.double (own_x2 (own_xl p2))), .second, .unset, .unset, .unset, .unset, .unset, .unset, .unset, .unset, .unset, .unset, .unset, .unset, .unset, .unset] []) rfl (hb hby at_54) _ k) ?_
    refine OGoal.mp (S' := (T11.setTop (mkF m 59 #[.val (.int p1), .val (.long p2), .second, .val (.int p3), .val (.double (own_xl p2)), .second, .val (.double (own_s11 (own_xl p2))), .second, .val (.double (own_x2 (own_xl p2))), .second, .unset, .unset, .unset, .unset, .unset, .unset, .unset, .unset, .unset, .unset, .unset, .unset, .unset, .unset] [(.double (own_x2 (own_xl p2))), (.double (4668845229908951040 : UInt64))]))) (fun _ k => XS.dload X13.here hx rfl (hb hby at_57) rfl k) ?_
    refine OGoal.mp (S' := (T11.setTop (mkF m 60 #[.val (.int p1), .val (.long p2), .second, .val (.int p3), .val (.double (own_xl p2)), .second, .val (.double (own_s11 (own_xl p2))), .second, .val (.double (own_x2 (own_xl p2))), .second, .unset, .unset, .unset, .unset, .unset, .unset, .unset, .unset, .unset, .unset, .unset, .unset, .unset, .unset] [(.double (own_n1 (own_xl p2)))]))) (fun _ k => XS.dmulS (g := mkF m 59 #[.val (.int p1), .val (.long p2), .second, .val (.int p3), .val (.double (own_xl p2)), .second, .val (.double (own_s11 (own_xl p2))), .second, .val (.double (own_x2 (own_xl p2))), .second, .unset, .unset, .unset, .unset, .unset, .unset, .unset, .unset, .unset, .unset, .unset, .unset, .unset, .unset] [(.double (own_x2 (own_xl p2))), (.double (4668845229908951040 : UInt64))]) (x := (4668845229908951040 : UInt64)) (y := (own_x2 (own_xl p2))) (v := (own_n1 (own_xl p2))) (rest := []) X13.here hx rfl (hb hby at_59) rfl (own_h_n1 hX).no rfl k) ?_
    refine OGoal.mp (S' := (T11.setTop (mkF m 63 #[.val (.int p1), .val (.long p2), .second, .val (.int p3), .val (.double (own_xl p2)), .second, .val (.double (own_s11 (own_xl p2))), .second, .val (.double (own_x2 (own_xl p2))), .second, .unset, .unset, .unset, .unset, .unset, .unset, .unset, .unset, .unset, .unset, .unset, .unset, .unset, .unset] [(.double (4646835206144131072 : UInt64)), (.double (own_n1 (own_xl p2)))]))) (fun _ k => X13.ldc2DoubleC hx hown (mvT hZ (hw _ (List.mem_of_getElem? (i := 13) rfl))) (g := mkF m 60 #[.val (.int p1), .val (.long p2), .second, .val (.int p3), .val (.double (own_xl p2)), .second, .val (.double (own_s11 (own_xl p2))), .second, .val (.double (own_x2 (own_xl p2))), .second, .unset, .unset, .unset, .unset, .unset, .unset, .unset, .unset, .unset, .unset, .unset, .unset, .unset, .unset] [(.double (own_n1 (own_xl p2)))]) rfl (hb hby at_60) _ k) ?_
    refine OGoal.mp (S' := (T11.setTop (mkF m 64 #[.val (.int p1), .val (.long p2), .second, .val (.int p3), .val (.double (own_xl p2)), .second, .val (.double (own_s11 (own_xl p2))), .second, .val (.double (own_x2 (own_xl p2))), .second, .unset, .unset, .unset, .unset, .unset, .unset, .unset, .unset, .unset, .unset, .unset, .unset, .unset, .unset] [(.double (own_n2 (own_xl p2)))]))) (fun _ k => XS.dsubS (g := mkF m 63 #[.val (.int p1), .val (.long p2), .second, .val (.int p3), .val (.double (own_xl p2)), .second, .val (.double (own_s11 (own_xl p2))), .second, .val (.double (own_x2 (own_xl p2))), .second, .unset, .unset, .unset, .unset, .unset, .unset, .unset, .unset, .unset, .unset, .unset, .unset, .unset, .unset] [(.double (4646835206144131072 : UInt64)), (.double (own_n1 (own_xl p2)))]) (x := (own_n1 (own_xl p2))) (y := (4646835206144131072 : UInt64)) (v := (own_n2 (own_xl p2))) (rest := []) X13.here hx rfl (hb hby at_63) rfl (own_h_n2 hX).no rfl k) ?_
    refine OGoal.mp (S' := (T11.setTop (mkF m 66 #[.val (.int p1), .val (.long p2), .second, .val (.int p3), .val (.double (own_xl p2)), .second, .val (.double (own_s11 (own_xl p2))), .second, .val (.double (own_x2 (own_xl p2))), .second, .unset, .unset, .unset, .unset, .unset, .unset, .unset, .unset, .unset, .unset, .unset, .unset, .unset, .unset] [(.double (own_x2 (own_xl p2))), (.double (own_n2 (own_xl p2)))]))) (fun _ k => XS.dload X13.here hx rfl (hb hby at_64) rfl k) ?_
    refine OGoal.mp (S' := (T11.setTop (mkF m 67 #[.val (.int p1), .val (.long p2), .second, .val (.int p3), .val (.double (own_xl p2)), .second, .val (.double (own_s11 (own_xl p2))), .second, .val (.double (own_x2 (own_xl p2))), .second, .unset, .unset, .unset, .unset, .unset, .unset, .unset, .unset, .unset, .unset, .unset, .unset, .unset, .unset] [(.double (own_n3 (own_xl p2)))]))) (fun _ k => XS.dmulS (g := mkF m 66 #[.val (.int p1), .val (.long p2), .second, .val (.int p3), .val (.double (own_xl p2)), .second, .val (.double (own_s11 (own_xl p2))), .second, .val (.double (own_x2 (own_xl p2))), .second, .unset, .unset, .unset, .unset, .unset, .unset, .unset, .unset, .unset, .unset, .unset, .unset, .unset, .unset] [(.double (own_x2 (own_xl p2))), (.double (own_n2 (own_xl p2)))]) (x := (own_n2 (own_xl p2))) (y := (own_x2 (own_xl p2))) (v := (own_n3 (own_xl p2))) (rest := []) X13.here hx rfl (hb hby at_66) rfl (own_h_n3 hX).no rfl k) ?_
    refine OGoal.mp (S' := (T11.setTop (mkF m 70 #[.val (.int p1), .val (.long p2), .second, .val (.int p3), .val (.double (own_xl p2)), .second, .val (.double (own_s11 (own_xl p2))), .second, .val (.double (own_x2 (own_xl p2))), .second, .unset, .unset, .unset, .unset, .unset, .unset, .unset, .unset, .unset, .unset, .unset, .unset, .unset, .unset] [(.double (4638848353679966208 : UInt64)), (.double (own_n3 (own_xl p2)))]))) (fun _ k => X13.ldc2DoubleC hx hown (mvT hZ (hw _ (List.mem_of_getElem? (i := 14) rfl))) (g := mkF m 67 #[.val (.int p1), .val (.long p2), .second, .val (.int p3), .val (.double (own_xl p2)), .second, .val (.double (own_s11 (own_xl p2))), .second, .val (.double (own_x2 (own_xl p2))), .second, .unset, .unset, .unset, .unset, .unset, .unset, .unset, .unset, .unset, .unset, .unset, .unset, .unset, .unset] [(.double (own_n3 (own_xl p2)))]) rfl (hb hby at_67) _ k) ?_
    refine OGoal.mp (S' := (T11.setTop (mkF m 71 #[.val (.int p1), .val (.long p2), .second, .val (.int p3), .val (.double (own_xl p2)), .second, .val (.double (own_s11 (own_xl p2))), .second, .val (.double (own_x2 (own_xl p2))), .second, .unset, .unset, .unset, .unset, .unset, .unset, .unset, .unset, .unset, .unset, .unset, .unset, .unset, .unset] [(.double (own_n4 (own_xl p2)))]))) (fun _ k => XS.daddS (g := mkF m 70 #[.val (.int p1), .val (.long p2), .second, .val (.int p3), .val (.double (own_xl p2)), .second, .val (.double (own_s11 (own_xl p2))), .second, .val (.double (own_x2 (own_xl p2))), .second, .unset, .unset, .unset, .unset, .unset, .unset, .unset, .unset, .unset, .unset, .unset, .unset, .unset, .unset] [(.double (4638848353679966208 : UInt64)), (.double (own_n3 (own_xl p2)))]) (x := (own_n3 (own_xl p2))) (y := (4638848353679966208 : UInt64)) (v := (own_n4 (own_xl p2))) (rest := []) X13.here hx rfl (hb hby at_70) rfl (own_h_n4 hX).no rfl k) ?_
    refine OGoal.mp (S' := (T11.setTop (mkF m 73 #[.val (.int p1), .val (.long p2), .second, .val (.int p3), .val (.double (own_xl p2)), .second, .val (.double (own_s11 (own_xl p2))), .second, .val (.double (own_x2 (own_xl p2))), .second, .unset, .unset, .unset, .unset, .unset, .unset, .unset, .unset, .unset, .unset, .unset, .unset, .unset, .unset] [(.double (own_x2 (own_xl p2))), (.double (own_n4 (own_xl p2)))]))) (fun _ k => XS.dload X13.here hx rfl (hb hby at_71) rfl k) ?_
    refine OGoal.mp (S' := (T11.setTop (mkF m 74 #[.val (.int p1), .val (.long p2), .second, .val (.int p3), .val (.double (own_xl p2)), .second, .val (.double (own_s11 (own_xl p2))), .second, .val (.double (own_x2 (own_xl p2))), .second, .unset, .unset, .unset, .unset, .unset, .unset, .unset, .unset, .unset, .unset, .unset, .unset, .unset, .unset] [(.double (own_n5 (own_xl p2)))]))) (fun _ k => XS.dmulS (g := mkF m 73 #[.val (.int p1), .val (.long p2), .second, .val (.int p3), .val (.double (own_xl p2)), .second, .val (.double (own_s11 (own_xl p2))), .second, .val (.double (own_x2 (own_xl p2))), .second, .unset, .unset, .unset, .unset, .unset, .unset, .unset, .unset, .unset, .unset, .unset, .unset, .unset, .unset] [(.double (own_x2 (own_xl p2))), (.double (own_n4 (own_xl p2)))]) (x := (own_n4 (own_xl p2))) (y := (own_x2 (own_xl p2))) (v := (own_n5 (own_xl p2))) (rest := []) X13.here hx rfl (hb hby at_73) rfl (own_h_n5 hX).no rfl k) ?_
    refine OGoal.mp (S' := (T11.setTop (mkF m 77 #[.val (.int p1), .val (.long p2), .second, .val (.int p3), .val (.double (own_xl p2)), .second, .val (.double (own_s11 (own_xl p2))), .second, .val (.double (own_x2 (own_xl p2))), .second, .unset, .unset, .unset, .unset, .unset, .unset, .unset, .unset, .unset, .unset, .unset, .unset, .unset, .unset] [(.double (4636666922610458624 : UInt64)), (.double (own_n5 (own_xl p2)))]))) (fun _ k => X13.ldc2DoubleC hx hown (mvT hZ (hw _ (List.mem_of_getElem? (i := 15) rfl))) (g := mkF m 74 #[.val (.int p1), .val (.long p2), .second, .val (.int p3), .val (.double (own_xl p2)), .second, .val (.double (own_s11 (own_xl p2))), .second, .val (.double (own_x2 (own_xl p2))), .second, .unset, .unset, .unset, .unset, .unset, .unset, .unset, .unset, .unset, .unset, .unset, .unset, .unset, .unset] [(.double (own_n5 (own_xl p2)))]) rfl (hb hby at_74) _ k) ?_
    refine OGoal.mp (S' := (T11.setTop (mkF m 78 #[.val (.int p1), .val (.long p2), .second, .val (.int p3), .val (.double (own_xl p2)), .second, .val (.double (own_s11 (own_xl p2))), .second, .val (.double (own_x2 (own_xl p2))), .second, .unset, .unset, .unset, .unset, .unset, .unset, .unset, .unset, .unset, .unset, .unset, .unset, .unset, .unset] [(.double (own_n6 (own_xl p2)))]))) (fun _ k => XS.dsubS (g := mkF m 77 #[.val (.int p1), .val (.long p2), .second, .val (.int p3), .val (.double (own_xl p2)), .second, .val (.double (own_s11 (own_xl p2))), .second, .val (.double (own_x2 (own_xl p2))), .second, .unset, .unset, .unset, .unset, .unset, .unset, .unset, .unset, .unset, .unset, .unset, .unset, .unset, .unset] [(.double (4636666922610458624 : UInt64)), (.double (own_n5 (own_xl p2)))]) (x := (own_n5 (own_xl p2))) (y := (4636666922610458624 : UInt64)) (v := (own_n6 (own_xl p2))) (rest := []) X13.here hx rfl (hb hby at_77) rfl (own_h_n6 hX).no rfl k) ?_
    refine OGoal.mp (S' := (T11.setTop (mkF m 80 #[.val (.int p1), .val (.long p2), .second, .val (.int p3), .val (.double (own_xl p2)), .second, .val (.double (own_s11 (own_xl p2))), .second, .val (.double (own_x2 (own_xl p2))), .second, .unset, .unset, .unset, .unset, .unset, .unset, .unset, .unset, .unset, .unset, .unset, .unset, .unset, .unset] [(.double (own_x2 (own_xl p2))), (.double (own_n6 (own_xl p2)))]))) (fun _ k => XS.dload X13.here hx rfl (hb hby at_78) rfl k) ?_
    refine OGoal.mp (S' := (T11.setTop (mkF m 81 #[.val (.int p1), .val (.long p2), .second, .val (.int p3), .val (.double (own_xl p2)), .second, .val (.double (own_s11 (own_xl p2))), .second, .val (.double (own_x2 (own_xl p2))), .second, .unset, .unset, .unset, .unset, .unset, .unset, .unset, .unset, .unset, .unset, .unset, .unset, .unset, .unset] [(.double (own_n7 (own_xl p2)))]))) (fun _ k => XS.dmulS (g := mkF m 80 #[.val (.int p1), .val (.long p2), .second, .val (.int p3), .val (.double (own_xl p2)), .second, .val (.double (own_s11 (own_xl p2))), .second, .val (.double (own_x2 (own_xl p2))), .second, .unset, .unset, .unset, .unset, .unset, .unset, .unset, .unset, .unset, .unset, .unset, .unset, .unset, .unset] [(.double (own_x2 (own_xl p2))), (.double (own_n6 (own_xl p2)))]) (x := (own_n6 (own_xl p2))) (y := (own_x2 (own_xl p2))) (v := (own_n7 (own_xl p2))) (rest := []) X13.here hx rfl (hb hby at_80) rfl (own_h_n7 hX).no rfl k) ?_
    refine OGoal.mp (S' := (T11.setTop (mkF m 84 #[.val (.int p1), .val (.long p2), .second, .val (.int p3), .val (.double (own_xl p2)), .second, .val (.double (own_s11 (own_xl p2))), .second, .val (.double (own_x2 (own_xl p2))), .second, .unset, .unset, .unset, .unset, .unset, .unset, .unset, .unset, .unset, .unset, .unset, .unset, .unset, .unset] [(.double (4639129828656676864 : UInt64)), (.double (own_n7 (own_xl p2)))]))) (fun _ k => X13.ldc2DoubleC hx hown (mvT hZ (hw _ (List.mem_of_getElem? (i := 16) rfl))) (g := mkF m 81 #[.val (.int p1), .val (.long p2), .second, .val (.int p3), .val (.double (own_xl p2)), .second, .val (.double (own_s11 (own_xl p2))), .second, .val (.double (own_x2 (own_xl p2))), .second, .unset, .unset, .unset, .unset, .unset, .unset, .unset, .unset, .unset, .unset, .unset, .unset, .unset, .unset] [(.double (own_n7 (own_xl p2)))]) rfl (hb hby at_81) _ k) ?_
    refine OGoal.mp (S' := (T11.setTop (mkF m 85 #[.val (.int p1), .val (.long p2), .second, .val (.int p3), .val (.double (own_xl p2)), .second, .val (.double (own_s11 (own_xl p2))), .second, .val (.double (own_x2 (own_xl p2))), .second, .unset, .unset, .unset, .unset, .unset, .unset, .unset, .unset, .unset, .unset, .unset, .unset, .unset, .unset] [(.double (own_n8 (own_xl p2)))]))) (fun _ k => XS.daddS (g := mkF m 84 #[.val (.int p1), .val (.long p2), .second, .val (.int p3), .val (.double (own_xl p2)), .second, .val (.double (own_s11 (own_xl p2))), .second, .val (.double (own_x2 (own_xl p2))), .second, .unset, .unset, .unset, .unset, .unset, .unset, .unset, .unset, .unset, .unset, .unset, .unset, .unset, .unset] [(.double (4639129828656676864 : UInt64)), (.double (own_n7 (own_xl p2)))]) (x := (own_n7 (own_xl p2))) (y := (4639129828656676864 : UInt64)) (v := (own_n8 (own_xl p2))) (rest := []) X13.here hx rfl (hb hby at_84) rfl (own_h_n8 hX).no rfl k) ?_
    refine OGoal.mp (S' := (T11.setTop (mkF m 87 #[.val (.int p1), .val (.long p2), .second, .val (.int p3), .val (.double (own_xl p2)), .second, .val (.double (own_s11 (own_xl p2))), .second, .val (.double (own_x2 (own_xl p2))), .second, .val (.double (own_n8 (own_xl p2))), .second, .unset, .unset, .unset, .unset, .unset, .unset, .unset, .unset, .unset, .unset, .unset, .unset] []))) (fun _ k => XS.dstore X13.here hx rfl (hb hby at_85) rfl (l' := #[.val (.int p1), .val (.long p2), .second, .val (.int p3), .val (.double (own_xl p2)), .second, .val (.double (own_s11 (own_xl p2))), .second, .val (.double (own_x2 (own_xl p2))), .second, .val (.double (own_n8 (own_xl p2))), .second, .unset, .unset, .unset, .unset, .unset, .unset, .unset, .unset, .unset, .unset, .unset, .unset]) rfl k) ?_
    refine OGoal.mp (S' := (T11.setTop (mkF m 89 #[.val (.int p1), .val (.long p2), .second, .val (.int p3), .val (.double (own_xl p2)), .second, .val (.double (own_s11 (own_xl p2))), .second, .val (.double (own_x2 (own_xl p2))), .second, .val (.double (own_n8 (own_xl p2))), .second, .unset, .unset, .unset, .unset, .unset, .unset, .unset, .unset, .unset, .unset, .unset, .unset] [(.double (own_x2 (own_xl p2)))]))) (fun _ k => XS.dload X13.here hx rfl (hb hby at_87) rfl k) ?_
    refine OGoal.mp (S' := (T11.setTop (mkF m 91 #[.val (.int p1), .val (.long p2), .second, .val (.int p3), .val (.double (own_xl p2)), .second, .val (.double (own_s11 (own_xl p2))), .second, .val (.double (own_x2 (own_xl p2))), .second, .val (.double (own_n8 (own_xl p2))), .second, .unset, .unset, .unset, .unset, .unset, .unset, .unset, .unset, .unset, .unset, .unset, .unset] [(.double (own_x2 (own_xl p2))), (.double (own_x2 (own_xl p2)))]))) (fun _ k => XS.dload X13.here hx rfl (hb hby at_89) rfl k) ?_
    refine OGoal.mp (S' := (T11.setTop (mkF m 92 #[.val (.int p1), .val (.long p2), .second, .val (.int p3), .val (.double (own_xl p2)), .second, .val (.double (own_s11 (own_xl p2))), .second, .val (.double (own_x2 (own_xl p2))), .second, .val (.double (own_n8 (own_xl p2))), .second, .unset, .unset, .unset, .unset, .unset, .unset, .unset, .unset, .unset, .unset, .unset, .unset] [(.double (own_x4 (own_xl p2)))]))) (fun _ k => XS.dmulS (g := mkF m 91 #[.val (.int p1), .val (.long p2), .second, .val (.int p3), .val (.double (own_xl p2)), .second, .val (.double (own_s11 (own_xl p2))), .second, .val (.double (own_x2 (own_xl p2))), .second, .val (.double (own_n8 (own_xl p2))), .second, .unset, .unset, .unset, .unset, .unset, .unset, .unset, .unset, .unset, .unset, .unset, .unset] [(.double (own_x2 (own_xl p2))), (.double (own_x2 (own_xl p2)))]) (x := (own_x2 (own_xl p2))) (y := (own_x2 (own_xl p2))) (v := (own_x4 (own_xl p2))) (rest := []) X13.here hx rfl (hb hby at_91) rfl (own_h_x4 hX).no rfl k) ?_
    refine OGoal.mp (S' := (T11.setTop (mkF m 94 #[.val (.int p1), .val (.long p2), .second, .val (.int p3), .val (.double (own_xl p2)), .second, .val (.double (own_s11 (own_xl p2))), .second, .val (.double (own_x2 (own_xl p2))), .second, .val (.double (own_n8 (own_xl p2))), .second, .val (.double (own_x4 (own_xl p2))), .second, .unset, .unset, .unset, .unset, .unset, .unset, .unset, .unset, .unset, .unset] []))) (fun _ k => XS.dstore X13.here hx rfl (hb hby at_92) rfl (l' := #[.val (.int p1), .val (.long p2), .second, .val (.int p3), .val (.double (own_xl p2)), .second, .val (.double (own_s11 (own_xl p2))), .second, .val (.double (own_x2 (own_xl p2))), .second, .val (.double (own_n8 (own_xl p2))), .second, .val (.double (own_x4 (own_xl p2))), .second, .unset, .unset, .unset, .unset, .unset, .unset, .unset, .unset, .unset, .unset]) rfl k) ?_
    refine OGoal.mp (S' := (T11.setTop (mkF m 96 #[.val (.int p1), .val (.long p2), .second, .val (.int p3), .val (.double (own_xl p2)), .second, .val (.double (own_s11 (own_xl p2))), .second, .val (.double (own_x2 (own_xl p2))), .second, .val (.double (own_n8 (own_xl p2))), .second, .val (.double (own_x4 (own_xl p2))), .second, .unset, .unset, .unset, .unset, .unset, .unset, .unset, .unset, .unset, .unset] [(.double (own_x4 (own_xl p2)))]))) (fun _ k => XS.dload X13.here hx rfl (hb hby at_94) rfl k) ?_
    refine OGoal.mp (S' := (T11.setTop (mkF m 98 #[.val (.int p1), .val (.long p2), .second, .val (.int p3), .val (.double (own_xl p2)), .second, .val (.double (own_s11 (own_xl p2))), .second, .val (.double (own_x2 (own_xl p2))), .second, .val (.double (own_n8 (own_xl p2))), .second, .val (.double (own_x4 (own_xl p2))), .second, .unset, .unset, .unset, .unset, .unset, .unset, .unset, .unset, .unset, .unset] [(.double (own_x4 (own_xl p2))), (.double (own_x4 (own_xl p2)))]))) (fun _ k => XS.dload X13.here hx rfl (hb hby at_96) rfl k) ?_
    refine OGoal.mp (S' := (T11.setTop (mkF m 99 #[.val (.int p1), .val (.long p2), .second, .val (.int p3), .val (.double (own_xl p2)), .second, .val (.double (own_s11 (own_xl p2))), .second, .val (.double (own_x2 (own_xl p2))), .second, .val (.double (own_n8 (own_xl p2))), .second, .val (.double (own_x4 (own_xl p2))), .second, .unset, .unset, .unset, .unset, .unset, .unset, .unset, .unset, .unset, .unset] [(.double (own_x8 (own_xl p2)))]))) (fun _ k => XS.dmulS (g := mkF m 98 #[.val (.int p1), .val (.long p2), .second, .val (.int p3), .val (.double (own_xl p2)), .second, .val (.double (own_s11 (own_xl p2))), .second, .val (.double (own_x2 (own_xl p2))), .second, .val (.double (own_n8 (own_xl p2))), .second, .val (.double (own_x4 (own_xl p2))), .second, .unset, .unset, .unset, .unset, .unset, .unset, .unset, .unset, .unset, .unset] [(.double (own_x4 (own_xl p2))), (.double (own_x4 (own_xl p2)))]) (x := (own_x4 (own_xl p2))) (y := (own_x4 (own_xl p2))) (v := (own_x8 (own_xl p2))) (rest := []) X13.here hx rfl (hb hby at_98) rfl (own_h_x8 hX).no rfl k) ?_
    refine OGoal.mp (S' := (T11.setTop (mkF m 101 #[.val (.int p1), .val (.long p2), .second, .val (.int p3), .val (.double (own_xl p2)), .second, .val (.double (own_s11 (own_xl p2))), .second, .val (.double (own_x2 (own_xl p2))), .second, .val (.double (own_n8 (own_xl p2))), .second, .val (.double (own_x4 (own_xl p2))), .second, .val (.double (own_x8 (own_xl p2))), .second, .unset, .unset, .unset, .unset, .unset, .unset, .unset, .unset] []))) (fun _ k => XS.dstore X13.here hx rfl (hb hby at_99) rfl (l' := #[.val (.int p1), .val (.long p2), .second, .val (.int p3), .val (.double (own_xl p2)), .second, .val (.double (own_s11 (own_xl p2))), .second, .val (.double (own_x2 (own_xl p2))), .second, .val (.double (own_n8 (own_xl p2))), .second, .val (.double (own_x4 (own_xl p2))), .second, .val (.double (own_x8 (own_xl p2))), .second, .unset, .unset, .unset, .unset, .unset, .unset, .unset, .unset]) rfl k) ?_
    refine OGoal.mp (S' := (T11.setTop (mkF m 104 #[.val (.int p1), .val (.long p2), .second, .val (.int p3), .val (.double (own_xl p2)), .second, .val (.double (own_s11 (own_xl p2))), .second, .val (.double (own_x2 (own_xl p2))), .second, .val (.double (own_n8 (own_xl p2))), .second, .val (.double (own_x4 (own_xl p2))), .second, .val (.double (own_x8 (own_xl p2))), .second, .unset, .unset, .unset, .unset, .unset, .unset, .unset, .unset] [(.double (4684954724523311104 : UInt64))]))) (fun _ k => X13.ldc2DoubleC hx hown (mvT hZ (hw _ (List.mem_of_getElem? (i := 17) rfl))) (g := mkF m 101 #[.val (.int p1), .val (.long p2), .second, .val (.int p3), .val (.double (own_xl p2)), .second, .val (.double (own_s11 (own_xl p2))), .second, .val (.double (own_x2 (own_xl p2))), .second, .val (.double (own_n8 (own_xl p2))), .second, .val (.double (own_x4 (own_xl p2))), .second, .val (.double (own_x8 (own_xl p2))), .second, .unset, .unset, .unset, .unset, .unset, .unset, .unset, .unset] []) rfl (hb hby at_101) _ k) ?_
    refine OGoal.mp (S' := (T11.setTop (mkF m 106 #[.val (.int p1), .val (.long p2), .second, .val (.int p3), .val (.double (own_xl p2)), .second, .val (.double (own_s11 (own_xl p2))), .second, .val (.double (own_x2 (own_xl p2))), .second, .val (.double (own_n8 (own_xl p2))), .second, .val (.double (own_x4 (own_xl p2))), .second, .val (.double (own_x8 (own_xl p2))), .second, .unset, .unset, .unset, .unset, .unset, .unset, .unset, .unset] [(.double (own_x8 (own_xl p2))), (.double (4684954724523311104 : UInt64))]))) (fun _ k => XS.dload X13.here hx rfl (hb hby at_104) rfl k) ?_
    refine OGoal.mp (S' := (T11.setTop (mkF m 108 #[.val (.int p1), .val (.long p2), .second, .val (.int p3), .val (.double (own_xl p2)), .second, .val (.double (own_s11 (own_xl p2))), .second, .val (.double (own_x2 (own_xl p2))), .second, .val (.double (own_n8 (own_xl p2))), .second, .val (.double (own_x4 (own_xl p2))), .second, .val (.double (own_x8 (own_xl p2))), .second, .unset, .unset, .unset, .unset, .unset, .unset, .unset, .unset] [(.double (own_xl p2)), (.double (own_x8 (own_xl p2))), (.double (4684954724523311104 : UInt64))]))) (fun _ k => XS.dload X13.here hx rfl (hb hby at_106) rfl k) ?_
    refine OGoal.mp (S' := (T11.setTop (mkF m 109 #[.val (.int p1), .val (.long p2), .second, .val (.int p3), .val (.double (own_xl p2)), .second, .val (.double (own_s11 (own_xl p2))), .second, .val (.double (own_x2 (own_xl p2))), .second, .val (.double (own_n8 (own_xl p2))), .second, .val (.double (own_x4 (own_xl p2))), .second, .val (.double (own_x8 (own_xl p2))), .second, .unset, .unset, .unset, .unset, .unset, .unset, .unset, .unset] [(.double (own_d1 (own_xl p2))), (.double (4684954724523311104 : UInt64))]))) (fun _ k => XS.dmulS (g := mkF m 108 #[.val (.int p1), .val (.long p2), .second, .val (.int p3), .val (.double (own_xl p2)), .second, .val (.double (own_s11 (own_xl p2))), .second, .val (.double (own_x2 (own_xl p2))), .second, .val (.double (own_n8 (own_xl p2))), .second, .val (.double (own_x4 (own_xl p2))), .second, .val (.double (own_x8 (own_xl p2))), .second, .unset, .unset, .unset, .unset, .unset, .unset, .unset, .unset] [(.double (own_xl p2)), (.double (own_x8 (own_xl p2))), (.double (4684954724523311104 : UInt64))]) (x := (own_x8 (own_xl p2))) (y := (own_xl p2)) (v := (own_d1 (own_xl p2))) (rest := [(.double (4684954724523311104 : UInt64))]) X13.here hx rfl (hb hby at_108) rfl (own_h_d1 hX).no rfl k) ?_
    refine OGoal.mp (S' := (T11.setTop (mkF m 110 #[.val (.int p1), .val (.long p2), .second, .val (.int p3), .val (.double (own_xl p2)), .second, .val (.double (own_s11 (own_xl p2))), .second, .val (.double (own_x2 (own_xl p2))), .second, .val (.double (own_n8 (own_xl p2))), .second, .val (.double (own_x4 (own_xl p2))), .second, .val (.double (own_x8 (own_xl p2))), .second, .unset, .unset, .unset, .unset, .unset, .unset, .unset, .unset] [(.double (own_d2 (own_xl p2)))]))) (fun _ k => XS.dmulS (g := mkF m 109 #[.val (.int p1), .val (.long p2), .second, .val (.int p3), .val (.double (own_xl p2)), .second, .val (.double (own_s11 (own_xl p2))), .second, .val (.double (own_x2 (own_xl p2))), .second, .val (.double (own_n8 (own_xl p2))), .second, .val (.double (own_x4 (own_xl p2))), .second, .val (.double (own_x8 (own_xl p2))), .second, .unset, .unset, .unset, .unset, .unset, .unset, .unset, .unset] [(.double (own_d1 (own_xl p2))), (.double (4684954724523311104 : UInt64))]) (x := (4684954724523311104 : UInt64)) (y := (own_d1 (own_xl p2))) (v := (own_d2 (own_xl p2))) (rest := []) X13.here hx rfl (hb hby at_109) rfl (own_h_d2 hX).no rfl k) ?_
    refine OGoal.mp (S' := (T11.setTop (mkF m 112 #[.val (.int p1), .val (.long p2), .second, .val (.int p3), .val (.double (own_xl p2)), .second, .val (.double (own_s11 (own_xl p2))), .second, .val (.double (own_x2 (own_xl p2))), .second, .val (.double (own_n8 (own_xl p2))), .second, .val (.double (own_x4 (own_xl p2))), .second, .val (.double (own_x8 (own_xl p2))), .second, .val (.double (own_d2 (own_xl p2))), .second, .unset, .unset, .unset, .unset, .unset, .unset] []))) (fun _ k => XS.dstore X13.here hx rfl (hb hby at_110) rfl (l' := #[.val (.int p1), .val (.long p2), .second, .val (.int p3), .val (.double (own_xl p2)), .second, .val (.double (own_s11 (own_xl p2))), .second, .val (.double (own_x2 (own_xl p2))), .second, .val (.double (own_n8 (own_xl p2))), .second, .val (.double (own_x4 (own_xl p2))), .second, .val (.double (own_x8 (own_xl p2))), .second, .val (.double (own_d2 (own_xl p2))), .second, .unset, .unset, .unset, .unset, .unset, .unset]) rfl k) ?_
    refine OGoal.mp (S' := (T11.setTop (mkF m 114 #[.val (.int p1), .val (.long p2), .second, .val (.int p3), .val (.double (own_xl p2)), .second, .val (.double (own_s11 (own_xl p2))), .second, .val (.double (own_x2 (own_xl p2))), .second, .val (.double (own_n8 (own_xl p2))), .second, .val (.double (own_x4 (own_xl p2))), .second, .val (.double (own_x8 (own_xl p2))), .second, .val (.double (own_d2 (own_xl p2))), .second, .unset, .unset, .unset, .unset, .unset, .unset] [(.double (own_n8 (own_xl p2)))]))) (fun _ k => XS.dload X13.here hx rfl (hb hby at_112) rfl k) ?_
    refine OGoal.mp (S' := (T11.setTop (mkF m 116 #[.val (.int p1), .val (.long p2), .second, .val (.int p3), .val (.double (own_xl p2)), .second, .val (.double (own_s11 (own_xl p2))), .second, .val (.double (own_x2 (own_xl p2))), .second, .val (.double (own_n8 (own_xl p2))), .second, .val (.double (own_x4 (own_xl p2))), .second, .val (.double (own_x8 (own_xl p2))), .second, .val (.double (own_d2 (own_xl p2))), .second, .unset, .unset, .unset, .unset, .unset, .unset] [(.double (own_d2 (own_xl p2))), (.double (own_n8 (own_xl p2)))]))) (fun _ k => XS.dload X13.here hx rfl (hb hby at_114) rfl k) ?_
    refine OGoal.mp (S' := (T11.setTop (mkF m 117 #[.val (.int p1), .val (.long p2), .second, .val (.int p3), .val (.double (own_xl p2)), .second, .val (.double (own_s11 (own_xl p2))), .second, .val (.double (own_x2 (own_xl p2))), .second, .val (.double (own_n8 (own_xl p2))), .second, .val (.double (own_x4 (own_xl p2))), .second, .val (.double (own_x8 (own_xl p2))), .second, .val (.double (own_d2 (own_xl p2))), .second, .unset, .unset, .unset, .unset, .unset, .unset] [(.double (own_ref (own_xl p2)))]))) (fun _ k => XS.ddivS (g := mkF m 116 #[.val (.int p1), .val (.long p2), .second, .val (.int p3), .val (.double (own_xl p2)), .second, .val (.double (own_s11 (own_xl p2))), .second, .val (.double (own_x2 (own_xl p2))), .second, .val (.double (own_n8 (own_xl p2))), .second, .val (.double (own_x4 (own_xl p2))), .second, .val (.double (own_x8 (own_xl p2))), .second, .val (.double (own_d2 (own_xl p2))), .second, .unset, .unset, .unset, .unset, .unset, .unset] [(.double (own_d2 (own_xl p2))), (.double (own_n8 (own_xl p2)))]) (x := (own_n8 (own_xl p2))) (y := (own_d2 (own_xl p2))) (v := (own_ref (own_xl p2))) (rest := []) X13.here hx rfl (hb hby at_116) rfl (own_h_ref hX).no rfl k) ?_
    refine OGoal.mp (S' := (T11.setTop (mkF m 119 #[.val (.int p1), .val (.long p2), .second, .val (.int p3), .val (.double (own_xl p2)), .second, .val (.double (own_s11 (own_xl p2))), .second, .val (.double (own_x2 (own_xl p2))), .second, .val (.double (own_n8 (own_xl p2))), .second, .val (.double (own_x4 (own_xl p2))), .second, .val (.double (own_x8 (own_xl p2))), .second, .val (.double (own_d2 (own_xl p2))), .second, .val (.double (own_ref (own_xl p2))), .second, .unset, .unset, .unset, .unset] []))) (fun _ k => XS.dstore X13.here hx rfl (hb hby at_117) rfl (l' := #[.val (.int p1), .val (.long p2), .second, .val (.int p3), .val (.double (own_xl p2)), .second, .val (.double (own_s11 (own_xl p2))), .second, .val (.double (own_x2 (own_xl p2))), .second, .val (.double (own_n8 (own_xl p2))), .second, .val (.double (own_x4 (own_xl p2))), .second, .val (.double (own_x8 (own_xl p2))), .second, .val (.double (own_d2 (own_xl p2))), .second, .val (.double (own_ref (own_xl p2))), .second, .unset, .unset, .unset, .unset]) rfl k) ?_
    refine OGoal.mp (S' := (T11.setTop (mkF m 121 #[.val (.int p1), .val (.long p2), .second, .val (.int p3), .val (.double (own_xl p2)), .second, .val (.double (own_s11 (own_xl p2))), .second, .val (.double (own_x2 (own_xl p2))), .second, .val (.double (own_n8 (own_xl p2))), .second, .val (.double (own_x4 (own_xl p2))), .second, .val (.double (own_x8 (own_xl p2))), .second, .val (.double (own_d2 (own_xl p2))), .second, .val (.double (own_ref (own_xl p2))), .second, .unset, .unset, .unset, .unset] [(.double (own_ref (own_xl p2)))]))) (fun _ k => XS.dload X13.here hx rfl (hb hby at_119) rfl k) ?_
    refine OGoal.mp (S' := (T11.setTop (mkF m 124 #[.val (.int p1), .val (.long p2), .second, .val (.int p3), .val (.double (own_xl p2)), .second, .val (.double (own_s11 (own_xl p2))), .second, .val (.double (own_x2 (own_xl p2))), .second, .val (.double (own_n8 (own_xl p2))), .second, .val (.double (own_x4 (own_xl p2))), .second, .val (.double (own_x8 (own_xl p2))), .second, .val (.double (own_d2 (own_xl p2))), .second, .val (.double (own_ref (own_xl p2))), .second, .unset, .unset, .unset, .unset] [(.double (4397347889687374747 : UInt64)), (.double (own_ref (own_xl p2)))]))) (fun _ k => X13.ldc2DoubleC hx hown (mvT hZ (hw _ (List.mem_of_getElem? (i := 18) rfl))) (g := mkF m 121 #[.val (.int p1), .val (.long p2), .second, .val (.int p3), .val (.double (own_xl p2)), .second, .val (.double (own_s11 (own_xl p2))), .second, .val (.double (own_x2 (own_xl p2))), .second, .val (.double (own_n8 (own_xl p2))), .second, .val (.double (own_x4 (own_xl p2))), .second, .val (.double (own_x8 (own_xl p2))), .second, .val (.double (own_d2 (own_xl p2))), .second, .val (.double (own_ref (own_xl p2))), .second, .unset, .unset, .unset, .unset] [(.double (own_ref (own_xl p2)))]) rfl (hb hby at_121) _ k) ?_
    refine OGoal.mp (S' := (T11.setTop (mkF m 125 #[.val (.int p1), .val (.long p2), .second, .val (.int p3), .val (.double (own_xl p2)), .second, .val (.double (own_s11 (own_xl p2))), .second, .val (.double (own_x2 (own_xl p2))), .second, .val (.double (own_n8 (own_xl p2))), .second, .val (.double (own_x4 (own_xl p2))), .second, .val (.double (own_x8 (own_xl p2))), .second, .val (.double (own_d2 (own_xl p2))), .second, .val (.double (own_ref (own_xl p2))), .second, .unset, .unset, .unset, .unset] [(.double (own_tol (own_xl p2)))]))) (fun _ k => XS.dmulS (g := mkF m 124 #[.val (.int p1), .val (.long p2), .second, .val (.int p3), .val (.double (own_xl p2)), .second, .val (.double (own_s11 (own_xl p2))), .second, .val (.double (own_x2 (own_xl p2))), .second, .val (.double (own_n8 (own_xl p2))), .second, .val (.double (own_x4 (own_xl p2))), .second, .val (.double (own_x8 (own_xl p2))), .second, .val (.double (own_d2 (own_xl p2))), .second, .val (.double (own_ref (own_xl p2))), .second, .unset, .unset, .unset, .unset] [(.double (4397347889687374747 : UInt64)), (.double (own_ref (own_xl p2)))]) (x := (own_ref (own_xl p2))) (y := (4397347889687374747 : UInt64)) (v := (own_tol (own_xl p2))) (rest := []) X13.here hx rfl (hb hby at_124) rfl (own_h_tol hX).no rfl k) ?_
    refine OGoal.mp (S' := (T11.setTop (mkF m 127 #[.val (.int p1), .val (.long p2), .second, .val (.int p3), .val (.double (own_xl p2)), .second, .val (.double (own_s11 (own_xl p2))), .second, .val (.double (own_x2 (own_xl p2))), .second, .val (.double (own_n8 (own_xl p2))), .second, .val (.double (own_x4 (own_xl p2))), .second, .val (.double (own_x8 (own_xl p2))), .second, .val (.double (own_d2 (own_xl p2))), .second, .val (.double (own_ref (own_xl p2))), .second, .val (.double (own_tol (own_xl p2))), .second, .unset, .unset] []))) (fun _ k => XS.dstore X13.here hx rfl (hb hby at_125) rfl (l' := #[.val (.int p1), .val (.long p2), .second, .val (.int p3), .val (.double (own_xl p2)), .second, .val (.double (own_s11 (own_xl p2))), .second, .val (.double (own_x2 (own_xl p2))), .second, .val (.double (own_n8 (own_xl p2))), .second, .val (.double (own_x4 (own_xl p2))), .second, .val (.double (own_x8 (own_xl p2))), .second, .val (.double (own_d2 (own_xl p2))), .second, .val (.double (own_ref (own_xl p2))), .second, .val (.double (own_tol (own_xl p2))), .second, .unset, .unset]) rfl k) ?_
    refine OGoal.mp (S' := (T11.setTop (mkF m 129 #[.val (.int p1), .val (.long p2), .second, .val (.int p3), .val (.double (own_xl p2)), .second, .val (.double (own_s11 (own_xl p2))), .second, .val (.double (own_x2 (own_xl p2))), .second, .val (.double (own_n8 (own_xl p2))), .second, .val (.double (own_x4 (own_xl p2))), .second, .val (.double (own_x8 (own_xl p2))), .second, .val (.double (own_d2 (own_xl p2))), .second, .val (.double (own_ref (own_xl p2))), .second, .val (.double (own_tol (own_xl p2))), .second, .unset, .unset] [(.double (own_s11 (own_xl p2)))]))) (fun _ k => XS.dload X13.here hx rfl (hb hby at_127) rfl k) ?_
    refine OGoal.mp (S' := (T11.setTop (mkF m 131 #[.val (.int p1), .val (.long p2), .second, .val (.int p3), .val (.double (own_xl p2)), .second, .val (.double (own_s11 (own_xl p2))), .second, .val (.double (own_x2 (own_xl p2))), .second, .val (.double (own_n8 (own_xl p2))), .second, .val (.double (own_x4 (own_xl p2))), .second, .val (.double (own_x8 (own_xl p2))), .second, .val (.double (own_d2 (own_xl p2))), .second, .val (.double (own_ref (own_xl p2))), .second, .val (.double (own_tol (own_xl p2))), .second, .unset, .unset] [(.double (own_ref (own_xl p2))), (.double (own_s11 (own_xl p2)))]))) (fun _ k => XS.dload X13.here hx rfl (hb hby at_129) rfl k) ?_
    refine OGoal.mp (S' := (T11.setTop (mkF m 132 #[.val (.int p1), .val (.long p2), .second, .val (.int p3), .val (.double (own_xl p2)), .second, .val (.double (own_s11 (own_xl p2))), .second, .val (.double (own_x2 (own_xl p2))), .second, .val (.double (own_n8 (own_xl p2))), .second, .val (.double (own_x4 (own_xl p2))), .second, .val (.double (own_x8 (own_xl p2))), .second, .val (.double (own_d2 (own_xl p2))), .second, .val (.double (own_ref (own_xl p2))), .second, .val (.double (own_tol (own_xl p2))), .second, .unset, .unset] [(.double (own_diff (own_xl p2)))]))) (fun _ k => XS.dsubS (g := mkF m 131 #[.val (.int p1), .val (.long p2), .second, .val (.int p3), .val (.double (own_xl p2)), .second, .val (.double (own_s11 (own_xl p2))), .second, .val (.double (own_x2 (own_xl p2))), .second, .val (.double (own_n8 (own_xl p2))), .second, .val (.double (own_x4 (own_xl p2))), .second, .val (.double (own_x8 (own_xl p2))), .second, .val (.double (own_d2 (own_xl p2))), .second, .val (.double (own_ref (own_xl p2))), .second, .val (.double (own_tol (own_xl p2))), .second, .unset, .unset] [(.double (own_ref (own_xl p2))), (.double (own_s11 (own_xl p2)))]) (x := (own_s11 (own_xl p2))) (y := (own_ref (own_xl p2))) (v := (own_diff (own_xl p2))) (rest := []) X13.here hx rfl (hb hby at_131) rfl (own_ndif hX) rfl k) ?_
    refine OGoal.mp (S' := (T11.setTop (mkF m 134 #[.val (.int p1), .val (.long p2), .second, .val (.int p3), .val (.double (own_xl p2)), .second, .val (.double (own_s11 (own_xl p2))), .second, .val (.double (own_x2 (own_xl p2))), .second, .val (.double (own_n8 (own_xl p2))), .second, .val (.double (own_x4 (own_xl p2))), .second, .val (.double (own_x8 (own_xl p2))), .second, .val (.double (own_d2 (own_xl p2))), .second, .val (.double (own_ref (own_xl p2))), .second, .val (.double (own_tol (own_xl p2))), .second, .val (.double (own_diff (own_xl p2))), .second] []))) (fun _ k => XS.dstore X13.here hx rfl (hb hby at_132) rfl (l' := #[.val (.int p1), .val (.long p2), .second, .val (.int p3), .val (.double (own_xl p2)), .second, .val (.double (own_s11 (own_xl p2))), .second, .val (.double (own_x2 (own_xl p2))), .second, .val (.double (own_n8 (own_xl p2))), .second, .val (.double (own_x4 (own_xl p2))), .second, .val (.double (own_x8 (own_xl p2))), .second, .val (.double (own_d2 (own_xl p2))), .second, .val (.double (own_ref (own_xl p2))), .second, .val (.double (own_tol (own_xl p2))), .second, .val (.double (own_diff (own_xl p2))), .second]) rfl k) ?_
    refine OGoal.mp (S' := (T11.setTop (mkF m 136 #[.val (.int p1), .val (.long p2), .second, .val (.int p3), .val (.double (own_xl p2)), .second, .val (.double (own_s11 (own_xl p2))), .second, .val (.double (own_x2 (own_xl p2))), .second, .val (.double (own_n8 (own_xl p2))), .second, .val (.double (own_x4 (own_xl p2))), .second, .val (.double (own_x8 (own_xl p2))), .second, .val (.double (own_d2 (own_xl p2))), .second, .val (.double (own_ref (own_xl p2))), .second, .val (.double (own_tol (own_xl p2))), .second, .val (.double (own_diff (own_xl p2))), .second] [(.double (own_ref (own_xl p2)))]))) (fun _ k => XS.dload X13.here hx rfl (hb hby at_134) rfl k) ?_
    refine OGoal.mp (S' := (T11.setTop (mkF m 137 #[.val (.int p1), .val (.long p2), .second, .val (.int p3), .val (.double (own_xl p2)), .second, .val (.double (own_s11 (own_xl p2))), .second, .val (.double (own_x2 (own_xl p2))), .second, .val (.double (own_n8 (own_xl p2))), .second, .val (.double (own_x4 (own_xl p2))), .second, .val (.double (own_x8 (own_xl p2))), .second, .val (.double (own_d2 (own_xl p2))), .second, .val (.double (own_ref (own_xl p2))), .second, .val (.double (own_tol (own_xl p2))), .second, .val (.double (own_diff (own_xl p2))), .second] [(.double (0 : UInt64)), (.double (own_ref (own_xl p2)))]))) (fun _ k => XS.dconst0 X13.here hx rfl (hb hby at_136) rfl k) ?_
    refine OGoal.mp (S' := (T11.setTop (mkF m 138 #[.val (.int p1), .val (.long p2), .second, .val (.int p3), .val (.double (own_xl p2)), .second, .val (.double (own_s11 (own_xl p2))), .second, .val (.double (own_x2 (own_xl p2))), .second, .val (.double (own_n8 (own_xl p2))), .second, .val (.double (own_x4 (own_xl p2))), .second, .val (.double (own_x8 (own_xl p2))), .second, .val (.double (own_d2 (own_xl p2))), .second, .val (.double (own_ref (own_xl p2))), .second, .val (.double (own_tol (own_xl p2))), .second, .val (.double (own_diff (own_xl p2))), .second] [(.int (1 : Int32))]))) (fun _ k => XS.dcmpS (g := mkF m 137 #[.val (.int p1), .val (.long p2), .second, .val (.int p3), .val (.double (own_xl p2)), .second, .val (.double (own_s11 (own_xl p2))), .second, .val (.double (own_x2 (own_xl p2))), .second, .val (.double (own_n8 (own_xl p2))), .second, .val (.double (own_x4 (own_xl p2))), .second, .val (.double (own_x8 (own_xl p2))), .second, .val (.double (own_d2 (own_xl p2))), .second, .val (.double (own_ref (own_xl p2))), .second, .val (.double (own_tol (own_xl p2))), .second, .val (.double (own_diff (own_xl p2))), .second] [(.double (0 : UInt64)), (.double (own_ref (own_xl p2)))]) (o := .l) (x := (own_ref (own_xl p2))) (y := (0 : UInt64)) (v := (1 : Int32)) (rest := []) X13.here hx rfl (hb hby at_137) rfl (own_c1 hX) k) ?_
    refine OGoal.mp (S' := (T11.setTop (mkF m 141 #[.val (.int p1), .val (.long p2), .second, .val (.int p3), .val (.double (own_xl p2)), .second, .val (.double (own_s11 (own_xl p2))), .second, .val (.double (own_x2 (own_xl p2))), .second, .val (.double (own_n8 (own_xl p2))), .second, .val (.double (own_x4 (own_xl p2))), .second, .val (.double (own_x8 (own_xl p2))), .second, .val (.double (own_d2 (own_xl p2))), .second, .val (.double (own_ref (own_xl p2))), .second, .val (.double (own_tol (own_xl p2))), .second, .val (.double (own_diff (own_xl p2))), .second] []))) (fun _ k => XS.ifNo X13.here hx rfl (hb hby at_138) rfl (XT.i0_le_f (by decide)) k) ?_
    refine OGoal.mp (S' := (T11.setTop (mkF m 143 #[.val (.int p1), .val (.long p2), .second, .val (.int p3), .val (.double (own_xl p2)), .second, .val (.double (own_s11 (own_xl p2))), .second, .val (.double (own_x2 (own_xl p2))), .second, .val (.double (own_n8 (own_xl p2))), .second, .val (.double (own_x4 (own_xl p2))), .second, .val (.double (own_x8 (own_xl p2))), .second, .val (.double (own_d2 (own_xl p2))), .second, .val (.double (own_ref (own_xl p2))), .second, .val (.double (own_tol (own_xl p2))), .second, .val (.double (own_diff (own_xl p2))), .second] [(.double (own_diff (own_xl p2)))]))) (fun _ k => XS.dload X13.here hx rfl (hb hby at_141) rfl k) ?_
    refine OGoal.mp (S' := (T11.setTop (mkF m 145 #[.val (.int p1), .val (.long p2), .second, .val (.int p3), .val (.double (own_xl p2)), .second, .val (.double (own_s11 (own_xl p2))), .second, .val (.double (own_x2 (own_xl p2))), .second, .val (.double (own_n8 (own_xl p2))), .second, .val (.double (own_x4 (own_xl p2))), .second, .val (.double (own_x8 (own_xl p2))), .second, .val (.double (own_d2 (own_xl p2))), .second, .val (.double (own_ref (own_xl p2))), .second, .val (.double (own_tol (own_xl p2))), .second, .val (.double (own_diff (own_xl p2))), .second] [(.double (own_tol (own_xl p2))), (.double (own_diff (own_xl p2)))]))) (fun _ k => XS.dload X13.here hx rfl (hb hby at_143) rfl k) ?_
    refine OGoal.mp (S' := (T11.setTop (mkF m 146 #[.val (.int p1), .val (.long p2), .second, .val (.int p3), .val (.double (own_xl p2)), .second, .val (.double (own_s11 (own_xl p2))), .second, .val (.double (own_x2 (own_xl p2))), .second, .val (.double (own_n8 (own_xl p2))), .second, .val (.double (own_x4 (own_xl p2))), .second, .val (.double (own_x8 (own_xl p2))), .second, .val (.double (own_d2 (own_xl p2))), .second, .val (.double (own_ref (own_xl p2))), .second, .val (.double (own_tol (own_xl p2))), .second, .val (.double (own_diff (own_xl p2))), .second] [(.int (cmpValue (FP.dcmp (own_diff (own_xl p2)) (own_tol (own_xl p2))) .g))]))) (fun _ k => XS.dcmpS (g := mkF m 145 #[.val (.int p1), .val (.long p2), .second, .val (.int p3), .val (.double (own_xl p2)), .second, .val (.double (own_s11 (own_xl p2))), .second, .val (.double (own_x2 (own_xl p2))), .second, .val (.double (own_n8 (own_xl p2))), .second, .val (.double (own_x4 (own_xl p2))), .second, .val (.double (own_x8 (own_xl p2))), .second, .val (.double (own_d2 (own_xl p2))), .second, .val (.double (own_ref (own_xl p2))), .second, .val (.double (own_tol (own_xl p2))), .second, .val (.double (own_diff (own_xl p2))), .second] [(.double (own_tol (own_xl p2))), (.double (own_diff (own_xl p2)))]) (o := .g) (x := (own_diff (own_xl p2))) (y := (own_tol (own_xl p2))) (v := (cmpValue (FP.dcmp (own_diff (own_xl p2)) (own_tol (own_xl p2))) .g)) (rest := []) X13.here hx rfl (hb hby at_145) rfl rfl k) ?_
    refine OGoal.mp (S' := (T11.setTop (mkF m 149 #[.val (.int p1), .val (.long p2), .second, .val (.int p3), .val (.double (own_xl p2)), .second, .val (.double (own_s11 (own_xl p2))), .second, .val (.double (own_x2 (own_xl p2))), .second, .val (.double (own_n8 (own_xl p2))), .second, .val (.double (own_x4 (own_xl p2))), .second, .val (.double (own_x8 (own_xl p2))), .second, .val (.double (own_d2 (own_xl p2))), .second, .val (.double (own_ref (own_xl p2))), .second, .val (.double (own_tol (own_xl p2))), .second, .val (.double (own_diff (own_xl p2))), .second] []))) (fun _ k => XS.ifNo X13.here hx rfl (hb hby at_146) rfl (XT.i0_gt_f (own_c2 hX)) k) ?_
    refine OGoal.mp (S' := (T11.setTop (mkF m 151 #[.val (.int p1), .val (.long p2), .second, .val (.int p3), .val (.double (own_xl p2)), .second, .val (.double (own_s11 (own_xl p2))), .second, .val (.double (own_x2 (own_xl p2))), .second, .val (.double (own_n8 (own_xl p2))), .second, .val (.double (own_x4 (own_xl p2))), .second, .val (.double (own_x8 (own_xl p2))), .second, .val (.double (own_d2 (own_xl p2))), .second, .val (.double (own_ref (own_xl p2))), .second, .val (.double (own_tol (own_xl p2))), .second, .val (.double (own_diff (own_xl p2))), .second] [(.double (own_diff (own_xl p2)))]))) (fun _ k => XS.dload X13.here hx rfl (hb hby at_149) rfl k) ?_
    refine OGoal.mp (S' := (T11.setTop (mkF m 152 #[.val (.int p1), .val (.long p2), .second, .val (.int p3), .val (.double (own_xl p2)), .second, .val (.double (own_s11 (own_xl p2))), .second, .val (.double (own_x2 (own_xl p2))), .second, .val (.double (own_n8 (own_xl p2))), .second, .val (.double (own_x4 (own_xl p2))), .second, .val (.double (own_x8 (own_xl p2))), .second, .val (.double (own_d2 (own_xl p2))), .second, .val (.double (own_ref (own_xl p2))), .second, .val (.double (own_tol (own_xl p2))), .second, .val (.double (own_diff (own_xl p2))), .second] [(.double (own_ndiff (own_xl p2)))]))) (fun _ k => XS.dnegS (g := mkF m 151 #[.val (.int p1), .val (.long p2), .second, .val (.int p3), .val (.double (own_xl p2)), .second, .val (.double (own_s11 (own_xl p2))), .second, .val (.double (own_x2 (own_xl p2))), .second, .val (.double (own_n8 (own_xl p2))), .second, .val (.double (own_x4 (own_xl p2))), .second, .val (.double (own_x8 (own_xl p2))), .second, .val (.double (own_d2 (own_xl p2))), .second, .val (.double (own_ref (own_xl p2))), .second, .val (.double (own_tol (own_xl p2))), .second, .val (.double (own_diff (own_xl p2))), .second] [(.double (own_diff (own_xl p2)))]) (x := (own_diff (own_xl p2))) (v := (own_ndiff (own_xl p2))) (rest := []) X13.here hx rfl (hb hby at_151) rfl rfl k) ?_
    refine OGoal.mp (S' := (T11.setTop (mkF m 154 #[.val (.int p1), .val (.long p2), .second, .val (.int p3), .val (.double (own_xl p2)), .second, .val (.double (own_s11 (own_xl p2))), .second, .val (.double (own_x2 (own_xl p2))), .second, .val (.double (own_n8 (own_xl p2))), .second, .val (.double (own_x4 (own_xl p2))), .second, .val (.double (own_x8 (own_xl p2))), .second, .val (.double (own_d2 (own_xl p2))), .second, .val (.double (own_ref (own_xl p2))), .second, .val (.double (own_tol (own_xl p2))), .second, .val (.double (own_diff (own_xl p2))), .second] [(.double (own_tol (own_xl p2))), (.double (own_ndiff (own_xl p2)))]))) (fun _ k => XS.dload X13.here hx rfl (hb hby at_152) rfl k) ?_
    refine OGoal.mp (S' := (T11.setTop (mkF m 155 #[.val (.int p1), .val (.long p2), .second, .val (.int p3), .val (.double (own_xl p2)), .second, .val (.double (own_s11 (own_xl p2))), .second, .val (.double (own_x2 (own_xl p2))), .second, .val (.double (own_n8 (own_xl p2))), .second, .val (.double (own_x4 (own_xl p2))), .second, .val (.double (own_x8 (own_xl p2))), .second, .val (.double (own_d2 (own_xl p2))), .second, .val (.double (own_ref (own_xl p2))), .second, .val (.double (own_tol (own_xl p2))), .second, .val (.double (own_diff (own_xl p2))), .second] [(.int (cmpValue (FP.dcmp (own_ndiff (own_xl p2)) (own_tol (own_xl p2))) .g))]))) (fun _ k => XS.dcmpS (g := mkF m 154 #[.val (.int p1), .val (.long p2), .second, .val (.int p3), .val (.double (own_xl p2)), .second, .val (.double (own_s11 (own_xl p2))), .second, .val (.double (own_x2 (own_xl p2))), .second, .val (.double (own_n8 (own_xl p2))), .second, .val (.double (own_x4 (own_xl p2))), .second, .val (.double (own_x8 (own_xl p2))), .second, .val (.double (own_d2 (own_xl p2))), .second, .val (.double (own_ref (own_xl p2))), .second, .val (.double (own_tol (own_xl p2))), .second, .val (.double (own_diff (own_xl p2))), .second] [(.double (own_tol (own_xl p2))), (.double (own_ndiff (own_xl p2)))]) (o := .g) (x := (own_ndiff (own_xl p2))) (y := (own_tol (own_xl p2))) (v := (cmpValue (FP.dcmp (own_ndiff (own_xl p2)) (own_tol (own_xl p2))) .g)) (rest := []) X13.here hx rfl (hb hby at_154) rfl rfl k) ?_
    refine OGoal.mp (S' := (T11.setTop (mkF m 158 #[.val (.int p1), .val (.long p2), .second, .val (.int p3), .val (.double (own_xl p2)), .second, .val (.double (own_s11 (own_xl p2))), .second, .val (.double (own_x2 (own_xl p2))), .second, .val (.double (own_n8 (own_xl p2))), .second, .val (.double (own_x4 (own_xl p2))), .second, .val (.double (own_x8 (own_xl p2))), .second, .val (.double (own_d2 (own_xl p2))), .second, .val (.double (own_ref (own_xl p2))), .second, .val (.double (own_tol (own_xl p2))), .second, .val (.double (own_diff (own_xl p2))), .second] []))) (fun _ k => XS.ifNo X13.here hx rfl (hb hby at_155) rfl (XT.i0_gt_f (own_c3 hX)) k) ?_
    refine OGoal.mp (S' := (T11.setTop (mkF m 159 #[.val (.int p1), .val (.long p2), .second, .val (.int p3), .val (.double (own_xl p2)), .second, .val (.double (own_s11 (own_xl p2))), .second, .val (.double (own_x2 (own_xl p2))), .second, .val (.double (own_n8 (own_xl p2))), .second, .val (.double (own_x4 (own_xl p2))), .second, .val (.double (own_x8 (own_xl p2))), .second, .val (.double (own_d2 (own_xl p2))), .second, .val (.double (own_ref (own_xl p2))), .second, .val (.double (own_tol (own_xl p2))), .second, .val (.double (own_diff (own_xl p2))), .second] [(.int (1 : Int32))]))) (fun _ k => XS.iconst X13.here hx rfl (hb hby at_158) k) ?_
    refine OGoal.mp (S' := (T11.setTop (mkF m 163 #[.val (.int p1), .val (.long p2), .second, .val (.int p3), .val (.double (own_xl p2)), .second, .val (.double (own_s11 (own_xl p2))), .second, .val (.double (own_x2 (own_xl p2))), .second, .val (.double (own_n8 (own_xl p2))), .second, .val (.double (own_x4 (own_xl p2))), .second, .val (.double (own_x8 (own_xl p2))), .second, .val (.double (own_d2 (own_xl p2))), .second, .val (.double (own_ref (own_xl p2))), .second, .val (.double (own_tol (own_xl p2))), .second, .val (.double (own_diff (own_xl p2))), .second] [(.int (1 : Int32))]))) (fun _ k => XS.goto X13.here hx rfl (pc0 := 159) (pc' := 163) rfl (hb hby at_159) (by decide) (by decide) k) ?_
    refine oRetZ X13 hx hlk hret (Or.inr rfl) (hb hby at_163) ?_ (by decide) (by decide)
    exact ⟨rfl, N17⟩
set_option maxRecDepth 65536 in
set_option maxHeartbeats 40000000 in
theorem comes_1 {Post : Tables → Env → Array Value → State → Outcome → State → Prop} (hpost : ∀ tb e args s v u, (limb_1_1.after args s (.returned v) u = true ∧ limb_1_2.after args s (.returned v) u = true ∧ True) → FrameEnd s (.returned v) u (Jvm.fieldLocs frame_1_writes args s ++ Jvm.arrayLocs frame_1_arrays args s ++ Jvm.staticLocs frame_1_statics s) 0 0 → Post tb e args s (.returned v) u) :
    ArmFor flags0 classFile x code maxLocals ret World_1 tables_1 room_1 Calls_1 rest_1 Pre_1 Post := by
  intro l hfl _ _ p e ha hc hk s m args below hf hA hF happ hP
  obtain ⟨hcalls, hrest, hpre⟩ := hP
  obtain ⟨-, -, -, hnamed, -, -, -, hat⟩ := (Spec.applies_iff hf).mp happ
  obtain ⟨hg, hn⟩ := and_e (Cond.before_iff.mp (show (Jvm.Cond.and given_1 narrow_1).before args s = true from hpre))
  obtain ⟨hcnt, hg⟩ := and_e hg
  obtain ⟨w0, w1, w2, rfl⟩ : ∃ w0 w1 w2 : Value, args = #[w0, w1, w2] := by
    have hs : args.size = 3 := by simpa [Cond.value, given_1] using hcnt
    obtain ⟨L⟩ := args
    match L, hs with
    | [w0, w1, w2], _ => exact ⟨w0, w1, w2, rfl⟩
  have hw := fun d (hd : d ∈ tables_1) => atoms_spec (ws := Jvm.Cond.code x code maxLocals ret :: tables_1) hat d (List.mem_cons_of_mem _ hd)
  have hfit : Fit s := fun {y c} hc i hi => by
    obtain ⟨ha, rfl⟩ := Array.getElem?_eq_some_iff.mp hc
    have q := List.all_eq_true.mp ((Array.all_eq_true_iff_forall_mem.mp hF) _ (Array.getElem_mem ha)) i (List.mem_range.mpr hi)
    simpa [Array.getElem?_eq_getElem hi] using q
  obtain ⟨hg0, hg⟩ := and_e hg
  obtain ⟨i0, ei0⟩ := is_v hg0
  obtain rfl : w0 = (.int i0) := Option.some.inj ei0
  obtain ⟨hg1, hg⟩ := and_e hg
  obtain ⟨i1, ei1⟩ := isL_v hg1
  obtain rfl : w1 = (.long i1) := Option.some.inj ei1
  obtain ⟨i2, ei2⟩ := is_v hg
  obtain rfl : w2 = (.int i2) := Option.some.inj ei2
  obtain ⟨n, o, h1, h2, h3, _, L, rfl, ⟨rfl, N⟩, hq⟩ := rm0 l s _ hw i0 i1 i2 s.heap s.heap.size (Nat.le_refl _)  tables_1 p e ha hc hk s m _ below hf ((Spec.applies_iff_loose hf).mp happ).1 ⟨rfl, State.Warmed39.refl s, rfl⟩ trivial
  refine ⟨n, _, h1, h2, h3, hpost _ _ _ _ _ _ ⟨Cond.after_iff.mpr rfl, Cond.after_iff.mpr (eq_i res_at (Term.int_eval (1)) rfl), trivial⟩ ⟨hq.1, hq.2.1, (hq.2.2.sift fun y hy => Or.inr (N y hy)).mono (by decide) (by decide)⟩⟩
theorem main_1_1 : Claimed_1_1 := comes_1 fun _ _ _ _ _ _ h hF => ⟨h.1, hF⟩
theorem main_1_2 : Claimed_1_2 := comes_1 fun _ _ _ _ _ _ h hF => ⟨h.2.1, hF⟩
end Jvm.Pilot.@@N@@
namespace Jvm.Pilot.@@N@@
open Jvm Jvm.ClassFile Sem Op Lib Jvm.Free Jvm.Stand Jvm.Pilot.@@N@@.Jvm.D
/-! MADE BY PROGRAM (witnessworld.py) out of the Statement's table words and the real class files: 9 classes; the members and pool entries that the words name. The judged class is class 1, her method 1. -/
namespace start1
open Jvm.ClassFile
def u (s : String) : CpInfo := .utf8 (stringToUtf16 s)
/-- a pool by its gaps: so many unusable entries, then the entry; so many at the end -/
def gap : Nat → List CpInfo → List CpInfo
  | 0, r => r
  | n + 1, r => .unusable :: gap n r
def poolList (es : List (Nat × CpInfo)) (last : Nat) : List CpInfo := es.foldr (fun e r => gap e.1 (e.2 :: r)) (gap last [])
def pool (es : List (Nat × CpInfo)) (last : Nat) : Array CpInfo := ⟨poolList es last⟩
def fileOf (pool : Array CpInfo) (this : Nat) (attrs : Array Attribute := #[]) (ms : Array MethodInfo := #[]) (fl : Nat := 33) (sup : Nat := 0) (ifs : Array Nat := #[]) (fds : Array FieldInfo := #[]) : ClassFile where
  minorVersion := 0
  majorVersion := 65
  constantPool := pool
  accessFlags := fl
  thisClass := this
  superClass := sup
  interfaces := ifs
  fields := fds
  methods := ms
  attributes := attrs
def plain (name : String) (sup : Option ClassId) : Class where
  name := name
  kind := .ordinary
  loader := none
  accessFlags := 33
  super := sup
  interfaces := #[]
  cf := none
  fields := #[]
  methods := #[]
  instanceTypes := #[]
  staticTypes := #[]
  resolved := #[]
  callSites := []
  init := .initialized
  statics := none
  mirror := none

def pool0 : Array CpInfo := pool [(5, u "<init>"), (0, u "()V"), (1, .class_ 10), (1, u "java/lang/Object")] 113

def k0m0 : Method := { name := "<init>", desc := "()V", sig := { parameters := [], returnType := none }, accessFlags := 1, code := none }
/-- java/lang/Object -/
def k0 : Class := { plain "java/lang/Object" none with
  accessFlags := 33
  interfaces := #[]
  cf := some (fileOf pool0 8 #[] #[{ accessFlags := 1, nameIndex := 5, descriptorIndex := 6, attributes := #[] }] 33 0 #[] #[])
  fields := #[]
  methods := #[k0m0]
  instanceTypes := #[]
  staticTypes := #[]
  resolved := Array.replicate 124 none
  statics := none }

def pool1 : Array CpInfo := pool [(2, .class_ 4), (1, u "java/lang/Object"), (0, u "<init>"), (0, u "()V"), (0, .integer 65535), (0, .double 4625196817309499392), (1, .long 160), (1, .long 4611686018427387903), (1, .methodref 15 16), (0, .class_ 17), (0, .nameAndType 18 19), (0, u "com/example/andesite/andesite/model/PortableMath"), (0, u "stirlingSeries"), (0, u "(D)D"), (0, .double 4668845229908951040), (1, .double 4646835206144131072), (1, .double 4638848353679966208), (1, .double 4636666922610458624), (1, .double 4639129828656676864), (1, .double 4684954724523311104), (1, .double 4397347889687374747), (1, .class_ 35), (0, u "com/example/andesite/andesite/model/PortableMathStirlingSeriesPinLaw"), (2, u "law"), (0, u "(IJI)Z")] 3

def k1m0 : Method := { name := "<init>", desc := "()V", sig := { parameters := [], returnType := none }, accessFlags := 1, code := none }
def k1c1 : Code := { maxStack := 6, maxLocals := 24, code := code, exceptionTable := #[], attributes := #[] }
def k1m1 : Method := { name := "law", desc := "(IJI)Z", sig := { parameters := [.int, .long, .int], returnType := some .boolean }, accessFlags := 9, code := some k1c1 }
/-- com/example/andesite/andesite/model/PortableMathStirlingSeriesPinLaw -/
def k1 : Class := { plain "com/example/andesite/andesite/model/PortableMathStirlingSeriesPinLaw" (some 0) with
  accessFlags := 49
  interfaces := #[]
  cf := some (fileOf pool1 34 #[] #[{ accessFlags := 1, nameIndex := 5, descriptorIndex := 6, attributes := #[] }, { accessFlags := 9, nameIndex := 38, descriptorIndex := 39, attributes := #[] }] 49 2 #[] #[])
  fields := #[]
  methods := #[k1m0, k1m1]
  instanceTypes := #[]
  staticTypes := #[]
  resolved := Array.replicate 43 none
  statics := none }

def pool2 : Array CpInfo := pool [(1, .class_ 2), (0, u "com/example/andesite/andesite/model/PortableMath"), (1, .class_ 6), (1, u "java/lang/Object"), (0, u "<init>"), (0, u "()V"), (5, u "(D)D"), (24, u "POWERS_OF_TWO"), (0, u "[D"), (15, u "stirlingSeries"), (0, .double 4590669220166325589), (1, .double 4568551541996350487), (1, .double 4560459359808757786), (1, .double 4558629325674461204), (1, .double 4652939694701543424), (9, u "STEP_BITS"), (0, u "I"), (2, u "STEPS"), (1, u "STEPS_OVER_LOG_TWO"), (0, u "D"), (0, u "STEP_HIGH"), (0, u "STEP_LOW"), (0, u "LARGEST_ARGUMENT"), (0, u "STIRLING_FROM"), (0, u "HALF_LOG_TWO_PI")] 7

def k2m0 : Method := { name := "<init>", desc := "()V", sig := { parameters := [], returnType := none }, accessFlags := 2, code := none }
def k2c1 : Code := { maxStack := 20, maxLocals := 6, code := prog_71_method_4_code, exceptionTable := #[], attributes := #[] }
def k2m1 : Method := { name := "stirlingSeries", desc := "(D)D", sig := { parameters := [.double], returnType := some .double }, accessFlags := 8, code := some k2c1 }
/-- com/example/andesite/andesite/model/PortableMath -/
def k2 : Class := { plain "com/example/andesite/andesite/model/PortableMath" (some 0) with
  accessFlags := 32
  interfaces := #[]
  cf := some (fileOf pool2 1 #[] #[{ accessFlags := 2, nameIndex := 7, descriptorIndex := 8, attributes := #[] }, { accessFlags := 8, nameIndex := 56, descriptorIndex := 14, attributes := #[] }] 32 4 #[] #[{ accessFlags := 26, nameIndex := 75, descriptorIndex := 76, attributes := #[] }, { accessFlags := 26, nameIndex := 79, descriptorIndex := 76, attributes := #[] }, { accessFlags := 26, nameIndex := 81, descriptorIndex := 82, attributes := #[] }, { accessFlags := 26, nameIndex := 83, descriptorIndex := 82, attributes := #[] }, { accessFlags := 26, nameIndex := 84, descriptorIndex := 82, attributes := #[] }, { accessFlags := 26, nameIndex := 85, descriptorIndex := 82, attributes := #[] }, { accessFlags := 24, nameIndex := 86, descriptorIndex := 82, attributes := #[] }, { accessFlags := 26, nameIndex := 87, descriptorIndex := 82, attributes := #[] }, { accessFlags := 26, nameIndex := 39, descriptorIndex := 40, attributes := #[] }])
  fields := #[{ name := "STEP_BITS", type := .int, accessFlags := 26, slot := 0, constantValue := 0 }, { name := "STEPS", type := .int, accessFlags := 26, slot := 1, constantValue := 0 }, { name := "STEPS_OVER_LOG_TWO", type := .double, accessFlags := 26, slot := 2, constantValue := 0 }, { name := "STEP_HIGH", type := .double, accessFlags := 26, slot := 3, constantValue := 0 }, { name := "STEP_LOW", type := .double, accessFlags := 26, slot := 4, constantValue := 0 }, { name := "LARGEST_ARGUMENT", type := .double, accessFlags := 26, slot := 5, constantValue := 0 }, { name := "STIRLING_FROM", type := .double, accessFlags := 24, slot := 6, constantValue := 0 }, { name := "HALF_LOG_TWO_PI", type := .double, accessFlags := 26, slot := 7, constantValue := 0 }, { name := "POWERS_OF_TWO", type := (.array .double), accessFlags := 26, slot := 8, constantValue := 0 }]
  methods := #[k2m0, k2m1]
  instanceTypes := #[]
  staticTypes := #[.int, .int, .double, .double, .double, .double, .double, .double, (.array .double)]
  resolved := Array.replicate 95 none
  statics := none }

def pool3 : Array CpInfo := pool [(1, u "java/lang/Cloneable"), (0, .class_ 1), (0, u "java/lang/Object"), (0, .class_ 3)] 3

/-- java/lang/Cloneable -/
def k3 : Class := { plain "java/lang/Cloneable" (some 0) with
  accessFlags := 1537
  interfaces := #[]
  cf := some (fileOf pool3 2 #[] #[] 1537 4 #[] #[])
  fields := #[]
  methods := #[]
  instanceTypes := #[]
  staticTypes := #[]
  resolved := Array.replicate 8 none
  statics := none }

def pool4 : Array CpInfo := pool [(1, u "java/io/Serializable"), (0, .class_ 1), (0, u "java/lang/Object"), (0, .class_ 3)] 3

/-- java/io/Serializable -/
def k4 : Class := { plain "java/io/Serializable" (some 0) with
  accessFlags := 1537
  interfaces := #[]
  cf := some (fileOf pool4 2 #[] #[] 1537 4 #[] #[])
  fields := #[]
  methods := #[]
  instanceTypes := #[]
  staticTypes := #[]
  resolved := Array.replicate 8 none
  statics := none }

/-- the primitive byte -/
def k5 : Class := { plain "byte" none with kind := .primitive 'B', accessFlags := 0x411 }
/-- [B -/
def k6 : Class := { plain "[B" (some 0) with kind := .array 5 .byte, interfaces := #[3, 4], accessFlags := 1041 }

/-- the primitive int -/
def k7 : Class := { plain "int" none with kind := .primitive 'I', accessFlags := 0x411 }
/-- [I -/
def k8 : Class := { plain "[I" (some 0) with kind := .array 7 .int, interfaces := #[3, 4], accessFlags := 1041 }

def heap : Heap := #[]
def classes : Array Class := #[k0, k1, k2, k3, k4, k5, k6, k7, k8]
def interned : List (Array UInt16 × Addr) := []
def slotsUsed : Nat := 0
def theMethod : MethodId := ⟨1, 1⟩
def args0 : Array Value := #[.int 5, .long 7, .int 0]
def aboutOver (below : List Frame) : State where
  vm := { classes := classes, interned := interned.toArray }
  heap := heap
  slotsUsed := slotsUsed
  threads := #[{ frames := .invoking theMethod args0 :: below }]
def below0 : List Frame := [.native { method := ⟨0, 0⟩, args := #[] }]
def about1 : State := aboutOver below0
def p0 : Program := .bare "" "" ""
def e0 : Env := launch0.env 0 0 0
theorem w_frames : about1.frames = Frame.invoking theMethod args0 :: below0 := rfl
set_option maxRecDepth 65536 in
theorem w_args : argsFit about1.vm theMethod args0 = true := by decide +kernel
set_option maxRecDepth 65536 in
theorem w_heap : heapFits about1 = true := by decide +kernel
set_option maxRecDepth 65536 in
theorem w_runnable : about1.curStatus? = some .runnable := by decide +kernel
set_option maxRecDepth 65536 in
theorem w_alone : about1.alone = true := by decide +kernel
set_option maxRecDepth 65536 in
theorem w_named : about1.methodNamed? x = some theMethod := by decide +kernel
set_option maxRecDepth 65536 in
theorem w_hears : about1.hears theMethod below0 = true := by decide +kernel
set_option maxRecDepth 65536 in
theorem w_ripe : about1.ripe theMethod args0 below0 = true := by decide +kernel
theorem w_running : about1.status = .running := rfl
set_option maxRecDepth 65536 in
theorem w_room : about1.hasRoom e0.platform room_1 = true :=
  launch0.hasRoom_least _ room_1 (by decide +kernel) (by decide +kernel) (by decide +kernel) (by decide +kernel) (by decide +kernel) (by decide +kernel)
theorem allAtoms_all (ts : List Jvm.Cond) (a : Array Jvm.Value) (st : Jvm.State) : (allAtoms ts).before a st = ts.all (fun c => c.before a st) := by
  induction ts with
  | nil => rfl
  | cons c t ih =>
    show (Jvm.Cond.and c (allAtoms t)).before a st = _
    rw [Jvm.Cond.before_and, ih, List.all_cons]
def words1 : List Jvm.Cond := Jvm.Cond.code x code maxLocals ret :: tables_1
/-- a 'code' word, met by the world's own term for the bytes: nothing is compared byte by byte -/
theorem code_word {y : MethodName} {bytes : ByteArray} {mx : Nat} {rt : Option FieldType} {a : Array Value} {s : State} {m : MethodId} {meth : Method} {c : Code} (h1 : s.methodNamed? y = some m) (h2 : s.vm.method? m = some meth) (h3 : meth.code = some c) (h4 : c.code = bytes)
    (h5 : (c.maxLocals == mx && c.exceptionTable.isEmpty && decide (c.maxStack ≤ mostOperands) && decide (meth.sig.returnType = rt) && !meth.locks && decide (parseMethodDescriptor y.desc = some meth.sig)) = true) : (Jvm.Cond.code y bytes mx rt).before a s = true := by
  simp only [Bool.and_eq_true, beq_iff_eq, Bool.not_eq_true', decide_eq_true_eq] at h5
  obtain ⟨⟨⟨⟨⟨g1, g2⟩, g3⟩, g4⟩, g5⟩, g6⟩ := h5
  simp [Cond.before, Cond.holds, Cond.value, h1, h2, h3, h4, g1, g2, g3, g4, g5, g6]
def isCode : Jvm.Cond → Bool
  | .code _ _ _ _ => true
  | _ => false
theorem all_split {L : List Jvm.Cond} {P : Jvm.Cond → Bool} (h1 : L.all (fun c => isCode c || P c) = true) (h2 : ∀ c ∈ L.filter isCode, P c = true) : L.all P = true := by
  refine List.all_eq_true.mpr fun c hc => ?_
  have h := List.all_eq_true.mp h1 c hc
  rcases Bool.eq_false_or_eq_true (isCode c) with hi | hi
  · exact h2 c (List.mem_filter.mpr ⟨hc, hi⟩)
  · simpa [hi] using h
set_option maxRecDepth 65536 in
theorem w_c0 : (Jvm.Cond.code x code maxLocals ret).before args0 about1 = true := code_word (m := ⟨1, 1⟩) (meth := k1m1) (c := k1c1) (by decide +kernel) rfl rfl rfl (by decide +kernel)
set_option maxRecDepth 65536 in
theorem w_c1 : (Jvm.Cond.code ({ cls := "com/example/andesite/andesite/model/PortableMath", name := "stirlingSeries", desc := "(D)D" } : Jvm.MethodName) prog_71_method_4_code (6 : Nat) (Option.some Jvm.ClassFile.FieldType.double)).before args0 about1 = true := code_word (m := ⟨2, 1⟩) (meth := k2m1) (c := k2c1) (by decide +kernel) rfl rfl rfl (by decide +kernel)
def codes1 : List Jvm.Cond := [Jvm.Cond.code x code maxLocals ret, Jvm.Cond.code ({ cls := "com/example/andesite/andesite/model/PortableMath", name := "stirlingSeries", desc := "(D)D" } : Jvm.MethodName) prog_71_method_4_code (6 : Nat) (Option.some Jvm.ClassFile.FieldType.double)]
set_option maxRecDepth 65536 in
theorem codes_eq : words1.filter isCode = codes1 := rfl
theorem w_codes : ∀ c ∈ words1.filter isCode, c.before args0 about1 = true := by
  rw [codes_eq]
  intro c hc
  simp only [codes1, List.mem_cons, List.not_mem_nil, or_false] at hc
  rcases hc with rfl | rfl
  · exact w_c0
  · exact w_c1
set_option maxRecDepth 65536 in
theorem w_t1 : words1.all (fun c => isCode c || c.before args0 about1) = true := by decide +kernel
theorem w_tables : (allAtoms (Jvm.Cond.code x code maxLocals ret :: tables_1)).before args0 about1 = true := by
  rw [allAtoms_all]
  show words1.all (fun c => c.before args0 about1) = true
  refine all_split ?_ w_codes
  rw [w_t1]
set_option maxRecDepth 65536 in
theorem w_case : (Jvm.Cond.and given_1 narrow_1).before args0 about1 = true := by decide +kernel
theorem w_applies : (headSpec (Jvm.Cond.code x code maxLocals ret :: tables_1) room_1).applies x e0.platform about1 = true :=
  (Spec.applies_iff w_frames).mpr ⟨w_running, w_runnable, w_alone, w_named, w_hears, w_ripe, w_room, w_tables⟩
theorem atStart : AtStart classFile x code maxLocals ret World_1 tables_1 room_1 Calls_1 rest_1 Pre_1 launch0 p0 e0 about1 theMethod args0 below0 :=
  ⟨lists_1, trivial, launch0.admits_env _ _ _, launch0.least_env, fairChoices_fair.cas, fairChoices_fair.clock, w_frames, w_args, w_heap, w_applies, trivial, trivial, w_case⟩
end start1
theorem witness_1 : WitnessClaimed_1 := ⟨start1.p0, start1.e0, start1.about1, start1.theMethod, start1.args0, start1.below0, start1.atStart⟩
end Jvm.Pilot.@@N@@
