import JvmDerived
import JvmDerived.Pilot.@@N@@Statement
import JvmDerived.Pilot.@@N@@Code
set_option linter.unusedVariables false
set_option linter.unusedSimpArgs false
namespace Jvm.Pilot.@@N@@
open Jvm Jvm.ClassFile Sem Op Lib Jvm.Free Jvm.Stand Jvm.LawKit Jvm.RoadKit Bundle Jvm.Pilot.@@N@@.Jvm.D
/-! own helpers: the goal of a walk as one predicate, its steps, its calls -/
section OwnKit
variable {p : Program} {l : Launch} {e : Env} {R : Room} {s : State} {m : MethodId} {args : Array Value} {below : List Frame} {meth : Method} {c : Code} {T : State} {locs : List Loc} {cells slots : Nat} {Z : State} {a0 : Array Value} {h : Heap} {Q : Option Value → Heap → List Loc → Prop} {kc ks : Nat}
/-- from S the run ends, returns, and Q holds of what it returns, of the heap and of the places written -/
def OGoal (p : Program) (e : Env) (below : List Frame) (s : State) (Q : Option Value → Heap → List Loc → Prop) (kc ks : Nat) (S : State) : Prop :=
  ∃ s₂ o, Steps p.tables e below S s₂ ∧ s₂.status = .running ∧ Ended s₂ below o ∧ ∃ v L, o = .returned v ∧ Q v s₂.heap L ∧ FrameEnd s o s₂ L kc ks
theorem OGoal.mp {S S' : State} (k : ∀ t, Steps p.tables e below S' t → Steps p.tables e below S t) (g : OGoal p e below s Q kc ks S') : OGoal p e below s Q kc ks S := by
  obtain ⟨s₂, o, h1, h2⟩ := g
  exact ⟨s₂, o, k _ h1, h2⟩
theorem oRet (X : Stand p l e R s m args below meth c T locs cells slots) (hx : p.tables.exec = Jvm.exec) (hlk : meth.locks = false) {pc : Nat} {Ls : Array Slot} {w : Value} {t : FieldType} {i : Instr} {rest : List Value} (hret : meth.sig.returnType = some t) (hn : narrow t w = w)
    (hi : (i = .ireturn ∧ (t = .int ∨ t = .boolean ∨ t = .byte ∨ t = .char ∨ t = .short) ∧ ∃ z, w = .int z) ∨ (i = .lreturn ∧ t = .long ∧ ∃ z, w = .long z) ∨ (i = .dreturn ∧ t = .double ∧ ∃ z, w = .double z) ∨ (i = .freturn ∧ t = .float ∧ ∃ z, w = .float z) ∨ (i = .areturn ∧ t.isReference = true ∧ w.isRef = true))
    (hd : decode c.code pc = .ok (i, 1)) (hQ : Q (some w) T.heap locs) (hc : cells ≤ kc) (hs : slots ≤ ks) : OGoal p e below s Q kc ks (T.setTop (mkF m pc Ls (w :: rest))) := by
  obtain ⟨fs, hr, hrun, hended, hW, hsame⟩ := X.leave (v := some w) (fun q => by rw [hret] at q; cases q) hlk
  exact ⟨_, _, retOut X hx hret hn hi hd hr, hrun, hended, _, _, rfl, hQ, ⟨_, rfl⟩, hW, hsame.mono hc hs⟩
theorem oRetI (X : Stand p l e R s m args below meth c T locs cells slots) (hx : p.tables.exec = Jvm.exec) (hlk : meth.locks = false) {pc : Nat} {Ls : Array Slot} {z : Int32} {rest : List Value} (hret : meth.sig.returnType = some .int)
    (hd : decode c.code pc = .ok (.ireturn, 1)) (hQ : Q (some (.int z)) T.heap locs) (hc : cells ≤ kc) (hs : slots ≤ ks) : OGoal p e below s Q kc ks (T.setTop (mkF m pc Ls (.int z :: rest))) :=
  oRet X hx hlk hret rfl (Or.inl ⟨rfl, Or.inl rfl, _, rfl⟩) hd hQ hc hs
theorem oRetZ (X : Stand p l e R s m args below meth c T locs cells slots) (hx : p.tables.exec = Jvm.exec) (hlk : meth.locks = false) {pc : Nat} {Ls : Array Slot} {z : Int32} {rest : List Value} (hret : meth.sig.returnType = some .boolean) (hz : z = 0 ∨ z = 1)
    (hd : decode c.code pc = .ok (.ireturn, 1)) (hQ : Q (some (.int z)) T.heap locs) (hc : cells ≤ kc) (hs : slots ≤ ks) : OGoal p e below s Q kc ks (T.setTop (mkF m pc Ls (.int z :: rest))) :=
  oRet X hx hlk hret (by rcases hz with rfl | rfl <;> rfl) (Or.inl ⟨rfl, Or.inr (Or.inl rfl), _, rfl⟩) hd hQ hc hs
theorem oRetJ (X : Stand p l e R s m args below meth c T locs cells slots) (hx : p.tables.exec = Jvm.exec) (hlk : meth.locks = false) {pc : Nat} {Ls : Array Slot} {z : Int64} {rest : List Value} (hret : meth.sig.returnType = some .long)
    (hd : decode c.code pc = .ok (.lreturn, 1)) (hQ : Q (some (.long z)) T.heap locs) (hc : cells ≤ kc) (hs : slots ≤ ks) : OGoal p e below s Q kc ks (T.setTop (mkF m pc Ls (.long z :: rest))) :=
  oRet X hx hlk hret rfl (Or.inr (Or.inl ⟨rfl, rfl, _, rfl⟩)) hd hQ hc hs
theorem oRetD (X : Stand p l e R s m args below meth c T locs cells slots) (hx : p.tables.exec = Jvm.exec) (hlk : meth.locks = false) {pc : Nat} {Ls : Array Slot} {z : UInt64} {rest : List Value} (hret : meth.sig.returnType = some .double)
    (hd : decode c.code pc = .ok (.dreturn, 1)) (hQ : Q (some (.double z)) T.heap locs) (hc : cells ≤ kc) (hs : slots ≤ ks) : OGoal p e below s Q kc ks (T.setTop (mkF m pc Ls (.double z :: rest))) :=
  oRet X hx hlk hret rfl (Or.inr (Or.inr (Or.inl ⟨rfl, rfl, _, rfl⟩))) hd hQ hc hs
theorem oNarC {x : Int32} (h : 0 ≤ x.toInt ∧ x.toInt < 65536) : x.toUInt32.toUInt16.toUInt32.toInt32 = x := Int32.toInt_inj.mp (by have q := c_i2c x; omega)
theorem oNarB {x : Int32} (h : -128 ≤ x.toInt ∧ x.toInt < 128) : x.toInt8.toInt32 = x := Int32.toInt_inj.mp (by have q := c_i2b x; omega)
theorem oNarBB (x : Int32) : nar .byte x.toInt8.toInt32 = x.toInt8.toInt32 := oNarB ⟨(c_i2b x).2.1, (c_i2b x).2.2⟩
theorem oRetC (X : Stand p l e R s m args below meth c T locs cells slots) (hx : p.tables.exec = Jvm.exec) (hlk : meth.locks = false) {pc : Nat} {Ls : Array Slot} {z : Int32} {rest : List Value} (hret : meth.sig.returnType = some .char) (hz : 0 ≤ z.toInt ∧ z.toInt < 65536)
    (hd : decode c.code pc = .ok (.ireturn, 1)) (hQ : Q (some (.int z)) T.heap locs) (hc : cells ≤ kc) (hs : slots ≤ ks) : OGoal p e below s Q kc ks (T.setTop (mkF m pc Ls (.int z :: rest))) :=
  oRet X hx hlk hret (congrArg Value.int (oNarC hz)) (Or.inl ⟨rfl, Or.inr (Or.inr (Or.inr (Or.inl rfl))), _, rfl⟩) hd hQ hc hs
theorem oRetB (X : Stand p l e R s m args below meth c T locs cells slots) (hx : p.tables.exec = Jvm.exec) (hlk : meth.locks = false) {pc : Nat} {Ls : Array Slot} {z : Int32} {rest : List Value} (hret : meth.sig.returnType = some .byte) (hz : -128 ≤ z.toInt ∧ z.toInt < 128)
    (hd : decode c.code pc = .ok (.ireturn, 1)) (hQ : Q (some (.int z)) T.heap locs) (hc : cells ≤ kc) (hs : slots ≤ ks) : OGoal p e below s Q kc ks (T.setTop (mkF m pc Ls (.int z :: rest))) :=
  oRet X hx hlk hret (congrArg Value.int (oNarB hz)) (Or.inl ⟨rfl, Or.inr (Or.inr (Or.inl rfl)), _, rfl⟩) hd hQ hc hs
theorem oRetA (X : Stand p l e R s m args below meth c T locs cells slots) (hx : p.tables.exec = Jvm.exec) (hlk : meth.locks = false) {pc : Nat} {Ls : Array Slot} {w : Value} {t : FieldType} {rest : List Value} (hret : meth.sig.returnType = some t) (ht : t.isReference = true) (hw : w.isRef = true)
    (hd : decode c.code pc = .ok (.areturn, 1)) (hQ : Q (some w) T.heap locs) (hc : cells ≤ kc) (hs : slots ≤ ks) : OGoal p e below s Q kc ks (T.setTop (mkF m pc Ls (w :: rest))) :=
  oRet X hx hlk hret (by cases t <;> cases w <;> first | rfl | (cases ht; done) | (cases hw; done)) (Or.inr (Or.inr (Or.inr (Or.inr ⟨rfl, ht, hw⟩)))) hd hQ hc hs
theorem oRetV (X : Stand p l e R s m args below meth c T locs cells slots) (hx : p.tables.exec = Jvm.exec) (hlk : meth.locks = false) {pc : Nat} {Ls : Array Slot} (hret : meth.sig.returnType = none)
    (hd : decode c.code pc = .ok (.return_, 1)) (hQ : Q none T.heap locs) (hc : cells ≤ kc) (hs : slots ≤ ks) : OGoal p e below s Q kc ks (T.setTop (mkF m pc Ls [])) := by
  obtain ⟨fs, hr, hrun, hended, hW, hsame⟩ := X.leave (v := none) (fun _ => rfl) hlk
  exact ⟨_, _, X.returnOut hx hret hd hr, hrun, hended, _, _, rfl, hQ, ⟨_, rfl⟩, hW, hsame.mono hc hs⟩
/-- the contract of a method: called with as' over the heap h it returns, and Q holds; kc cells and ks slots are made at the most -/
def OConK (l : Launch) (Z : State) (y : MethodName) (bytes : ByteArray) (maxL : Nat) (ret : Option FieldType) (rm : Room) (kc ks : Nat) (as' : Array Value) (h : Heap) (Q : Option Value → Heap → List Loc → Prop) : Prop :=
  ∀ ws : List Jvm.Cond, MetFree l y (head1 (Jvm.Cond.code y bytes maxL ret :: ws) rm) (fun a U => a = as' ∧ Z.Warmed39 U.vm ∧ U.heap = h) (fun _ _ _ _ _ => True) (fun _ U o U' => ∃ v L, o = .returned v ∧ Q v U'.heap L ∧ FrameEnd U o U' L kc ks)
abbrev OCon (l : Launch) (Z : State) (y : MethodName) (bytes : ByteArray) (maxL : Nat) (ret : Option FieldType) (rm : Room) (as' : Array Value) (h : Heap) (Q : Option Value → Heap → List Loc → Prop) : Prop := OConK l Z y bytes maxL ret rm rm.cells rm.slots as' h Q
theorem OConK.intro {y : MethodName} {bytes : ByteArray} {maxL : Nat} {ret : Option FieldType} {rm : Room} {as' : Array Value} {Ls : Array Slot} (hpf : plainFor y = true) (ef : ∀ m, entryFrame m as' maxL = mkF m 0 Ls [])
    (H : ∀ p e s m below meth c s₁, p.tables.exec = Jvm.exec → c.code = bytes → c.maxLocals = maxL → s.vm.findClass y.cls = some m.cls → meth.name = y.name → meth.sig.returnType = ret → meth.locks = false → Z.Warmed39 s.vm →
      Stand p l e rm s m as' below meth c s₁ [] 0 0 → s₁.heap = h → OGoal p e below s Q kc ks (s₁.setTop (mkF m 0 Ls []))) : OConK l Z y bytes maxL ret rm kc ks as' h Q := by
  intro ws
  refine MetFree.of_bodySF hpf hisR ?_
  intro p e s m args below meth c s₁ Bd hml hP hK
  obtain ⟨rfl, hZ, hh⟩ := hP
  obtain ⟨s₂, o, h1, h2, h3, h4⟩ := H p e s m below meth c s₁ Bd.exec Bd.bytes hml (findClass_of_methodNamed Bd.named) (name_of_methodNamed Bd.named Bd.method).1 Bd.returns (BodyLoose.notSynchronized Bd) hZ (Stand.of_body Bd) (by rw [← hh, Bd.state]; rfl)
  exact ⟨s₂, o, castTop (ef m) h1, h2, h3, h4⟩
/-- weaker promise -/
theorem OConK.imp {y : MethodName} {bytes : ByteArray} {maxL : Nat} {ret : Option FieldType} {rm : Room} {as' : Array Value} {Q' : Option Value → Heap → List Loc → Prop} (H : OConK l Z y bytes maxL ret rm kc ks as' h Q) (k : ∀ v h' L, Q v h' L → Q' v h' L) : OConK l Z y bytes maxL ret rm kc ks as' h Q' := by
  intro ws p e ha hc hk s m args below hf happ hP hK
  obtain ⟨n, o, h1, h2, h3, v, L, h4, h5, h6⟩ := H ws p e ha hc hk s m args below hf happ hP hK
  exact ⟨n, o, h1, h2, h3, v, L, h4, k _ _ _ h5, h6⟩
theorem oCallS (X : Stand p l e R s m args below meth c T locs cells slots) (hx : p.tables.exec = Jvm.exec) (hZ : Z.Warmed39 s.vm) {own : String} {index : Nat} {y : MethodName} {bytes : ByteArray} {maxL : Nat} {ret : Option FieldType} {rm : Room} {as' : Array Value} {Qc : Option Value → Heap → List Loc → Prop}
    (hown : s.vm.findClass own = some m.cls) (w1 : (Jvm.Cond.methodLink own index y).before a0 Z = true) (w2 : (Jvm.Cond.static y).before a0 Z = true) (w3 : (Jvm.Cond.initialized y.cls).before a0 Z = true) (w4 : (Jvm.Cond.code y bytes maxL ret).before a0 Z = true)
    (hy : y.cls ≠ "java/lang/invoke/MethodHandle" ∧ y.cls ≠ "java/lang/invoke/VarHandle") (hM : OCon l Z y bytes maxL ret rm as' h Qc) (eT : T.heap = h) {pc : Nat} {Ls : Array Slot} {st : List Value} (argsL rest : List Value) (hst : st = argsL.reverse ++ rest) (has : argsL.toArray = as') (hsize : Ls.size = c.maxLocals)
    (hlen : ∀ sig, parseMethodDescriptor y.desc = some sig → argsL.length = sig.parameters.length) (W : Nat) (hW : (rest.map fun v => v.category).sum ≤ W) (hfr : rm.frames + 1 ≤ R.frames) (hlo : W + (maxL + 11) + rm.locals ≤ R.locals) (hce : cells + rm.cells ≤ R.cells) (hsl : slots + rm.slots ≤ R.slots)
    (hd : decode c.code pc = .ok (.invokestatic index, 3))
    (k : ∀ v T' Lc, Stand p l e R s m args below meth c T' (locs ++ Lc) (cells + rm.cells) (slots + rm.slots) → Qc v T'.heap Lc → OGoal p e below s Q kc ks (T'.setTop (mkF m (pc + 3) Ls (v.toList ++ rest)))) :
    OGoal p e below s Q kc ks (T.setTop (mkF m pc Ls st)) := by
  subst hst has
  obtain ⟨v, _, ⟨T', L', k', n'⟩, -, X', ⟨Lc, hQ, l', y', z'⟩, st⟩ := Jvm.LawKit.callS X hx (y := y) hown (mvT hZ w1) (mvT hZ w2) (mvT hZ w3) (mvT hZ w4) hy (backOf (W := W) (hM []) hZ w4 w3 hfr hlo) (g := mkF m pc Ls (argsL.reverse ++ rest)) rfl hsize (argsL := argsL) (rest := rest) hlen rfl (by show 2 * 0 + _ ≤ _; omega) hd (fun _ _ => ⟨rfl, eT, hce, hsl⟩)
  dsimp only [Pt.U, Pt.locs, Pt.cells, Pt.slots] at X' l' y' z' st hQ
  subst l' y' z'
  exact OGoal.mp st (k v T' Lc X' hQ)
theorem oCallV (X : Stand p l e R s m args below meth c T locs cells slots) (hx : p.tables.exec = Jvm.exec) (hZ : Z.Warmed39 s.vm) {own C : String} {index : Nat} {y z : MethodName} {bytes : ByteArray} {maxL : Nat} {ret : Option FieldType} {rm : Room} {as' : Array Value} {Qc : Option Value → Heap → List Loc → Prop}
    (hown : s.vm.findClass own = some m.cls) (w1 : (Jvm.Cond.methodLink own index y).before a0 Z = true) (w2 : (Jvm.Cond.declares y).before a0 Z = true) (w5 : (Jvm.Cond.selects C y z).before a0 Z = true) (w6 : (Jvm.Cond.instanceMethod z).before a0 Z = true) (w3 : (Jvm.Cond.initialized z.cls).before a0 Z = true) (w4 : (Jvm.Cond.code z bytes maxL ret).before a0 Z = true)
    (hy : y.cls ≠ "java/lang/invoke/MethodHandle" ∧ y.cls ≠ "java/lang/invoke/VarHandle") (hM : OCon l Z z bytes maxL ret rm as' h Qc) (eT : T.heap = h) {a : Addr} (E : Exa Z h a C) {pc : Nat} {Ls : Array Slot} {st : List Value} (argsL rest : List Value) (hst : st = argsL.reverse ++ .ref a :: rest) (has : (.ref a :: argsL).toArray = as') (hsize : Ls.size = c.maxLocals)
    (hnf : NotFace s y) (hlen : ∀ sig, parseMethodDescriptor y.desc = some sig → argsL.length = sig.parameters.length) (W : Nat) (hW : (rest.map fun v => v.category).sum ≤ W) (hfr : rm.frames + 1 ≤ R.frames) (hlo : W + (maxL + 11) + rm.locals ≤ R.locals) (hce : cells + rm.cells ≤ R.cells) (hsl : slots + rm.slots ≤ R.slots)
    (hd : decode c.code pc = .ok (.invokevirtual index, 3))
    (k : ∀ v T' Lc, Stand p l e R s m args below meth c T' (locs ++ Lc) (cells + rm.cells) (slots + rm.slots) → Qc v T'.heap Lc → OGoal p e below s Q kc ks (T'.setTop (mkF m (pc + 3) Ls (v.toList ++ rest)))) :
    OGoal p e below s Q kc ks (T.setTop (mkF m pc Ls st)) := by
  subst hst has
  obtain ⟨cq, kq, qa, qb, qc⟩ := isOf hZ eT E
  obtain ⟨v, _, ⟨T', L', k', n'⟩, -, X', ⟨Lc, hQ, l', y', z'⟩, st⟩ := X.virtualBack hx (y := y) (z := z) hown (mvT hZ w1) (mvT hZ w2) hnf (mvT hZ w5) (mvT hZ w6) hy (backOf (W := W) (hM []) hZ w4 w3 hfr hlo) qa qc (g := mkF m pc Ls (argsL.reverse ++ .ref a :: rest)) rfl hsize (Steps.refl _) (argsL := argsL) (rest := rest) hlen rfl (by show 2 * 0 + _ ≤ _; omega) hd (fun _ _ => ⟨rfl, eT, hce, hsl⟩)
  dsimp only [Pt.U, Pt.locs, Pt.cells, Pt.slots] at X' l' y' z' st hQ
  subst l' y' z'
  exact OGoal.mp (fun t q => st.trans q) (k v T' Lc X' hQ)
theorem oCallN (X : Stand p l e R s m args below meth c T locs cells slots) (hx : p.tables.exec = Jvm.exec) (hZ : Z.Warmed39 s.vm) {own : String} {index : Nat} {y : MethodName} {bytes : ByteArray} {maxL : Nat} {rm : Room} {as' : Array Value} {Qc : Option Value → Heap → List Loc → Prop}
    (hy1 : y.name = "<init>") (hown : s.vm.findClass own = some m.cls) (w1 : (Jvm.Cond.methodLink own index y).before a0 Z = true) (w6 : (Jvm.Cond.instanceMethod y).before a0 Z = true) (w3 : (Jvm.Cond.initialized y.cls).before a0 Z = true) (w4 : (Jvm.Cond.code y bytes maxL none).before a0 Z = true)
    (hy : y.cls ≠ "java/lang/invoke/MethodHandle" ∧ y.cls ≠ "java/lang/invoke/VarHandle") (hM : OCon l Z y bytes maxL none rm as' h Qc) (eT : T.heap = h) {a : Addr} {pc : Nat} {Ls : Array Slot} {st : List Value} (argsL rest : List Value) (hst : st = argsL.reverse ++ .ref a :: rest) (has : (.ref a :: argsL).toArray = as') (hsize : Ls.size = c.maxLocals)
    (hlen : ∀ sig, parseMethodDescriptor y.desc = some sig → argsL.length = sig.parameters.length) (W : Nat) (hW : (rest.map fun v => v.category).sum ≤ W) (hfr : rm.frames + 1 ≤ R.frames) (hlo : W + (maxL + 11) + rm.locals ≤ R.locals) (hce : cells + rm.cells ≤ R.cells) (hsl : slots + rm.slots ≤ R.slots)
    (hd : decode c.code pc = .ok (.invokespecial index, 3))
    (k : ∀ v T' Lc, Stand p l e R s m args below meth c T' (locs ++ Lc) (cells + rm.cells) (slots + rm.slots) → Qc v T'.heap Lc → OGoal p e below s Q kc ks (T'.setTop (mkF m (pc + 3) Ls (v.toList ++ rest)))) :
    OGoal p e below s Q kc ks (T.setTop (mkF m pc Ls st)) := by
  subst hst has
  obtain ⟨v, _, ⟨T', L', k', n'⟩, -, X', ⟨Lc, hQ, l', y', z'⟩, st⟩ := X.specialBack hx (y := y) hy1 hown (mvT hZ w1) (mvT hZ w6) (mvT hZ w4) hy (backOf (W := W) (hM []) hZ w4 w3 hfr hlo) (g := mkF m pc Ls (argsL.reverse ++ .ref a :: rest)) rfl hsize (Steps.refl _) (a := a) (argsL := argsL) (rest := rest) hlen rfl (by show 2 * 0 + _ ≤ _; omega) hd (fun _ _ => ⟨rfl, eT, hce, hsl⟩)
  dsimp only [Pt.U, Pt.locs, Pt.cells, Pt.slots] at X' l' y' z' st hQ
  subst l' y' z'
  exact OGoal.mp (fun t q => st.trans q) (k v T' Lc X' hQ)
theorem oNotFace {s : State} {C : String} {k : Nat} (h : (Jvm.Cond.instantiable C k).before args s = true) : ∃ c kc, s.vm.findClass C = some c ∧ s.vm.classes[c]? = some kc ∧ kc.isInterface = false := by
  obtain ⟨c, kc, h1, h2, -, h3, -, -⟩ := Cond.instantiable_spec h
  exact ⟨c, kc, h1, h2, (Bool.or_eq_false_iff.mp h3).1⟩
theorem oCallP (X : Stand p l e R s m args below meth c T locs cells slots) (hx : p.tables.exec = Jvm.exec) (hZ : Z.Warmed39 s.vm) {own C : String} {index : Nat} {y : MethodName} {bytes : ByteArray} {maxL : Nat} {ret : Option FieldType} {rm : Room} {as' : Array Value} {Qc : Option Value → Heap → List Loc → Prop}
    (hown : s.vm.findClass own = some m.cls) (w1 : (Jvm.Cond.methodLink own index y).before a0 Z = true) {kk : Nat} (w5 : (Jvm.Cond.instantiable y.cls kk).before a0 Z = true) (w6 : (Jvm.Cond.instanceMethod y).before a0 Z = true) (w7 : (Jvm.Cond.privateMethod y).before a0 Z = true) (w3 : (Jvm.Cond.initialized y.cls).before a0 Z = true) (w4 : (Jvm.Cond.code y bytes maxL ret).before a0 Z = true)
    (hy : y.cls ≠ "java/lang/invoke/MethodHandle" ∧ y.cls ≠ "java/lang/invoke/VarHandle") (hM : OCon l Z y bytes maxL ret rm as' h Qc) (eT : T.heap = h) {a : Addr} (E : Exa Z h a C) {pc : Nat} {Ls : Array Slot} {st : List Value} (argsL rest : List Value) (hst : st = argsL.reverse ++ .ref a :: rest) (has : (.ref a :: argsL).toArray = as') (hsize : Ls.size = c.maxLocals)
    (hlen : ∀ sig, parseMethodDescriptor y.desc = some sig → argsL.length = sig.parameters.length) (W : Nat) (hW : (rest.map fun v => v.category).sum ≤ W) (hfr : rm.frames + 1 ≤ R.frames) (hlo : W + (maxL + 11) + rm.locals ≤ R.locals) (hce : cells + rm.cells ≤ R.cells) (hsl : slots + rm.slots ≤ R.slots)
    (hd : decode c.code pc = .ok (.invokevirtual index, 3))
    (k : ∀ v T' Lc, Stand p l e R s m args below meth c T' (locs ++ Lc) (cells + rm.cells) (slots + rm.slots) → Qc v T'.heap Lc → OGoal p e below s Q kc ks (T'.setTop (mkF m (pc + 3) Ls (v.toList ++ rest)))) :
    OGoal p e below s Q kc ks (T.setTop (mkF m pc Ls st)) := by
  subst hst has
  obtain ⟨cq, q1, q2⟩ := E.cell
  obtain ⟨c1, k1, hc1, hk1, hi1⟩ := oNotFace (args := #[]) (mvT hZ w5)
  have hpr : s.PrivateAt y := Cond.privateMethod_at (mvP hZ w7 (args := #[]))
  have hse := selects_self_of_private (args := args) hc1 hk1 hi1 hpr (mvT hZ w6) hy
  obtain ⟨v, _, ⟨T', L', k', n'⟩, -, X', ⟨Lc, hQ, l', y', z'⟩, st⟩ := X.privateBack hx (y := y) hown (mvT hZ w1) (mvT hZ w6) hse hpr (mvT hZ w4) hy (backOf (W := W) (hM []) hZ w4 w3 hfr hlo) (g := mkF m pc Ls (argsL.reverse ++ .ref a :: rest)) rfl hsize (Steps.refl _) (a := a) (by rw [eT]; exact q1) q2 (argsL := argsL) (rest := rest) hlen rfl (by show 2 * 0 + _ ≤ _; omega) hd (fun _ _ => ⟨rfl, eT, hce, hsl⟩)
  dsimp only [Pt.U, Pt.locs, Pt.cells, Pt.slots] at X' l' y' z' st hQ
  subst l' y' z'
  exact OGoal.mp (fun t q => st.trans q) (k v T' Lc X' hQ)
theorem oLrem {g : JFrame} {target : State} (X : Stand p l e R s m args below meth c T locs cells slots) (hx : p.tables.exec = Jvm.exec) (hg : g.method = m) {x y : Int64} {rest : List Value} (hd : decode c.code g.pc = .ok (.lrem, 1)) (hs : g.stack = .long y :: .long x :: rest) (hy : y ≠ 0)
    (hr : Steps p.tables e below (T.setTop { g with pc := g.pc + 1, stack := .long (x % y) :: rest }) target) : Steps p.tables e below (T.setTop g) target := XT.lrem X.here hx hg hd hs hy (by rw [lrem_mod]; exact hr)
theorem oLt {x y : Int32} (h : x < y) : x.toInt < y.toInt := Int32.lt_iff_toInt_lt.mp h
theorem oNlt {x y : Int32} (h : ¬ x < y) : y.toInt ≤ x.toInt := Int.not_lt.mp fun q => h (Int32.lt_iff_toInt_lt.mpr q)
theorem oEq {x y : Int32} (h : x = y) : x.toInt = y.toInt := congrArg _ h
theorem oNe {x y : Int32} (h : ¬ x = y) : x.toInt ≠ y.toInt := fun q => h (Int32.toInt_inj.mp q)
theorem oLtL {x y : Int64} (h : x < y) : x.toInt < y.toInt := Int64.lt_iff_toInt_lt.mp h
theorem oNltL {x y : Int64} (h : ¬ x < y) : y.toInt ≤ x.toInt := Int.not_lt.mp fun q => h (Int64.lt_iff_toInt_lt.mpr q)
theorem oEqL {x y : Int64} (h : x = y) : x.toInt = y.toInt := congrArg _ h
theorem oNeL {x y : Int64} (h : ¬ x = y) : x.toInt ≠ y.toInt := fun q => h (Int64.toInt_inj.mp q)
theorem mLt {x y : Int32} (h : x.toInt < y.toInt) : x < y := Int32.lt_iff_toInt_lt.mpr h
theorem mNlt {x y : Int32} (h : y.toInt ≤ x.toInt) : ¬ x < y := fun q => absurd (oLt q) (Int.not_lt.mpr h)
theorem mEq {x y : Int32} (h : x.toInt = y.toInt) : x = y := Int32.toInt_inj.mp h
theorem mNe {x y : Int32} (h : x.toInt ≠ y.toInt) : ¬ x = y := fun q => h (congrArg _ q)
theorem mLtL {x y : Int64} (h : x.toInt < y.toInt) : x < y := Int64.lt_iff_toInt_lt.mpr h
theorem mNltL {x y : Int64} (h : y.toInt ≤ x.toInt) : ¬ x < y := fun q => absurd (oLtL q) (Int.not_lt.mpr h)
theorem mEqL {x y : Int64} (h : x.toInt = y.toInt) : x = y := Int64.toInt_inj.mp h
theorem mNeL {x y : Int64} (h : x.toInt ≠ y.toInt) : ¬ x = y := fun q => h (congrArg _ q)
theorem oRemL (x y : Int64) : 0 ≤ x.toInt → 0 < y.toInt → 0 ≤ (x % y).toInt ∧ (x % y).toInt < y.toInt := by
  intro h1 h2
  rw [Int64.toInt_mod, Int.tmod_eq_emod_of_nonneg h1]
  exact ⟨Int.emod_nonneg _ (by omega), Int.emod_lt_of_pos _ h2⟩
theorem oRemI (x y : Int32) : 0 ≤ x.toInt → 0 < y.toInt → 0 ≤ (x % y).toInt ∧ (x % y).toInt < y.toInt := by
  intro h1 h2
  rw [Int32.toInt_mod, Int.tmod_eq_emod_of_nonneg h1]
  exact ⟨Int.emod_nonneg _ (by omega), Int.emod_lt_of_pos _ h2⟩
/-- an array of kind ty, of length z, whose i-th component is f i -/
def OArr (Z : State) (h : Heap) (a : Addr) (ty : FieldType) (z : Int32) (f : Nat → Value) : Prop := ∃ c : Cell, Arr Z h a c ty ∧ c.slots.size = z.toNatClampNeg ∧ ¬ z < 0 ∧ ∀ i, i < c.slots.size → c.slots[i]? = some (f i)
section OArrs
variable {h' : Heap} {a b : Addr} {ty : FieldType} {z : Int32} {f : Nat → Value} {sl : Nat} {v : Value}
theorem OArr.lt (F : OArr Z h a ty z f) : a < h.size := by obtain ⟨c, A, -⟩ := F; exact A.lt
theorem OArr.ext (F : OArr Z h a ty z f) (E : Ext h h') : OArr Z h' a ty z f := by obtain ⟨c, A, r⟩ := F; exact ⟨c, A.ext E, r⟩
theorem OArr.other (F : OArr Z h b ty z f) (W : Wr h h' a sl v) (q : b ≠ a) : OArr Z h' b ty z f := by obtain ⟨c, A, r⟩ := F; exact ⟨c, A.other W q, r⟩
theorem OArr.keep {ws : List Addr} (F : OArr Z h a ty z f) (K : Keep h h' ws) (q : a ∉ ws) : OArr Z h' a ty z f := by obtain ⟨c, A, r⟩ := F; exact ⟨c, ⟨K.2.1 a c A.1 q, A.2⟩, r⟩
theorem OArr.imp {g : Nat → Value} (F : OArr Z h a ty z f) (k : ∀ i, i < z.toNatClampNeg → f i = g i) : OArr Z h a ty z g := by
  obtain ⟨c, A, S, r, G⟩ := F
  exact ⟨c, A, S, r, fun i hi => by rw [G i hi, k i (by rw [← S]; exact hi)]⟩
theorem OArr.new {k : ClassId} (A : Arr Z h a (newA k ty z) ty) (q : ¬ z < 0) : OArr Z h a ty z (fun _ => defaultValue ty) :=
  ⟨_, A, sz_new _ _ _, q, fun i hi => by simp only [newA, Array.size_replicate] at hi; simp [newA, hi]⟩
theorem OArr.set (F : OArr Z h a ty z f) (W : Wr h h' a sl v) : OArr Z h' a ty z (fun i => if i = sl then v else f i) := by
  obtain ⟨c, A, S, r, G⟩ := F
  refine ⟨_, A.same W, by rw [sz_set]; exact S, r, fun i hi => ?_⟩
  rw [sz_set] at hi
  show (c.setSlot sl v).slots[i]? = some (if i = sl then v else f i)
  by_cases q : i = sl
  · subst q; simp [Cell.setSlot, hi]
  · rw [if_neg q, ← G i hi]
    simp [Cell.setSlot, Array.getElem?_setIfInBounds, Ne.symm q]
theorem oNeA {C : String} {k : Nat} (E : Exa Z h a C) (wi : (Jvm.Cond.instantiable C k).before a0 Z = true) (F : OArr Z h b ty z f) : a ≠ b := by
  obtain ⟨c, A, -⟩ := F; exact ne_arr E wi A
theorem oIn {j : Int32} {n : Nat} (S : n = z.toNatClampNeg) (h1 : 0 ≤ j.toInt) (h2 : j.toInt < z.toInt) : ¬ (j < 0 ∨ n ≤ j.toNatClampNeg) := by
  intro q
  have e0 : (0 : Int32).toInt = 0 := by decide
  have e1 : j.toNatClampNeg = j.toInt.toNat := rfl
  have e2 : z.toNatClampNeg = z.toInt.toNat := rfl
  rcases q with q | q
  · have := oLt q; omega
  · rw [S, e1, e2] at q; omega
theorem oLen (X : Stand p l e R s m args below meth c T locs cells slots) (hx : p.tables.exec = Jvm.exec) (hZ : Z.Warmed39 s.vm) (eT : T.heap = h) (F : OArr Z h a ty z f) {g : JFrame} (hg : g.method = m) {rest : List Value} (hs : g.stack = .ref a :: rest) (hd : decode c.code g.pc = .ok (.arraylength, 1)) {target : State}
    (k : Steps p.tables e below (T.setTop { g with pc := g.pc + 1, stack := .int z :: rest }) target) : Steps p.tables e below (T.setTop g) target := by
  obtain ⟨cl, A, S, r, -⟩ := F
  refine X.arraylength hx (by rw [eT]; exact A.1) (State.isArrayOf_alike hZ.alike A.2.1) (g := g) hg hs hd _ ?_
  rw [len_of S r]; exact k
theorem oInd (F : OArr Z h a ty z f) {j : Int32} (h1 : 0 ≤ j.toInt) (h2 : j.toInt < z.toInt) : ∃ cl, Arr Z h a cl ty ∧ ¬ (j < 0 ∨ cl.slots.size ≤ j.toNatClampNeg) ∧ cl.slots[j.toNatClampNeg]? = some (f j.toNatClampNeg) := by
  obtain ⟨cl, A, S, r, G⟩ := F
  have q := oIn S h1 h2
  exact ⟨cl, A, q, G _ (Nat.lt_of_not_le fun w => q (Or.inr w))⟩
theorem oLdI (X : Stand p l e R s m args below meth c T locs cells slots) (hx : p.tables.exec = Jvm.exec) (hZ : Z.Warmed39 s.vm) (eT : T.heap = h) (F : OArr Z h a .int z f) {j x : Int32} (h1 : 0 ≤ j.toInt) (h2 : j.toInt < z.toInt) (hv : f j.toNatClampNeg = .int x) {g : JFrame} (hg : g.method = m) {rest : List Value} (hs : g.stack = .int j :: .ref a :: rest) (hd : decode c.code g.pc = .ok (.iaload, 1)) {target : State}
    (k : Steps p.tables e below (T.setTop { g with pc := g.pc + 1, stack := .int x :: rest }) target) : Steps p.tables e below (T.setTop g) target := by
  obtain ⟨cl, A, q, G⟩ := oInd F h1 h2
  rw [hv] at G
  exact X.iaload hx (j := j) (v := .int x) (by rw [eT]; exact A.1) (State.isArrayOf_alike hZ.alike A.2.1) A.2.2 q G (g := g) hg hs hd _ k
theorem oLdD (X : Stand p l e R s m args below meth c T locs cells slots) (hx : p.tables.exec = Jvm.exec) (hZ : Z.Warmed39 s.vm) (eT : T.heap = h) (F : OArr Z h a .double z f) {j : Int32} {x : UInt64} (h1 : 0 ≤ j.toInt) (h2 : j.toInt < z.toInt) (hv : f j.toNatClampNeg = .double x) {g : JFrame} (hg : g.method = m) {rest : List Value} (hs : g.stack = .int j :: .ref a :: rest) (hd : decode c.code g.pc = .ok (.daload, 1)) {target : State}
    (k : Steps p.tables e below (T.setTop { g with pc := g.pc + 1, stack := .double x :: rest }) target) : Steps p.tables e below (T.setTop g) target := by
  obtain ⟨cl, A, q, G⟩ := oInd F h1 h2
  rw [hv] at G
  exact X.daload hx (j := j) (v := .double x) (by rw [eT]; exact A.1) (State.isArrayOf_alike hZ.alike A.2.1) A.2.2 q G (g := g) hg hs hd _ k
theorem oLdR (X : Stand p l e R s m args below meth c T locs cells slots) (hx : p.tables.exec = Jvm.exec) (hZ : Z.Warmed39 s.vm) (eT : T.heap = h) (F : OArr Z h a ty z f) (hty : ty.isReference = true) {j : Int32} {x : Value} (h1 : 0 ≤ j.toInt) (h2 : j.toInt < z.toInt) (hv : f j.toNatClampNeg = x) {g : JFrame} (hg : g.method = m) {rest : List Value} (hs : g.stack = .int j :: .ref a :: rest) (hd : decode c.code g.pc = .ok (.aaload, 1)) {target : State}
    (k : Steps p.tables e below (T.setTop { g with pc := g.pc + 1, stack := x :: rest }) target) : Steps p.tables e below (T.setTop g) target := by
  obtain ⟨cl, A, q, G⟩ := oInd F h1 h2
  rw [hv] at G
  exact X.aaload hx (j := j) (v := x) (by rw [eT]; exact A.1) (State.isArrayOf_alike hZ.alike A.2.1) hty A.2.2 q G (g := g) hg hs hd _ k
theorem OArr.of_arv {kc : ClassId} {vs : List Value} {d : Value} (F : Arv Z h a kc ty z vs d) : OArr Z h a ty z (fun i => vs.getD i d) := by
  obtain ⟨c, A, -, S, r, H, -⟩ := F
  exact ⟨c, A, S, r, H⟩
theorem oKext (K : Keep h h' []) : Ext h h' := ⟨K.1, fun a c q => K.2.1 a c q (fun z => nomatch z)⟩
theorem oLdC (X : Stand p l e R s m args below meth c T locs cells slots) (hx : p.tables.exec = Jvm.exec) (hZ : Z.Warmed39 s.vm) (eT : T.heap = h) (F : OArr Z h a .char z f) {j x : Int32} (h1 : 0 ≤ j.toInt) (h2 : j.toInt < z.toInt) (hv : f j.toNatClampNeg = .int x) {g : JFrame} (hg : g.method = m) {rest : List Value} (hs : g.stack = .int j :: .ref a :: rest) (hd : decode c.code g.pc = .ok (.caload, 1)) {target : State}
    (k : Steps p.tables e below (T.setTop { g with pc := g.pc + 1, stack := .int x :: rest }) target) : Steps p.tables e below (T.setTop g) target := by
  obtain ⟨cl, A, q, G⟩ := oInd F h1 h2
  rw [hv] at G
  exact X.caload hx (j := j) (v := .int x) (by rw [eT]; exact A.1) (State.isArrayOf_alike hZ.alike A.2.1) A.2.2 q G (g := g) hg hs hd _ k
theorem oLdB (X : Stand p l e R s m args below meth c T locs cells slots) (hx : p.tables.exec = Jvm.exec) (hZ : Z.Warmed39 s.vm) (eT : T.heap = h) (F : OArr Z h a .byte z f) {j x : Int32} (h1 : 0 ≤ j.toInt) (h2 : j.toInt < z.toInt) (hv : f j.toNatClampNeg = .int x) {g : JFrame} (hg : g.method = m) {rest : List Value} (hs : g.stack = .int j :: .ref a :: rest) (hd : decode c.code g.pc = .ok (.baload, 1)) {target : State}
    (k : Steps p.tables e below (T.setTop { g with pc := g.pc + 1, stack := .int x :: rest }) target) : Steps p.tables e below (T.setTop g) target := by
  obtain ⟨cl, A, q, G⟩ := oInd F h1 h2
  rw [hv] at G
  exact X.baloadBytes hx (j := j) (v := .int x) (by rw [eT]; exact A.1) (State.isArrayOf_alike hZ.alike A.2.1) A.2.2 q G (g := g) hg hs hd _ k
theorem oLdZ (X : Stand p l e R s m args below meth c T locs cells slots) (hx : p.tables.exec = Jvm.exec) (hZ : Z.Warmed39 s.vm) (eT : T.heap = h) (F : OArr Z h a .boolean z f) {j x : Int32} (h1 : 0 ≤ j.toInt) (h2 : j.toInt < z.toInt) (hv : f j.toNatClampNeg = .int x) {g : JFrame} (hg : g.method = m) {rest : List Value} (hs : g.stack = .int j :: .ref a :: rest) (hd : decode c.code g.pc = .ok (.baload, 1)) {target : State}
    (k : Steps p.tables e below (T.setTop { g with pc := g.pc + 1, stack := .int x :: rest }) target) : Steps p.tables e below (T.setTop g) target := by
  obtain ⟨cl, A, q, G⟩ := oInd F h1 h2
  rw [hv] at G
  exact X.baloadBooleans hx (j := j) (v := .int x) (by rw [eT]; exact A.1) (State.isArrayOf_alike hZ.alike A.2.1) A.2.2 q G (g := g) hg hs hd _ k
theorem oStC (X : Stand p l e R s m args below meth c T locs cells slots) (hx : p.tables.exec = Jvm.exec) (hZ : Z.Warmed39 s.vm) (eT : T.heap = h) (F : OArr Z h a .char z f) {j x : Int32} (h1 : 0 ≤ j.toInt) (h2 : j.toInt < z.toInt) (hn : nar .char x = x) {g : JFrame} (hg : g.method = m) {rest : List Value} (hs : g.stack = .int x :: .int j :: .ref a :: rest) (hd : decode c.code g.pc = .ok (.castore, 1)) :
    ∃ T' h', Stand p l e R s m args below meth c T' (locs ++ [⟨a, j.toNatClampNeg⟩]) cells slots ∧ T'.heap = h' ∧ Wr h h' a j.toNatClampNeg (.int x) ∧ ∀ target, Steps p.tables e below (T'.setTop { g with pc := g.pc + 1, stack := rest }) target → Steps p.tables e below (T.setTop g) target := by
  obtain ⟨cl, A, q, G⟩ := oInd F h1 h2
  have r := stC X hx hZ eT A q hg hs hd
  rw [hn] at r; exact r
theorem oStB (X : Stand p l e R s m args below meth c T locs cells slots) (hx : p.tables.exec = Jvm.exec) (hZ : Z.Warmed39 s.vm) (eT : T.heap = h) (F : OArr Z h a .byte z f) {j x : Int32} (h1 : 0 ≤ j.toInt) (h2 : j.toInt < z.toInt) (hn : nar .byte x = x) {g : JFrame} (hg : g.method = m) {rest : List Value} (hs : g.stack = .int x :: .int j :: .ref a :: rest) (hd : decode c.code g.pc = .ok (.bastore, 1)) :
    ∃ T' h', Stand p l e R s m args below meth c T' (locs ++ [⟨a, j.toNatClampNeg⟩]) cells slots ∧ T'.heap = h' ∧ Wr h h' a j.toNatClampNeg (.int x) ∧ ∀ target, Steps p.tables e below (T'.setTop { g with pc := g.pc + 1, stack := rest }) target → Steps p.tables e below (T.setTop g) target := by
  obtain ⟨cl, A, q, G⟩ := oInd F h1 h2
  have r := stB X hx hZ eT A q hg hs hd
  rw [hn] at r; exact r
theorem oStZ (X : Stand p l e R s m args below meth c T locs cells slots) (hx : p.tables.exec = Jvm.exec) (hZ : Z.Warmed39 s.vm) (eT : T.heap = h) (F : OArr Z h a .boolean z f) {j x : Int32} (h1 : 0 ≤ j.toInt) (h2 : j.toInt < z.toInt) (hn : nar .boolean x = x) {g : JFrame} (hg : g.method = m) {rest : List Value} (hs : g.stack = .int x :: .int j :: .ref a :: rest) (hd : decode c.code g.pc = .ok (.bastore, 1)) :
    ∃ T' h', Stand p l e R s m args below meth c T' (locs ++ [⟨a, j.toNatClampNeg⟩]) cells slots ∧ T'.heap = h' ∧ Wr h h' a j.toNatClampNeg (.int x) ∧ ∀ target, Steps p.tables e below (T'.setTop { g with pc := g.pc + 1, stack := rest }) target → Steps p.tables e below (T.setTop g) target := by
  obtain ⟨cl, A, q, G⟩ := oInd F h1 h2
  have r := stZ X hx hZ eT A q hg hs hd
  rw [hn] at r; exact r
theorem oStI (X : Stand p l e R s m args below meth c T locs cells slots) (hx : p.tables.exec = Jvm.exec) (hZ : Z.Warmed39 s.vm) (eT : T.heap = h) (F : OArr Z h a .int z f) {j x : Int32} (h1 : 0 ≤ j.toInt) (h2 : j.toInt < z.toInt) {g : JFrame} (hg : g.method = m) {rest : List Value} (hs : g.stack = .int x :: .int j :: .ref a :: rest) (hd : decode c.code g.pc = .ok (.iastore, 1)) :
    ∃ T' h', Stand p l e R s m args below meth c T' (locs ++ [⟨a, j.toNatClampNeg⟩]) cells slots ∧ T'.heap = h' ∧ Wr h h' a j.toNatClampNeg (.int x) ∧ ∀ target, Steps p.tables e below (T'.setTop { g with pc := g.pc + 1, stack := rest }) target → Steps p.tables e below (T.setTop g) target := by
  obtain ⟨cl, A, q, G⟩ := oInd F h1 h2
  exact stI X hx hZ eT A q hg hs hd
theorem oStD (X : Stand p l e R s m args below meth c T locs cells slots) (hx : p.tables.exec = Jvm.exec) (hZ : Z.Warmed39 s.vm) (eT : T.heap = h) (F : OArr Z h a .double z f) {j : Int32} {x : UInt64} (h1 : 0 ≤ j.toInt) (h2 : j.toInt < z.toInt) {g : JFrame} (hg : g.method = m) {rest : List Value} (hs : g.stack = .double x :: .int j :: .ref a :: rest) (hd : decode c.code g.pc = .ok (.dastore, 1)) :
    ∃ T' h', Stand p l e R s m args below meth c T' (locs ++ [⟨a, j.toNatClampNeg⟩]) cells slots ∧ T'.heap = h' ∧ Wr h h' a j.toNatClampNeg (.double x) ∧ ∀ target, Steps p.tables e below (T'.setTop { g with pc := g.pc + 1, stack := rest }) target → Steps p.tables e below (T.setTop g) target := by
  obtain ⟨cl, A, q, G⟩ := oInd F h1 h2
  exact stD X hx hZ eT A q hg hs hd
theorem oClone (X : Stand p l e R s m args below meth c T locs cells slots) (hx : p.tables.exec = Jvm.exec) (hZ : Z.Warmed39 s.vm) {own ad : String} {index : Nat} (hown : s.vm.findClass own = some m.cls)
    (w1 : (Jvm.Cond.methodLink own index ⟨ad, "clone", "()Ljava/lang/Object;"⟩).before a0 Z = true) (w2 : (Jvm.Cond.sameMethod ad "java/lang/Object" "clone" "()Ljava/lang/Object;").before a0 Z = true) (w3 : (Jvm.Cond.native ⟨"java/lang/Object", "clone", "()Ljava/lang/Object;"⟩).before a0 Z = true)
    (w4 : (Jvm.Cond.instanceMethod ⟨"java/lang/Object", "clone", "()Ljava/lang/Object;"⟩).before a0 Z = true) (w5 : (Jvm.Cond.selects ad ⟨ad, "clone", "()Ljava/lang/Object;"⟩ ⟨"java/lang/Object", "clone", "()Ljava/lang/Object;"⟩).before a0 Z = true) (w6 : (Jvm.Cond.castable ad "java/lang/Cloneable").before a0 Z = true)
    (eT : T.heap = h) (F : OArr Z h a ty z f) (E : Exa Z h a ad) (hfit : ∀ i, i < z.toNatClampNeg → fits ty (f i) = true) {g : JFrame} (hg : g.method = m) (hsize : g.locals.size = c.maxLocals) {rest : List Value} (hst : g.stack = .ref a :: rest) (hd : decode c.code g.pc = .ok (.invokevirtual index, 3))
    (hf : 1 ≤ R.frames) {W cap : Nat} (hW : 2 * g.monitorRoom + (rest.map fun v => v.category).sum ≤ W) (hl : W + 14 ≤ R.locals) (hcap : z.toNatClampNeg ≤ cap) (hc : cells + 1 ≤ R.cells) (hsl : slots + cap ≤ R.slots) :
    ∃ T' h', Stand p l e R s m args below meth c T' locs (cells + 1) (slots + cap) ∧ T'.heap = h' ∧ Ext h h' ∧ OArr Z h' h.size ty z f ∧ Exa Z h' h.size ad ∧
      ∀ target, Steps p.tables e below (T'.setTop { g with pc := g.pc + 3, stack := .ref h.size :: rest }) target → Steps p.tables e below (T.setTop g) target := by
  obtain ⟨cl, A, S, r, G⟩ := F
  have FC : FitC Z cl := fitC_of A fun i hi v hv => by
    rw [G i hi] at hv; cases hv; exact hfit i (by rw [← S]; exact hi)
  obtain ⟨T', h', X', e', ex, A', E', st⟩ := cloneA X hx hZ hown w1 w2 w3 w4 w5 w6 eT A E FC hg hsize hst hd hf hW hl (by rw [S]; exact hcap) hc hsl
  exact ⟨T', h', X', e', ex, ⟨cloneOf cl, A', S, r, G⟩, E', st⟩
theorem oCopy (X : Stand p l e R s m args below meth c T locs cells slots) (hx : p.tables.exec = Jvm.exec) (hZ : Z.Warmed39 s.vm) {own : String} {index : Nat} (hown : s.vm.findClass own = some m.cls)
    (w1 : (Jvm.Cond.methodLink own index arraycopyName).before a0 Z = true) (w2 : (Jvm.Cond.native arraycopyName).before a0 Z = true) (w3 : (Jvm.Cond.static arraycopyName).before a0 Z = true) (w4 : (Jvm.Cond.initialized "java/lang/System").before a0 Z = true)
    (eT : T.heap = h) {za zb : Int32} {fb : Nat → Value} (Fa : OArr Z h a ty za f) (Fb : OArr Z h b ty zb fb) (hty : refKind ty = false) (hfit : ∀ i, i < za.toNatClampNeg → fits ty (f i) = true)
    {sp dp n : Int32} (h1 : 0 ≤ sp.toInt) (h2 : 0 ≤ dp.toInt) (h3 : 0 ≤ n.toInt) (h4 : sp.toInt + n.toInt ≤ za.toInt) (h5 : dp.toInt + n.toInt ≤ zb.toInt)
    {g : JFrame} (hg : g.method = m) (hsize : g.locals.size = c.maxLocals) {rest : List Value} (hst : g.stack = .int n :: .int dp :: .ref b :: .int sp :: .ref a :: rest) (hd : decode c.code g.pc = .ok (.invokestatic index, 3))
    (hf : 1 ≤ R.frames) (hl : 2 * g.monitorRoom + (rest.map fun v => v.category).sum + (nativeFrameWords "java/lang/System" "arraycopy" 5 + 11) ≤ R.locals) :
    ∃ T' h' L, Stand p l e R s m args below meth c T' (locs ++ L) cells slots ∧ T'.heap = h' ∧ Keep h h' [b] ∧ OArr Z h' b ty zb (fun i => if dp.toNatClampNeg ≤ i ∧ i < dp.toNatClampNeg + n.toNatClampNeg then f (sp.toNatClampNeg + (i - dp.toNatClampNeg)) else fb i) ∧ (∀ y ∈ L, y.base = b) ∧
      ∀ target, Steps p.tables e below (T'.setTop { g with pc := g.pc + 3, stack := rest }) target → Steps p.tables e below (T.setTop g) target := by
  obtain ⟨ca, Aa, Sa, ra, Ga⟩ := Fa
  obtain ⟨cb, Ab, Sb, rb, Gb⟩ := Fb
  subst eT
  obtain ⟨hsa, ka, hka, compa, hkinda⟩ := State.isArrayOf_alike hZ.alike Aa.2.1
  obtain ⟨hsb, kb, hkb, compb, hkindb⟩ := State.isArrayOf_alike hZ.alike Ab.2.1
  have e0 : (0 : Int32).toInt = 0 := by decide
  have ea : (ca.slots.size : Int) = za.toInt := by
    have := oNlt ra
    rw [Sa]; show (za.toInt.toNat : Int) = _; omega
  have eb : (cb.slots.size : Int) = zb.toInt := by
    have := oNlt rb
    rw [Sb]; show (zb.toInt.toNat : Int) = _; omega
  have es : (sp.toNatClampNeg : Int) = sp.toInt := by show (sp.toInt.toNat : Int) = _; omega
  have ed : (dp.toNatClampNeg : Int) = dp.toInt := by show (dp.toInt.toNat : Int) = _; omega
  have en : (n.toNatClampNeg : Int) = n.toInt := by show (n.toInt.toNat : Int) = _; omega
  have hv : ∀ i, i < n.toNatClampNeg → ca.slots.getD (sp.toNatClampNeg + i) .null = f (sp.toNatClampNeg + i) := fun i hi => by
    rw [Array.getD_eq_getD_getElem?, Ga _ (by omega)]; rfl
  obtain ⟨vm', X', st⟩ := X.arraycopy hx hown (mvT hZ w1) (mvT hZ w2) (mvT hZ w3) (mvT hZ w4) (src := a) (dst := b) (srcPos := sp) (destPos := dp) (n := n) Aa.1 Ab.1 hsa hsb Aa.2.2 Ab.2.2 hka hkb hkinda hkindb (by simp [hty]) (mNlt (by omega)) (mNlt (by omega)) (mNlt (by omega)) (by omega) (by omega)
    (fun vm₁ _ i hi => by
      have q := hfit (sp.toNatClampNeg + i) (by rw [← Sa]; omega)
      rw [hv i hi]
      refine ⟨q, ?_⟩
      cases hq : f (sp.toNatClampNeg + i) with
      | ref y => rw [hq] at q; cases ty <;> first | (cases hty; done) | (cases q; done)
      | _ => trivial) hg hsize hst hd hf hl
  obtain ⟨f1, f2, f3, -, -⟩ := Cell.storeRun_facts cb dp.toNatClampNeg (ca.stretch sp.toNatClampNeg n.toNatClampNeg)
  have hlen : (ca.stretch sp.toNatClampNeg n.toNatClampNeg).length = n.toNatClampNeg := Cell.stretch_length ..
  have hself : ((T.setVm vm').setCell b (copied ca cb sp dp n)).heap[b]? = some (copied ca cb sp dp n) := State.heap_setCell_self (show (T.setVm vm').heap[b]? = some cb from Ab.1)
  refine ⟨_, _, _, X', rfl, ⟨?_, ?_, ?_⟩, ⟨copied ca cb sp dp n, ⟨hself, ?_, ?_⟩, ?_, rb, ?_⟩, ?_, st⟩
  · exact Nat.le_of_eq (by simp [State.setCell, State.setVm])
  · intro x cx hx' hn
    rw [State.heap_setCell_other (fun q => hn (by rw [q]; exact List.mem_singleton.mpr rfl))]; exact hx'
  · intro x cx hx'
    by_cases q : b = x
    · subst q; rw [Ab.1] at hx'; cases hx'; exact ⟨_, hself, f1, f2, f3⟩
    · exact ⟨cx, by rw [State.heap_setCell_other q]; exact hx', rfl, rfl, rfl⟩
  · obtain ⟨u1, k1, u2, comp, u3⟩ := Ab.2.1
    exact ⟨fun k => by show (cb.storeRun _ _).vm ≠ _; rw [f2]; exact u1 k, k1, by show Z.vm.classes[(cb.storeRun _ _).cls]? = _; rw [f1]; exact u2, comp, u3⟩
  · show (cb.storeRun _ _).vm ≠ _
    rw [f2]; exact Ab.2.2
  · show (cb.storeRun _ _).slots.size = _
    rw [f3]; exact Sb
  · intro i hi
    have hi' : i < cb.slots.size := by
      have hi : i < (cb.storeRun dp.toNatClampNeg (ca.stretch sp.toNatClampNeg n.toNatClampNeg)).slots.size := hi
      rw [f3] at hi; exact hi
    show (cb.storeRun dp.toNatClampNeg (ca.stretch sp.toNatClampNeg n.toNatClampNeg)).slots[i]? = _
    rw [Cell.storeRun_get _ _ _ _ (by rw [hlen]; omega), hlen]
    dsimp only
    by_cases q : dp.toNatClampNeg ≤ i ∧ i < dp.toNatClampNeg + n.toNatClampNeg
    · rw [if_pos q, if_pos q, ← hv _ (by omega)]
      simp [Cell.stretch, show i - dp.toNatClampNeg < n.toNatClampNeg by omega]
    · rw [if_neg q, if_neg q]; exact Gb i hi'
  · intro y hy
    obtain ⟨q, _, rfl⟩ := List.mem_map.mp hy; rfl
end OArrs
/-- from a case's equation to the value -/
theorem oEqv {f s : State} {o : Option Outcome} {idx : List Nat} {a b : Term} (h : (Jvm.Cond.eq a b).value args f o s idx = some true) : ∃ x, a.eval args f o idx s = some x ∧ b.eval args f o idx s = some x := by
  obtain ⟨x, y, h1, h2, -, -⟩ := cmp_v (Or.inl h)
  cases x <;> cases y <;> simp [Cond.value, h1, h2] at h <;> first | (subst h; exact ⟨_, h1, h2⟩) | exact ⟨_, h1, h2⟩
theorem oFeq {s : State} {t u : Term} {x : Addr} {C n d : String} {w : Value} (ht : t.eval args s none [] s = some (.ref x)) (h : (Jvm.Cond.eq (.field t C n d) u).value args s none s [] = some true) (hu : u.eval args s none [] s = some w) : s.fieldOf? x C n d = some w := by
  obtain ⟨v, h1, h2⟩ := oEqv h
  rw [fld_at ht] at h1
  rw [h1, ← h2, hu]
theorem oNot {d : Jvm.Cond} {f s : State} {o : Option Outcome} {idx : List Nat} (h : (Jvm.Cond.not d).value args f o s idx = some true) (h2 : d.value args f o s idx = some true) : False := by
  rw [Cond.value, h2] at h
  cases h
end OwnKit
def own_D (k : Int32) : UInt64 := FP.ddiv (FP.i2d k) (4625196817309499392 : UInt64)
theorem own_nn (k : Int32) : Jvm.Free.Fl.NoNaN64 (FP.ddiv (FP.i2d k) (4625196817309499392 : UInt64)) := Jvm.Free.Fl.ddiv_out (Jvm.Free.Fl.i2d_fin k).noNaN (by unfold Jvm.Free.Fl.Fin64; decide) (by unfold Jvm.Free.Fl.Nz64; decide)
theorem own_cmp16 : ∀ i j : Fin 16, FP.dcmp (own_D (Int32.ofNat i.val)) (own_D (Int32.ofNat j.val)) = some (compare i.val j.val) := by decide +kernel
theorem own_cmp (a b : Int32) (ha : 0 ≤ a.toInt ∧ a.toInt < 16) (hb : 0 ≤ b.toInt ∧ b.toInt < 16) : FP.dcmp (own_D a) (own_D b) = some (compare a.toInt.toNat b.toInt.toNat) := by
  have q := own_cmp16 ⟨a.toInt.toNat, by omega⟩ ⟨b.toInt.toNat, by omega⟩
  have e : ∀ x : Int32, 0 ≤ x.toInt → Int32.ofNat x.toInt.toNat = x := fun x hx => by
    rw [← Int32.ofInt_eq_ofNat, Int.toNat_of_nonneg hx, Int32.ofInt_toInt]
  simp only [e a ha.1, e b hb.1] at q
  exact q
theorem own_lt (a b : Int32) (ha : 0 ≤ a.toInt ∧ a.toInt < 16) (hb : 0 ≤ b.toInt ∧ b.toInt < 16) (o : CmpOp) : cmpValue (FP.dcmp (own_D a) (own_D b)) o < 0 ↔ a.toInt < b.toInt := by
  rw [own_cmp a b ha hb]
  rcases Nat.lt_trichotomy a.toInt.toNat b.toInt.toNat with q | q | q
  · rw [Nat.compare_eq_lt.mpr q]; exact ⟨fun _ => by omega, fun _ => by cases o <;> decide⟩
  · rw [Nat.compare_eq_eq.mpr q]; exact ⟨fun h => absurd h (by cases o <;> decide), fun h => by omega⟩
  · rw [Nat.compare_eq_gt.mpr q]; exact ⟨fun h => absurd h (by cases o <;> decide), fun h => by omega⟩
theorem own_gt (a b : Int32) (ha : 0 ≤ a.toInt ∧ a.toInt < 16) (hb : 0 ≤ b.toInt ∧ b.toInt < 16) (o : CmpOp) : 0 < cmpValue (FP.dcmp (own_D a) (own_D b)) o ↔ b.toInt < a.toInt := by
  rw [own_cmp a b ha hb]
  rcases Nat.lt_trichotomy a.toInt.toNat b.toInt.toNat with q | q | q
  · rw [Nat.compare_eq_lt.mpr q]; exact ⟨fun h => absurd h (by cases o <;> decide), fun h => by omega⟩
  · rw [Nat.compare_eq_eq.mpr q]; exact ⟨fun h => absurd h (by cases o <;> decide), fun h => by omega⟩
  · rw [Nat.compare_eq_gt.mpr q]; exact ⟨fun _ => by omega, fun _ => by cases o <;> decide⟩
theorem own_m15 (x : Int32) : 0 ≤ (x &&& (15 : Int32)).toInt ∧ (x &&& (15 : Int32)).toInt < 16 := by
  have : (x &&& (15 : Int32)).toInt = x.toInt % 16 := c_mask x 15 4 (by decide) (by decide)
  omega
theorem own_il {n k : Int32} (hk : 0 ≤ k.toInt) (h : k < n) : k.toNatClampNeg < n.toNatClampNeg := by
  show k.toInt.toNat < n.toInt.toNat; have := oLt h; omega
def own_k (a b c d : Int32) (i : Nat) : Int32 := if i = 0 then a &&& (15 : Int32) else if i = 1 then b &&& (15 : Int32) else if i = 2 then c &&& (15 : Int32) else d &&& (15 : Int32)
theorem own_k15 (a b c d : Int32) (i : Nat) : 0 ≤ (own_k a b c d i).toInt ∧ (own_k a b c d i).toInt < 16 := by
  unfold own_k; split
  · exact own_m15 a
  · split
    · exact own_m15 b
    · split
      · exact own_m15 c
      · exact own_m15 d
theorem own_d_method_2_code_0 : decode method_2_code 0 = .ok (.iload_n 0, 1) := by decide +kernel
theorem own_d_method_2_code_1 : decode method_2_code 1 = .ok (.bipush 15, 2) := by decide +kernel
theorem own_d_method_2_code_3 : decode method_2_code 3 = .ok (.iand, 1) := by decide +kernel
theorem own_d_method_2_code_4 : decode method_2_code 4 = .ok (.i2d, 1) := by decide +kernel
theorem own_d_method_2_code_5 : decode method_2_code 5 = .ok (.ldc2_w 7, 3) := by decide +kernel
theorem own_d_method_2_code_8 : decode method_2_code 8 = .ok (.ddiv, 1) := by decide +kernel
theorem own_d_method_2_code_9 : decode method_2_code 9 = .ok (.dreturn, 1) := by decide +kernel
theorem own_pn_com_example_andesite_andesite_model_LossesPredictedPinLaw : plainName "com/example/andesite/andesite/model/LossesPredictedPinLaw" = true := by first | (simp [plainName, overriddenIn]; done) | decide +kernel
theorem own_ef_rmV (x0 : Int32) (m : MethodId) : entryFrame m #[(.int x0)] 1 = mkF m 0 #[.val (.int x0)] [] := by first | (simp [entryFrame, mkF, argsToLocals, Value.category]; done) | rfl
set_option maxRecDepth 65536 in
set_option maxHeartbeats 40000000 in
theorem rmV (l : Launch) (Z : State) (a0 : Array Value) (hw : ∀ d ∈ tables_1, d.before a0 Z = true) (p1 : Int32) (h0 : Heap) (n0 : Nat) (Z0 : n0 ≤ h0.size)  :
    OCon l Z (⟨"com/example/andesite/andesite/model/LossesPredictedPinLaw", "value", "(I)D"⟩ : MethodName) method_2_code 1 (some .double) ({ frames := 0, cells := 0, slots := 0, locals := 0 } : Room) #[(.int p1)] h0 (fun v h L => v = some (.double (own_D (p1 &&& (15 : Int32)))) ∧ Fr n0 L ∧ h = h0) := by
  refine OConK.intro (y := (⟨"com/example/andesite/andesite/model/LossesPredictedPinLaw", "value", "(I)D"⟩ : MethodName)) (plainFor_of_name own_pn_com_example_andesite_andesite_model_LossesPredictedPinLaw) (own_ef_rmV p1) ?_
  intro p e s m below meth c s₁ hx hby hml hown hnm hret hlk hZ X0 e0
  show OGoal p e below s _ _ _ (s₁.setTop (mkF m 0 #[.val (.int p1)] []))
  refine OGoal.mp (S' := (s₁.setTop (mkF m 1 #[.val (.int p1)] [(.int p1)]))) (fun _ k => XS.iloadN X0.here hx rfl (hb hby own_d_method_2_code_0) rfl k) ?_
  refine OGoal.mp (S' := (s₁.setTop (mkF m 3 #[.val (.int p1)] [(.int (15 : Int32)), (.int p1)]))) (fun _ k => XS.bipush X0.here hx rfl (hb hby own_d_method_2_code_1) k) ?_
  refine OGoal.mp (S' := (s₁.setTop (mkF m 4 #[.val (.int p1)] [(.int (p1 &&& (15 : Int32)))]))) (fun _ k => XS.iand X0.here hx rfl (hb hby own_d_method_2_code_3) rfl k) ?_
  refine OGoal.mp (S' := (s₁.setTop (mkF m 5 #[.val (.int p1)] [(.double (FP.i2d (p1 &&& (15 : Int32))))]))) (fun _ k => XS.i2dS X0.here hx rfl (hb hby own_d_method_2_code_4) rfl rfl k) ?_
  refine OGoal.mp (S' := (s₁.setTop (mkF m 8 #[.val (.int p1)] [(.double (4625196817309499392 : UInt64)), (.double (FP.i2d (p1 &&& (15 : Int32))))]))) (fun _ k => X0.ldc2DoubleC hx hown (mvT hZ (hw _ (List.mem_of_getElem? (i := 5) rfl))) (g := mkF m 5 #[.val (.int p1)] [(.double (FP.i2d (p1 &&& (15 : Int32))))]) rfl (hb hby own_d_method_2_code_5) _ k) ?_
  refine OGoal.mp (S' := (s₁.setTop (mkF m 9 #[.val (.int p1)] [(.double (own_D (p1 &&& (15 : Int32))))]))) (fun _ k => XS.ddivS (g := mkF m 8 #[.val (.int p1)] [(.double (4625196817309499392 : UInt64)), (.double (FP.i2d (p1 &&& (15 : Int32))))]) (x := (FP.i2d (p1 &&& (15 : Int32)))) (y := (4625196817309499392 : UInt64)) (v := (own_D (p1 &&& (15 : Int32)))) (rest := []) X0.here hx rfl (hb hby own_d_method_2_code_8) rfl (own_nn _) rfl k) ?_
  refine oRetD X0 hx hlk hret (hb hby own_d_method_2_code_9) ?_ (by decide) (by decide)
  exact ⟨rfl, (Fr.nil n0), e0⟩
def Q_pr (kf : Nat → Int32) (n : Int32) (h0 : Heap) (n0 : Nat) (v : Option Value) (h : Heap) (L : List Loc) : Prop := ∃ r : Int32, v = some (.int r) ∧ Fr n0 L ∧ h = h0 ∧ 0 ≤ r.toInt ∧ r.toInt < n.toInt ∧ ∀ j : Nat, (j < r.toInt.toNat → (kf j).toInt < (kf r.toInt.toNat).toInt) ∧ (r.toInt.toNat ≤ j → j < n.toInt.toNat → (kf j).toInt ≤ (kf r.toInt.toNat).toInt)
theorem own_d_prog_65_method_2_code_0 : decode prog_65_method_2_code 0 = .ok (.iconst 0, 1) := by decide +kernel
theorem own_d_prog_65_method_2_code_1 : decode prog_65_method_2_code 1 = .ok (.istore_n 1, 1) := by decide +kernel
theorem own_d_prog_65_method_2_code_2 : decode prog_65_method_2_code 2 = .ok (.iconst 1, 1) := by decide +kernel
theorem own_d_prog_65_method_2_code_3 : decode prog_65_method_2_code 3 = .ok (.istore_n 2, 1) := by decide +kernel
theorem own_d_prog_65_method_2_code_4 : decode prog_65_method_2_code 4 = .ok (.iload_n 2, 1) := by decide +kernel
theorem own_d_prog_65_method_2_code_5 : decode prog_65_method_2_code 5 = .ok (.aload_n 0, 1) := by decide +kernel
theorem own_d_prog_65_method_2_code_6 : decode prog_65_method_2_code 6 = .ok (.arraylength, 1) := by decide +kernel
theorem own_d_prog_65_method_2_code_7 : decode prog_65_method_2_code 7 = .ok (.if_icmp .ge 21, 3) := by decide +kernel
theorem own_d_prog_65_method_2_code_28 : decode prog_65_method_2_code 28 = .ok (.iload_n 1, 1) := by decide +kernel
theorem own_d_prog_65_method_2_code_29 : decode prog_65_method_2_code 29 = .ok (.ireturn, 1) := by decide +kernel
theorem own_d_prog_65_method_2_code_10 : decode prog_65_method_2_code 10 = .ok (.aload_n 0, 1) := by decide +kernel
theorem own_d_prog_65_method_2_code_11 : decode prog_65_method_2_code 11 = .ok (.iload_n 2, 1) := by decide +kernel
theorem own_d_prog_65_method_2_code_12 : decode prog_65_method_2_code 12 = .ok (.daload, 1) := by decide +kernel
theorem own_d_prog_65_method_2_code_13 : decode prog_65_method_2_code 13 = .ok (.aload_n 0, 1) := by decide +kernel
theorem own_d_prog_65_method_2_code_14 : decode prog_65_method_2_code 14 = .ok (.iload_n 1, 1) := by decide +kernel
theorem own_d_prog_65_method_2_code_15 : decode prog_65_method_2_code 15 = .ok (.daload, 1) := by decide +kernel
theorem own_d_prog_65_method_2_code_16 : decode prog_65_method_2_code 16 = .ok (.dcmp .l, 1) := by decide +kernel
theorem own_d_prog_65_method_2_code_17 : decode prog_65_method_2_code 17 = .ok (.ifCond .le 5, 3) := by decide +kernel
theorem own_d_prog_65_method_2_code_20 : decode prog_65_method_2_code 20 = .ok (.iload_n 2, 1) := by decide +kernel
theorem own_d_prog_65_method_2_code_21 : decode prog_65_method_2_code 21 = .ok (.istore_n 1, 1) := by decide +kernel
theorem own_d_prog_65_method_2_code_22 : decode prog_65_method_2_code 22 = .ok (.iinc 2 1, 3) := by decide +kernel
theorem own_d_prog_65_method_2_code_25 : decode prog_65_method_2_code 25 = .ok (.goto (-21), 3) := by decide +kernel
theorem own_pn_com_example_andesite_andesite_model_Losses : plainName "com/example/andesite/andesite/model/Losses" = true := by first | (simp [plainName, overriddenIn]; done) | decide +kernel
theorem own_ef_rmP (x0 : Addr) (m : MethodId) : entryFrame m #[(.ref x0)] 3 = mkF m 0 #[.val (.ref x0), .unset, .unset] [] := by first | (simp [entryFrame, mkF, argsToLocals, Value.category]; done) | rfl
set_option maxRecDepth 65536 in
set_option maxHeartbeats 40000000 in
theorem rmP (l : Launch) (Z : State) (a0 : Array Value) (hw : ∀ d ∈ tables_1, d.before a0 Z = true) (a : Addr) (h0 : Heap) (n0 : Nat) (Z0 : n0 ≤ h0.size) (n : Int32) (f : Nat → Value) (kf : Nat → Int32) (A : OArr Z h0 a .double n f) (hf : ∀ i, i < n.toNatClampNeg → f i = .double (own_D (kf i))) (hr : ∀ i, 0 ≤ (kf i).toInt ∧ (kf i).toInt < 16) (hn : 1 ≤ n.toInt) :
    OCon l Z (⟨"com/example/andesite/andesite/model/Losses", "predicted", "([D)I"⟩ : MethodName) prog_65_method_2_code 3 (some .int) ({ frames := 0, cells := 0, slots := 0, locals := 0 } : Room) #[(.ref a)] h0 (Q_pr kf n h0 n0) := by
  refine OConK.intro (y := (⟨"com/example/andesite/andesite/model/Losses", "predicted", "([D)I"⟩ : MethodName)) (plainFor_of_name own_pn_com_example_andesite_andesite_model_Losses) (own_ef_rmP a) ?_
  intro p e s m below meth c s₁ hx hby hml hown hnm hret hlk hZ X0 e0
  show OGoal p e below s _ _ _ (s₁.setTop (mkF m 0 #[.val (.ref a), .unset, .unset] []))
  refine OGoal.mp (S' := (s₁.setTop (mkF m 1 #[.val (.ref a), .unset, .unset] [(.int (0 : Int32))]))) (fun _ k => XS.iconst X0.here hx rfl (hb hby own_d_prog_65_method_2_code_0) k) ?_
  refine OGoal.mp (S' := (s₁.setTop (mkF m 2 #[.val (.ref a), .val (.int (0 : Int32)), .unset] []))) (fun _ k => XS.istoreN X0.here hx rfl (hb hby own_d_prog_65_method_2_code_1) rfl (l' := #[.val (.ref a), .val (.int (0 : Int32)), .unset]) rfl k) ?_
  refine OGoal.mp (S' := (s₁.setTop (mkF m 3 #[.val (.ref a), .val (.int (0 : Int32)), .unset] [(.int (1 : Int32))]))) (fun _ k => XS.iconst X0.here hx rfl (hb hby own_d_prog_65_method_2_code_2) k) ?_
  refine OGoal.mp (S' := (s₁.setTop (mkF m 4 #[.val (.ref a), .val (.int (0 : Int32)), .val (.int (1 : Int32))] []))) (fun _ k => XS.istoreN X0.here hx rfl (hb hby own_d_prog_65_method_2_code_3) rfl (l' := #[.val (.ref a), .val (.int (0 : Int32)), .val (.int (1 : Int32))]) rfl k) ?_
  have loop : ∀ (k : Nat) (b i : Int32), 0 ≤ b.toInt → b.toInt < i.toInt → i.toInt + k = n.toInt → (∀ j : Nat, (j < b.toInt.toNat → (kf j).toInt < (kf b.toInt.toNat).toInt) ∧ (b.toInt.toNat ≤ j → j < i.toInt.toNat → (kf j).toInt ≤ (kf b.toInt.toNat).toInt)) → OGoal p e below s (Q_pr kf n h0 n0) 0 0 (s₁.setTop (mkF m 4 #[.val (.ref a), .val (.int b), .val (.int i)] [])) := by
    intro k
    induction k with
    | zero =>
      intro b i hb0 hbi hk hj
      have := rng32 n
      refine OGoal.mp (S' := (s₁.setTop (mkF m 5 #[.val (.ref a), .val (.int b), .val (.int i)] [(.int i)]))) (fun _ k => XS.iloadN X0.here hx rfl (hb hby own_d_prog_65_method_2_code_4) rfl k) ?_
      refine OGoal.mp (S' := (s₁.setTop (mkF m 6 #[.val (.ref a), .val (.int b), .val (.int i)] [(.ref a), (.int i)]))) (fun _ k => XS.aloadN X0.here hx rfl (hb hby own_d_prog_65_method_2_code_5) rfl rfl k) ?_
      refine OGoal.mp (S' := (s₁.setTop (mkF m 7 #[.val (.ref a), .val (.int b), .val (.int i)] [(.int n), (.int i)]))) (fun _ k => oLen X0 hx hZ e0 A (g := mkF m 6 #[.val (.ref a), .val (.int b), .val (.int i)] [(.ref a), (.int i)]) rfl rfl (hb hby own_d_prog_65_method_2_code_6) k) ?_
      refine OGoal.mp (S' := (s₁.setTop (mkF m 28 #[.val (.ref a), .val (.int b), .val (.int i)] []))) (fun _ k => XS.icmpYes X0.here hx rfl (pc0 := 7) (pc' := 28) rfl (hb hby own_d_prog_65_method_2_code_7) rfl (XT.ii_ge_t (mNlt (by omega))) (by decide) (by decide) k) ?_
      refine OGoal.mp (S' := (s₁.setTop (mkF m 29 #[.val (.ref a), .val (.int b), .val (.int i)] [(.int b)]))) (fun _ k => XS.iloadN X0.here hx rfl (hb hby own_d_prog_65_method_2_code_28) rfl k) ?_
      refine oRetI X0 hx hlk hret (hb hby own_d_prog_65_method_2_code_29) ?_ (by decide) (by decide)
      exact ⟨b, rfl, Fr.nil n0, e0, hb0, by omega, fun j => ⟨(hj j).1, fun q1 q2 => (hj j).2 q1 (by omega)⟩⟩
    | succ k ih =>
      intro b i hb0 hbi hk hj
      have := rng32 n
      refine OGoal.mp (S' := (s₁.setTop (mkF m 5 #[.val (.ref a), .val (.int b), .val (.int i)] [(.int i)]))) (fun _ k => XS.iloadN X0.here hx rfl (hb hby own_d_prog_65_method_2_code_4) rfl k) ?_
      refine OGoal.mp (S' := (s₁.setTop (mkF m 6 #[.val (.ref a), .val (.int b), .val (.int i)] [(.ref a), (.int i)]))) (fun _ k => XS.aloadN X0.here hx rfl (hb hby own_d_prog_65_method_2_code_5) rfl rfl k) ?_
      refine OGoal.mp (S' := (s₁.setTop (mkF m 7 #[.val (.ref a), .val (.int b), .val (.int i)] [(.int n), (.int i)]))) (fun _ k => oLen X0 hx hZ e0 A (g := mkF m 6 #[.val (.ref a), .val (.int b), .val (.int i)] [(.ref a), (.int i)]) rfl rfl (hb hby own_d_prog_65_method_2_code_6) k) ?_
      refine OGoal.mp (S' := (s₁.setTop (mkF m 10 #[.val (.ref a), .val (.int b), .val (.int i)] []))) (fun _ k => XS.icmpNo X0.here hx rfl (hb hby own_d_prog_65_method_2_code_7) rfl (XT.ii_ge_f (mLt (by omega))) k) ?_
      refine OGoal.mp (S' := (s₁.setTop (mkF m 11 #[.val (.ref a), .val (.int b), .val (.int i)] [(.ref a)]))) (fun _ k => XS.aloadN X0.here hx rfl (hb hby own_d_prog_65_method_2_code_10) rfl rfl k) ?_
      refine OGoal.mp (S' := (s₁.setTop (mkF m 12 #[.val (.ref a), .val (.int b), .val (.int i)] [(.int i), (.ref a)]))) (fun _ k => XS.iloadN X0.here hx rfl (hb hby own_d_prog_65_method_2_code_11) rfl k) ?_
      refine OGoal.mp (S' := (s₁.setTop (mkF m 13 #[.val (.ref a), .val (.int b), .val (.int i)] [(.double (own_D (kf i.toNatClampNeg)))]))) (fun _ k => oLdD X0 hx hZ e0 A (by omega) (by omega) (hf _ (by show i.toInt.toNat < n.toInt.toNat; omega)) (g := mkF m 12 #[.val (.ref a), .val (.int b), .val (.int i)] [(.int i), (.ref a)]) rfl rfl (hb hby own_d_prog_65_method_2_code_12) k) ?_
      refine OGoal.mp (S' := (s₁.setTop (mkF m 14 #[.val (.ref a), .val (.int b), .val (.int i)] [(.ref a), (.double (own_D (kf i.toNatClampNeg)))]))) (fun _ k => XS.aloadN X0.here hx rfl (hb hby own_d_prog_65_method_2_code_13) rfl rfl k) ?_
      refine OGoal.mp (S' := (s₁.setTop (mkF m 15 #[.val (.ref a), .val (.int b), .val (.int i)] [(.int b), (.ref a), (.double (own_D (kf i.toNatClampNeg)))]))) (fun _ k => XS.iloadN X0.here hx rfl (hb hby own_d_prog_65_method_2_code_14) rfl k) ?_
      refine OGoal.mp (S' := (s₁.setTop (mkF m 16 #[.val (.ref a), .val (.int b), .val (.int i)] [(.double (own_D (kf b.toNatClampNeg))), (.double (own_D (kf i.toNatClampNeg)))]))) (fun _ k => oLdD X0 hx hZ e0 A (by omega) (by omega) (hf _ (by show b.toInt.toNat < n.toInt.toNat; omega)) (g := mkF m 15 #[.val (.ref a), .val (.int b), .val (.int i)] [(.int b), (.ref a), (.double (own_D (kf i.toNatClampNeg)))]) rfl rfl (hb hby own_d_prog_65_method_2_code_15) k) ?_
      refine OGoal.mp (S' := (s₁.setTop (mkF m 17 #[.val (.ref a), .val (.int b), .val (.int i)] [(.int (cmpValue (FP.dcmp (own_D (kf i.toNatClampNeg)) (own_D (kf b.toNatClampNeg))) .l))]))) (fun _ k => XS.dcmpS (g := mkF m 16 #[.val (.ref a), .val (.int b), .val (.int i)] [(.double (own_D (kf b.toNatClampNeg))), (.double (own_D (kf i.toNatClampNeg)))]) (o := .l) (x := (own_D (kf i.toNatClampNeg))) (y := (own_D (kf b.toNatClampNeg))) (v := (cmpValue (FP.dcmp (own_D (kf i.toNatClampNeg)) (own_D (kf b.toNatClampNeg))) .l)) (rest := []) X0.here hx rfl (hb hby own_d_prog_65_method_2_code_16) rfl rfl k) ?_
      by_cases hc1 : 0 < (cmpValue (FP.dcmp (own_D (kf i.toNatClampNeg)) (own_D (kf b.toNatClampNeg))) .l)
      · refine OGoal.mp (S' := (s₁.setTop (mkF m 20 #[.val (.ref a), .val (.int b), .val (.int i)] []))) (fun _ k => XS.ifNo X0.here hx rfl (hb hby own_d_prog_65_method_2_code_17) rfl (XT.i0_le_f hc1) k) ?_
        refine OGoal.mp (S' := (s₁.setTop (mkF m 21 #[.val (.ref a), .val (.int b), .val (.int i)] [(.int i)]))) (fun _ k => XS.iloadN X0.here hx rfl (hb hby own_d_prog_65_method_2_code_20) rfl k) ?_
        refine OGoal.mp (S' := (s₁.setTop (mkF m 22 #[.val (.ref a), .val (.int i), .val (.int i)] []))) (fun _ k => XS.istoreN X0.here hx rfl (hb hby own_d_prog_65_method_2_code_21) rfl (l' := #[.val (.ref a), .val (.int i), .val (.int i)]) rfl k) ?_
        refine OGoal.mp (S' := (s₁.setTop (mkF m 25 #[.val (.ref a), .val (.int i), .val (.int (i + (1 : Int32)))] []))) (fun _ k => XT.iincV X0.here hx rfl (1 : Int32) (hb hby own_d_prog_65_method_2_code_22) rfl rfl (l' := #[.val (.ref a), .val (.int i), .val (.int (i + (1 : Int32)))]) rfl k) ?_
        refine OGoal.mp (S' := (s₁.setTop (mkF m 4 #[.val (.ref a), .val (.int i), .val (.int (i + (1 : Int32)))] []))) (fun _ k => XS.goto X0.here hx rfl (pc0 := 25) (pc' := 4) rfl (hb hby own_d_prog_65_method_2_code_25) (by decide) (by decide) k) ?_
        have e1 : ((i + (1 : Int32))).toInt = i.toInt + 1 := by rw [XT.add32 (by rw [show (1 : Int32).toInt = 1 by decide]; exact ⟨by omega, by omega⟩)]; rfl
        have e2 : i.toNatClampNeg = i.toInt.toNat := rfl
        have e3 : b.toNatClampNeg = b.toInt.toNat := rfl
        rw [e2, e3] at hc1
        have hq := (own_gt _ _ (hr _) (hr _) .l).mp hc1
        refine ih (i) ((i + (1 : Int32))) (by omega) (by omega) (by omega) (fun j => ⟨fun q => ?_, fun q1 q2 => ?_⟩)
        · rcases Nat.lt_or_ge j b.toInt.toNat with z | z
          · have := (hj j).1 z; omega
          · have := (hj j).2 z q; omega
        · obtain rfl : j = i.toInt.toNat := by omega
          exact Int.le_refl _
      · refine OGoal.mp (S' := (s₁.setTop (mkF m 22 #[.val (.ref a), .val (.int b), .val (.int i)] []))) (fun _ k => XS.ifYes X0.here hx rfl (pc0 := 17) (pc' := 22) rfl (hb hby own_d_prog_65_method_2_code_17) rfl (XT.i0_le_t hc1) (by decide) (by decide) k) ?_
        refine OGoal.mp (S' := (s₁.setTop (mkF m 25 #[.val (.ref a), .val (.int b), .val (.int (i + (1 : Int32)))] []))) (fun _ k => XT.iincV X0.here hx rfl (1 : Int32) (hb hby own_d_prog_65_method_2_code_22) rfl rfl (l' := #[.val (.ref a), .val (.int b), .val (.int (i + (1 : Int32)))]) rfl k) ?_
        refine OGoal.mp (S' := (s₁.setTop (mkF m 4 #[.val (.ref a), .val (.int b), .val (.int (i + (1 : Int32)))] []))) (fun _ k => XS.goto X0.here hx rfl (pc0 := 25) (pc' := 4) rfl (hb hby own_d_prog_65_method_2_code_25) (by decide) (by decide) k) ?_
        have e1 : ((i + (1 : Int32))).toInt = i.toInt + 1 := by rw [XT.add32 (by rw [show (1 : Int32).toInt = 1 by decide]; exact ⟨by omega, by omega⟩)]; rfl
        have e2 : i.toNatClampNeg = i.toInt.toNat := rfl
        have e3 : b.toNatClampNeg = b.toInt.toNat := rfl
        rw [e2, e3] at hc1
        have hq : (kf i.toInt.toNat).toInt ≤ (kf b.toInt.toNat).toInt := Int.not_lt.mp fun z => hc1 ((own_gt _ _ (hr _) (hr _) .l).mpr z)
        refine ih (b) ((i + (1 : Int32))) (by omega) (by omega) (by omega) (fun j => ⟨fun q => ?_, fun q1 q2 => ?_⟩)
        · exact (hj j).1 q
        · rcases Nat.lt_or_ge j i.toInt.toNat with z | z
          · exact (hj j).2 q1 z
          · obtain rfl : j = i.toInt.toNat := by omega
            exact hq
  have q0 : (0 : Int32).toInt = 0 := by decide
  have q1 : (1 : Int32).toInt = 1 := by decide
  refine loop (n.toInt.toNat - 1) 0 1 (by decide) (by decide) (by omega) (fun j => ⟨fun q => by omega, fun q1' q2 => ?_⟩)
  obtain rfl : j = 0 := by omega
  exact Int.le_refl _
theorem own_d_method_3_code_0 : decode method_3_code 0 = .ok (.iload_n 2, 1) := by decide +kernel
theorem own_d_method_3_code_1 : decode method_3_code 1 = .ok (.iload_n 1, 1) := by decide +kernel
theorem own_d_method_3_code_2 : decode method_3_code 2 = .ok (.if_icmp .lt 5, 3) := by decide +kernel
theorem own_d_method_3_code_7 : decode method_3_code 7 = .ok (.iload_n 2, 1) := by decide +kernel
theorem own_d_method_3_code_8 : decode method_3_code 8 = .ok (.iload_n 3, 1) := by decide +kernel
theorem own_d_method_3_code_9 : decode method_3_code 9 = .ok (.if_icmp .ge 18, 3) := by decide +kernel
theorem own_d_method_3_code_12 : decode method_3_code 12 = .ok (.aload_n 0, 1) := by decide +kernel
theorem own_d_method_3_code_13 : decode method_3_code 13 = .ok (.iload_n 2, 1) := by decide +kernel
theorem own_d_method_3_code_14 : decode method_3_code 14 = .ok (.daload, 1) := by decide +kernel
theorem own_d_method_3_code_15 : decode method_3_code 15 = .ok (.dload 4, 2) := by decide +kernel
theorem own_d_method_3_code_17 : decode method_3_code 17 = .ok (.dcmp .g, 1) := by decide +kernel
theorem own_d_method_3_code_18 : decode method_3_code 18 = .ok (.ifCond .ge 7, 3) := by decide +kernel
theorem own_d_method_3_code_21 : decode method_3_code 21 = .ok (.iconst 1, 1) := by decide +kernel
theorem own_d_method_3_code_22 : decode method_3_code 22 = .ok (.goto 4, 3) := by decide +kernel
theorem own_d_method_3_code_26 : decode method_3_code 26 = .ok (.ireturn, 1) := by decide +kernel
theorem own_d_method_3_code_27 : decode method_3_code 27 = .ok (.aload_n 0, 1) := by decide +kernel
theorem own_d_method_3_code_28 : decode method_3_code 28 = .ok (.iload_n 2, 1) := by decide +kernel
theorem own_d_method_3_code_29 : decode method_3_code 29 = .ok (.daload, 1) := by decide +kernel
theorem own_d_method_3_code_30 : decode method_3_code 30 = .ok (.dload 4, 2) := by decide +kernel
theorem own_d_method_3_code_32 : decode method_3_code 32 = .ok (.dcmp .g, 1) := by decide +kernel
theorem own_d_method_3_code_33 : decode method_3_code 33 = .ok (.ifCond .gt 7, 3) := by decide +kernel
theorem own_d_method_3_code_36 : decode method_3_code 36 = .ok (.iconst 1, 1) := by decide +kernel
theorem own_d_method_3_code_37 : decode method_3_code 37 = .ok (.goto 4, 3) := by decide +kernel
theorem own_d_method_3_code_41 : decode method_3_code 41 = .ok (.ireturn, 1) := by decide +kernel
theorem own_d_method_3_code_5 : decode method_3_code 5 = .ok (.iconst 1, 1) := by decide +kernel
theorem own_d_method_3_code_6 : decode method_3_code 6 = .ok (.ireturn, 1) := by decide +kernel
theorem own_ef_rmK0 (x0 : Addr) (x1 : Int32) (x2 : Int32) (x3 : Int32) (x4 : UInt64) (m : MethodId) : entryFrame m #[(.ref x0), (.int x1), (.int x2), (.int x3), (.double x4)] 6 = mkF m 0 #[.val (.ref x0), .val (.int x1), .val (.int x2), .val (.int x3), .val (.double x4), .second] [] := by first | (simp [entryFrame, mkF, argsToLocals, Value.category]; done) | rfl
set_option maxRecDepth 65536 in
set_option maxHeartbeats 40000000 in
theorem rmK0 (l : Launch) (Z : State) (a0 : Array Value) (hw : ∀ d ∈ tables_1, d.before a0 Z = true) (a : Addr) (n r : Int32) (km : Int32) (h0 : Heap) (n0 : Nat) (Z0 : n0 ≤ h0.size) (f : Nat → Value) (kf : Nat → Int32) (A : OArr Z h0 a .double n f) (hf : ∀ i, i < n.toNatClampNeg → f i = .double (own_D (kf i))) (hr : ∀ i, 0 ≤ (kf i).toInt ∧ (kf i).toInt < 16) (hm : 0 ≤ km.toInt ∧ km.toInt < 16) (c1 : (0 : Int32) < n → (0 : Int32) < r → (kf 0).toInt < km.toInt) (c2 : (0 : Int32) < n → ¬ (0 : Int32) < r → (kf 0).toInt ≤ km.toInt) :
    OCon l Z (⟨"com/example/andesite/andesite/model/LossesPredictedPinLaw", "ok", "([DIIID)Z"⟩ : MethodName) method_3_code 6 (some .boolean) ({ frames := 0, cells := 0, slots := 0, locals := 0 } : Room) #[(.ref a), (.int n), (.int (0 : Int32)), (.int r), (.double (own_D km))] h0 (fun v h L => v = some (.int (1 : Int32)) ∧ Fr n0 L ∧ h = h0) := by
  refine OConK.intro (y := (⟨"com/example/andesite/andesite/model/LossesPredictedPinLaw", "ok", "([DIIID)Z"⟩ : MethodName)) (plainFor_of_name own_pn_com_example_andesite_andesite_model_LossesPredictedPinLaw) (own_ef_rmK0 a n (0 : Int32) r (own_D km)) ?_
  intro p e s m below meth c s₁ hx hby hml hown hnm hret hlk hZ X0 e0
  show OGoal p e below s _ _ _ (s₁.setTop (mkF m 0 #[.val (.ref a), .val (.int n), .val (.int (0 : Int32)), .val (.int r), .val (.double (own_D km)), .second] []))
  refine OGoal.mp (S' := (s₁.setTop (mkF m 1 #[.val (.ref a), .val (.int n), .val (.int (0 : Int32)), .val (.int r), .val (.double (own_D km)), .second] [(.int (0 : Int32))]))) (fun _ k => XS.iloadN X0.here hx rfl (hb hby own_d_method_3_code_0) rfl k) ?_
  refine OGoal.mp (S' := (s₁.setTop (mkF m 2 #[.val (.ref a), .val (.int n), .val (.int (0 : Int32)), .val (.int r), .val (.double (own_D km)), .second] [(.int n), (.int (0 : Int32))]))) (fun _ k => XS.iloadN X0.here hx rfl (hb hby own_d_method_3_code_1) rfl k) ?_
  by_cases hc1 : (0 : Int32) < n
  · refine OGoal.mp (S' := (s₁.setTop (mkF m 7 #[.val (.ref a), .val (.int n), .val (.int (0 : Int32)), .val (.int r), .val (.double (own_D km)), .second] []))) (fun _ k => XS.icmpYes X0.here hx rfl (pc0 := 2) (pc' := 7) rfl (hb hby own_d_method_3_code_2) rfl (XT.ii_lt_t hc1) (by decide) (by decide) k) ?_
    refine OGoal.mp (S' := (s₁.setTop (mkF m 8 #[.val (.ref a), .val (.int n), .val (.int (0 : Int32)), .val (.int r), .val (.double (own_D km)), .second] [(.int (0 : Int32))]))) (fun _ k => XS.iloadN X0.here hx rfl (hb hby own_d_method_3_code_7) rfl k) ?_
    refine OGoal.mp (S' := (s₁.setTop (mkF m 9 #[.val (.ref a), .val (.int n), .val (.int (0 : Int32)), .val (.int r), .val (.double (own_D km)), .second] [(.int r), (.int (0 : Int32))]))) (fun _ k => XS.iloadN X0.here hx rfl (hb hby own_d_method_3_code_8) rfl k) ?_
    by_cases hc2 : (0 : Int32) < r
    · refine OGoal.mp (S' := (s₁.setTop (mkF m 12 #[.val (.ref a), .val (.int n), .val (.int (0 : Int32)), .val (.int r), .val (.double (own_D km)), .second] []))) (fun _ k => XS.icmpNo X0.here hx rfl (hb hby own_d_method_3_code_9) rfl (XT.ii_ge_f hc2) k) ?_
      refine OGoal.mp (S' := (s₁.setTop (mkF m 13 #[.val (.ref a), .val (.int n), .val (.int (0 : Int32)), .val (.int r), .val (.double (own_D km)), .second] [(.ref a)]))) (fun _ k => XS.aloadN X0.here hx rfl (hb hby own_d_method_3_code_12) rfl rfl k) ?_
      refine OGoal.mp (S' := (s₁.setTop (mkF m 14 #[.val (.ref a), .val (.int n), .val (.int (0 : Int32)), .val (.int r), .val (.double (own_D km)), .second] [(.int (0 : Int32)), (.ref a)]))) (fun _ k => XS.iloadN X0.here hx rfl (hb hby own_d_method_3_code_13) rfl k) ?_
      refine OGoal.mp (S' := (s₁.setTop (mkF m 15 #[.val (.ref a), .val (.int n), .val (.int (0 : Int32)), .val (.int r), .val (.double (own_D km)), .second] [(.double (own_D (kf 0)))]))) (fun _ k => oLdD X0 hx hZ e0 A (by decide) (oLt hc1) (hf _ (own_il (by decide) hc1)) (g := mkF m 14 #[.val (.ref a), .val (.int n), .val (.int (0 : Int32)), .val (.int r), .val (.double (own_D km)), .second] [(.int (0 : Int32)), (.ref a)]) rfl rfl (hb hby own_d_method_3_code_14) k) ?_
      refine OGoal.mp (S' := (s₁.setTop (mkF m 17 #[.val (.ref a), .val (.int n), .val (.int (0 : Int32)), .val (.int r), .val (.double (own_D km)), .second] [(.double (own_D km)), (.double (own_D (kf 0)))]))) (fun _ k => XS.dload X0.here hx rfl (hb hby own_d_method_3_code_15) rfl k) ?_
      refine OGoal.mp (S' := (s₁.setTop (mkF m 18 #[.val (.ref a), .val (.int n), .val (.int (0 : Int32)), .val (.int r), .val (.double (own_D km)), .second] [(.int (cmpValue (FP.dcmp (own_D (kf 0)) (own_D km)) .g))]))) (fun _ k => XS.dcmpS (g := mkF m 17 #[.val (.ref a), .val (.int n), .val (.int (0 : Int32)), .val (.int r), .val (.double (own_D km)), .second] [(.double (own_D km)), (.double (own_D (kf 0)))]) (o := .g) (x := (own_D (kf 0))) (y := (own_D km)) (v := (cmpValue (FP.dcmp (own_D (kf 0)) (own_D km)) .g)) (rest := []) X0.here hx rfl (hb hby own_d_method_3_code_17) rfl rfl k) ?_
      refine OGoal.mp (S' := (s₁.setTop (mkF m 21 #[.val (.ref a), .val (.int n), .val (.int (0 : Int32)), .val (.int r), .val (.double (own_D km)), .second] []))) (fun _ k => XS.ifNo X0.here hx rfl (hb hby own_d_method_3_code_18) rfl (XT.i0_ge_f ((own_lt _ _ (hr _) hm .g).mpr (c1 hc1 hc2))) k) ?_
      refine OGoal.mp (S' := (s₁.setTop (mkF m 22 #[.val (.ref a), .val (.int n), .val (.int (0 : Int32)), .val (.int r), .val (.double (own_D km)), .second] [(.int (1 : Int32))]))) (fun _ k => XS.iconst X0.here hx rfl (hb hby own_d_method_3_code_21) k) ?_
      refine OGoal.mp (S' := (s₁.setTop (mkF m 26 #[.val (.ref a), .val (.int n), .val (.int (0 : Int32)), .val (.int r), .val (.double (own_D km)), .second] [(.int (1 : Int32))]))) (fun _ k => XS.goto X0.here hx rfl (pc0 := 22) (pc' := 26) rfl (hb hby own_d_method_3_code_22) (by decide) (by decide) k) ?_
      refine oRetZ X0 hx hlk hret (Or.inr rfl) (hb hby own_d_method_3_code_26) ?_ (by decide) (by decide)
      exact ⟨rfl, (Fr.nil n0), e0⟩
    · refine OGoal.mp (S' := (s₁.setTop (mkF m 27 #[.val (.ref a), .val (.int n), .val (.int (0 : Int32)), .val (.int r), .val (.double (own_D km)), .second] []))) (fun _ k => XS.icmpYes X0.here hx rfl (pc0 := 9) (pc' := 27) rfl (hb hby own_d_method_3_code_9) rfl (XT.ii_ge_t hc2) (by decide) (by decide) k) ?_
      refine OGoal.mp (S' := (s₁.setTop (mkF m 28 #[.val (.ref a), .val (.int n), .val (.int (0 : Int32)), .val (.int r), .val (.double (own_D km)), .second] [(.ref a)]))) (fun _ k => XS.aloadN X0.here hx rfl (hb hby own_d_method_3_code_27) rfl rfl k) ?_
      refine OGoal.mp (S' := (s₁.setTop (mkF m 29 #[.val (.ref a), .val (.int n), .val (.int (0 : Int32)), .val (.int r), .val (.double (own_D km)), .second] [(.int (0 : Int32)), (.ref a)]))) (fun _ k => XS.iloadN X0.here hx rfl (hb hby own_d_method_3_code_28) rfl k) ?_
      refine OGoal.mp (S' := (s₁.setTop (mkF m 30 #[.val (.ref a), .val (.int n), .val (.int (0 : Int32)), .val (.int r), .val (.double (own_D km)), .second] [(.double (own_D (kf 0)))]))) (fun _ k => oLdD X0 hx hZ e0 A (by decide) (oLt hc1) (hf _ (own_il (by decide) hc1)) (g := mkF m 29 #[.val (.ref a), .val (.int n), .val (.int (0 : Int32)), .val (.int r), .val (.double (own_D km)), .second] [(.int (0 : Int32)), (.ref a)]) rfl rfl (hb hby own_d_method_3_code_29) k) ?_
      refine OGoal.mp (S' := (s₁.setTop (mkF m 32 #[.val (.ref a), .val (.int n), .val (.int (0 : Int32)), .val (.int r), .val (.double (own_D km)), .second] [(.double (own_D km)), (.double (own_D (kf 0)))]))) (fun _ k => XS.dload X0.here hx rfl (hb hby own_d_method_3_code_30) rfl k) ?_
      refine OGoal.mp (S' := (s₁.setTop (mkF m 33 #[.val (.ref a), .val (.int n), .val (.int (0 : Int32)), .val (.int r), .val (.double (own_D km)), .second] [(.int (cmpValue (FP.dcmp (own_D (kf 0)) (own_D km)) .g))]))) (fun _ k => XS.dcmpS (g := mkF m 32 #[.val (.ref a), .val (.int n), .val (.int (0 : Int32)), .val (.int r), .val (.double (own_D km)), .second] [(.double (own_D km)), (.double (own_D (kf 0)))]) (o := .g) (x := (own_D (kf 0))) (y := (own_D km)) (v := (cmpValue (FP.dcmp (own_D (kf 0)) (own_D km)) .g)) (rest := []) X0.here hx rfl (hb hby own_d_method_3_code_32) rfl rfl k) ?_
      refine OGoal.mp (S' := (s₁.setTop (mkF m 36 #[.val (.ref a), .val (.int n), .val (.int (0 : Int32)), .val (.int r), .val (.double (own_D km)), .second] []))) (fun _ k => XS.ifNo X0.here hx rfl (hb hby own_d_method_3_code_33) rfl (XT.i0_gt_f (fun z => absurd ((own_gt _ _ (hr _) hm .g).mp z) (Int.not_lt.mpr (c2 hc1 hc2)))) k) ?_
      refine OGoal.mp (S' := (s₁.setTop (mkF m 37 #[.val (.ref a), .val (.int n), .val (.int (0 : Int32)), .val (.int r), .val (.double (own_D km)), .second] [(.int (1 : Int32))]))) (fun _ k => XS.iconst X0.here hx rfl (hb hby own_d_method_3_code_36) k) ?_
      refine OGoal.mp (S' := (s₁.setTop (mkF m 41 #[.val (.ref a), .val (.int n), .val (.int (0 : Int32)), .val (.int r), .val (.double (own_D km)), .second] [(.int (1 : Int32))]))) (fun _ k => XS.goto X0.here hx rfl (pc0 := 37) (pc' := 41) rfl (hb hby own_d_method_3_code_37) (by decide) (by decide) k) ?_
      refine oRetZ X0 hx hlk hret (Or.inr rfl) (hb hby own_d_method_3_code_41) ?_ (by decide) (by decide)
      exact ⟨rfl, (Fr.nil n0), e0⟩
  · refine OGoal.mp (S' := (s₁.setTop (mkF m 5 #[.val (.ref a), .val (.int n), .val (.int (0 : Int32)), .val (.int r), .val (.double (own_D km)), .second] []))) (fun _ k => XS.icmpNo X0.here hx rfl (hb hby own_d_method_3_code_2) rfl (XT.ii_lt_f hc1) k) ?_
    refine OGoal.mp (S' := (s₁.setTop (mkF m 6 #[.val (.ref a), .val (.int n), .val (.int (0 : Int32)), .val (.int r), .val (.double (own_D km)), .second] [(.int (1 : Int32))]))) (fun _ k => XS.iconst X0.here hx rfl (hb hby own_d_method_3_code_5) k) ?_
    refine oRetZ X0 hx hlk hret (Or.inr rfl) (hb hby own_d_method_3_code_6) ?_ (by decide) (by decide)
    exact ⟨rfl, (Fr.nil n0), e0⟩
theorem own_ef_rmK1 (x0 : Addr) (x1 : Int32) (x2 : Int32) (x3 : Int32) (x4 : UInt64) (m : MethodId) : entryFrame m #[(.ref x0), (.int x1), (.int x2), (.int x3), (.double x4)] 6 = mkF m 0 #[.val (.ref x0), .val (.int x1), .val (.int x2), .val (.int x3), .val (.double x4), .second] [] := by first | (simp [entryFrame, mkF, argsToLocals, Value.category]; done) | rfl
set_option maxRecDepth 65536 in
set_option maxHeartbeats 40000000 in
theorem rmK1 (l : Launch) (Z : State) (a0 : Array Value) (hw : ∀ d ∈ tables_1, d.before a0 Z = true) (a : Addr) (n r : Int32) (km : Int32) (h0 : Heap) (n0 : Nat) (Z0 : n0 ≤ h0.size) (f : Nat → Value) (kf : Nat → Int32) (A : OArr Z h0 a .double n f) (hf : ∀ i, i < n.toNatClampNeg → f i = .double (own_D (kf i))) (hr : ∀ i, 0 ≤ (kf i).toInt ∧ (kf i).toInt < 16) (hm : 0 ≤ km.toInt ∧ km.toInt < 16) (c1 : (1 : Int32) < n → (1 : Int32) < r → (kf 1).toInt < km.toInt) (c2 : (1 : Int32) < n → ¬ (1 : Int32) < r → (kf 1).toInt ≤ km.toInt) :
    OCon l Z (⟨"com/example/andesite/andesite/model/LossesPredictedPinLaw", "ok", "([DIIID)Z"⟩ : MethodName) method_3_code 6 (some .boolean) ({ frames := 0, cells := 0, slots := 0, locals := 0 } : Room) #[(.ref a), (.int n), (.int (1 : Int32)), (.int r), (.double (own_D km))] h0 (fun v h L => v = some (.int (1 : Int32)) ∧ Fr n0 L ∧ h = h0) := by
  refine OConK.intro (y := (⟨"com/example/andesite/andesite/model/LossesPredictedPinLaw", "ok", "([DIIID)Z"⟩ : MethodName)) (plainFor_of_name own_pn_com_example_andesite_andesite_model_LossesPredictedPinLaw) (own_ef_rmK1 a n (1 : Int32) r (own_D km)) ?_
  intro p e s m below meth c s₁ hx hby hml hown hnm hret hlk hZ X0 e0
  show OGoal p e below s _ _ _ (s₁.setTop (mkF m 0 #[.val (.ref a), .val (.int n), .val (.int (1 : Int32)), .val (.int r), .val (.double (own_D km)), .second] []))
  refine OGoal.mp (S' := (s₁.setTop (mkF m 1 #[.val (.ref a), .val (.int n), .val (.int (1 : Int32)), .val (.int r), .val (.double (own_D km)), .second] [(.int (1 : Int32))]))) (fun _ k => XS.iloadN X0.here hx rfl (hb hby own_d_method_3_code_0) rfl k) ?_
  refine OGoal.mp (S' := (s₁.setTop (mkF m 2 #[.val (.ref a), .val (.int n), .val (.int (1 : Int32)), .val (.int r), .val (.double (own_D km)), .second] [(.int n), (.int (1 : Int32))]))) (fun _ k => XS.iloadN X0.here hx rfl (hb hby own_d_method_3_code_1) rfl k) ?_
  by_cases hc1 : (1 : Int32) < n
  · refine OGoal.mp (S' := (s₁.setTop (mkF m 7 #[.val (.ref a), .val (.int n), .val (.int (1 : Int32)), .val (.int r), .val (.double (own_D km)), .second] []))) (fun _ k => XS.icmpYes X0.here hx rfl (pc0 := 2) (pc' := 7) rfl (hb hby own_d_method_3_code_2) rfl (XT.ii_lt_t hc1) (by decide) (by decide) k) ?_
    refine OGoal.mp (S' := (s₁.setTop (mkF m 8 #[.val (.ref a), .val (.int n), .val (.int (1 : Int32)), .val (.int r), .val (.double (own_D km)), .second] [(.int (1 : Int32))]))) (fun _ k => XS.iloadN X0.here hx rfl (hb hby own_d_method_3_code_7) rfl k) ?_
    refine OGoal.mp (S' := (s₁.setTop (mkF m 9 #[.val (.ref a), .val (.int n), .val (.int (1 : Int32)), .val (.int r), .val (.double (own_D km)), .second] [(.int r), (.int (1 : Int32))]))) (fun _ k => XS.iloadN X0.here hx rfl (hb hby own_d_method_3_code_8) rfl k) ?_
    by_cases hc2 : (1 : Int32) < r
    · refine OGoal.mp (S' := (s₁.setTop (mkF m 12 #[.val (.ref a), .val (.int n), .val (.int (1 : Int32)), .val (.int r), .val (.double (own_D km)), .second] []))) (fun _ k => XS.icmpNo X0.here hx rfl (hb hby own_d_method_3_code_9) rfl (XT.ii_ge_f hc2) k) ?_
      refine OGoal.mp (S' := (s₁.setTop (mkF m 13 #[.val (.ref a), .val (.int n), .val (.int (1 : Int32)), .val (.int r), .val (.double (own_D km)), .second] [(.ref a)]))) (fun _ k => XS.aloadN X0.here hx rfl (hb hby own_d_method_3_code_12) rfl rfl k) ?_
      refine OGoal.mp (S' := (s₁.setTop (mkF m 14 #[.val (.ref a), .val (.int n), .val (.int (1 : Int32)), .val (.int r), .val (.double (own_D km)), .second] [(.int (1 : Int32)), (.ref a)]))) (fun _ k => XS.iloadN X0.here hx rfl (hb hby own_d_method_3_code_13) rfl k) ?_
      refine OGoal.mp (S' := (s₁.setTop (mkF m 15 #[.val (.ref a), .val (.int n), .val (.int (1 : Int32)), .val (.int r), .val (.double (own_D km)), .second] [(.double (own_D (kf 1)))]))) (fun _ k => oLdD X0 hx hZ e0 A (by decide) (oLt hc1) (hf _ (own_il (by decide) hc1)) (g := mkF m 14 #[.val (.ref a), .val (.int n), .val (.int (1 : Int32)), .val (.int r), .val (.double (own_D km)), .second] [(.int (1 : Int32)), (.ref a)]) rfl rfl (hb hby own_d_method_3_code_14) k) ?_
      refine OGoal.mp (S' := (s₁.setTop (mkF m 17 #[.val (.ref a), .val (.int n), .val (.int (1 : Int32)), .val (.int r), .val (.double (own_D km)), .second] [(.double (own_D km)), (.double (own_D (kf 1)))]))) (fun _ k => XS.dload X0.here hx rfl (hb hby own_d_method_3_code_15) rfl k) ?_
      refine OGoal.mp (S' := (s₁.setTop (mkF m 18 #[.val (.ref a), .val (.int n), .val (.int (1 : Int32)), .val (.int r), .val (.double (own_D km)), .second] [(.int (cmpValue (FP.dcmp (own_D (kf 1)) (own_D km)) .g))]))) (fun _ k => XS.dcmpS (g := mkF m 17 #[.val (.ref a), .val (.int n), .val (.int (1 : Int32)), .val (.int r), .val (.double (own_D km)), .second] [(.double (own_D km)), (.double (own_D (kf 1)))]) (o := .g) (x := (own_D (kf 1))) (y := (own_D km)) (v := (cmpValue (FP.dcmp (own_D (kf 1)) (own_D km)) .g)) (rest := []) X0.here hx rfl (hb hby own_d_method_3_code_17) rfl rfl k) ?_
      refine OGoal.mp (S' := (s₁.setTop (mkF m 21 #[.val (.ref a), .val (.int n), .val (.int (1 : Int32)), .val (.int r), .val (.double (own_D km)), .second] []))) (fun _ k => XS.ifNo X0.here hx rfl (hb hby own_d_method_3_code_18) rfl (XT.i0_ge_f ((own_lt _ _ (hr _) hm .g).mpr (c1 hc1 hc2))) k) ?_
      refine OGoal.mp (S' := (s₁.setTop (mkF m 22 #[.val (.ref a), .val (.int n), .val (.int (1 : Int32)), .val (.int r), .val (.double (own_D km)), .second] [(.int (1 : Int32))]))) (fun _ k => XS.iconst X0.here hx rfl (hb hby own_d_method_3_code_21) k) ?_
      refine OGoal.mp (S' := (s₁.setTop (mkF m 26 #[.val (.ref a), .val (.int n), .val (.int (1 : Int32)), .val (.int r), .val (.double (own_D km)), .second] [(.int (1 : Int32))]))) (fun _ k => XS.goto X0.here hx rfl (pc0 := 22) (pc' := 26) rfl (hb hby own_d_method_3_code_22) (by decide) (by decide) k) ?_
      refine oRetZ X0 hx hlk hret (Or.inr rfl) (hb hby own_d_method_3_code_26) ?_ (by decide) (by decide)
      exact ⟨rfl, (Fr.nil n0), e0⟩
    · refine OGoal.mp (S' := (s₁.setTop (mkF m 27 #[.val (.ref a), .val (.int n), .val (.int (1 : Int32)), .val (.int r), .val (.double (own_D km)), .second] []))) (fun _ k => XS.icmpYes X0.here hx rfl (pc0 := 9) (pc' := 27) rfl (hb hby own_d_method_3_code_9) rfl (XT.ii_ge_t hc2) (by decide) (by decide) k) ?_
      refine OGoal.mp (S' := (s₁.setTop (mkF m 28 #[.val (.ref a), .val (.int n), .val (.int (1 : Int32)), .val (.int r), .val (.double (own_D km)), .second] [(.ref a)]))) (fun _ k => XS.aloadN X0.here hx rfl (hb hby own_d_method_3_code_27) rfl rfl k) ?_
      refine OGoal.mp (S' := (s₁.setTop (mkF m 29 #[.val (.ref a), .val (.int n), .val (.int (1 : Int32)), .val (.int r), .val (.double (own_D km)), .second] [(.int (1 : Int32)), (.ref a)]))) (fun _ k => XS.iloadN X0.here hx rfl (hb hby own_d_method_3_code_28) rfl k) ?_
      refine OGoal.mp (S' := (s₁.setTop (mkF m 30 #[.val (.ref a), .val (.int n), .val (.int (1 : Int32)), .val (.int r), .val (.double (own_D km)), .second] [(.double (own_D (kf 1)))]))) (fun _ k => oLdD X0 hx hZ e0 A (by decide) (oLt hc1) (hf _ (own_il (by decide) hc1)) (g := mkF m 29 #[.val (.ref a), .val (.int n), .val (.int (1 : Int32)), .val (.int r), .val (.double (own_D km)), .second] [(.int (1 : Int32)), (.ref a)]) rfl rfl (hb hby own_d_method_3_code_29) k) ?_
      refine OGoal.mp (S' := (s₁.setTop (mkF m 32 #[.val (.ref a), .val (.int n), .val (.int (1 : Int32)), .val (.int r), .val (.double (own_D km)), .second] [(.double (own_D km)), (.double (own_D (kf 1)))]))) (fun _ k => XS.dload X0.here hx rfl (hb hby own_d_method_3_code_30) rfl k) ?_
      refine OGoal.mp (S' := (s₁.setTop (mkF m 33 #[.val (.ref a), .val (.int n), .val (.int (1 : Int32)), .val (.int r), .val (.double (own_D km)), .second] [(.int (cmpValue (FP.dcmp (own_D (kf 1)) (own_D km)) .g))]))) (fun _ k => XS.dcmpS (g := mkF m 32 #[.val (.ref a), .val (.int n), .val (.int (1 : Int32)), .val (.int r), .val (.double (own_D km)), .second] [(.double (own_D km)), (.double (own_D (kf 1)))]) (o := .g) (x := (own_D (kf 1))) (y := (own_D km)) (v := (cmpValue (FP.dcmp (own_D (kf 1)) (own_D km)) .g)) (rest := []) X0.here hx rfl (hb hby own_d_method_3_code_32) rfl rfl k) ?_
      refine OGoal.mp (S' := (s₁.setTop (mkF m 36 #[.val (.ref a), .val (.int n), .val (.int (1 : Int32)), .val (.int r), .val (.double (own_D km)), .second] []))) (fun _ k => XS.ifNo X0.here hx rfl (hb hby own_d_method_3_code_33) rfl (XT.i0_gt_f (fun z => absurd ((own_gt _ _ (hr _) hm .g).mp z) (Int.not_lt.mpr (c2 hc1 hc2)))) k) ?_
      refine OGoal.mp (S' := (s₁.setTop (mkF m 37 #[.val (.ref a), .val (.int n), .val (.int (1 : Int32)), .val (.int r), .val (.double (own_D km)), .second] [(.int (1 : Int32))]))) (fun _ k => XS.iconst X0.here hx rfl (hb hby own_d_method_3_code_36) k) ?_
      refine OGoal.mp (S' := (s₁.setTop (mkF m 41 #[.val (.ref a), .val (.int n), .val (.int (1 : Int32)), .val (.int r), .val (.double (own_D km)), .second] [(.int (1 : Int32))]))) (fun _ k => XS.goto X0.here hx rfl (pc0 := 37) (pc' := 41) rfl (hb hby own_d_method_3_code_37) (by decide) (by decide) k) ?_
      refine oRetZ X0 hx hlk hret (Or.inr rfl) (hb hby own_d_method_3_code_41) ?_ (by decide) (by decide)
      exact ⟨rfl, (Fr.nil n0), e0⟩
  · refine OGoal.mp (S' := (s₁.setTop (mkF m 5 #[.val (.ref a), .val (.int n), .val (.int (1 : Int32)), .val (.int r), .val (.double (own_D km)), .second] []))) (fun _ k => XS.icmpNo X0.here hx rfl (hb hby own_d_method_3_code_2) rfl (XT.ii_lt_f hc1) k) ?_
    refine OGoal.mp (S' := (s₁.setTop (mkF m 6 #[.val (.ref a), .val (.int n), .val (.int (1 : Int32)), .val (.int r), .val (.double (own_D km)), .second] [(.int (1 : Int32))]))) (fun _ k => XS.iconst X0.here hx rfl (hb hby own_d_method_3_code_5) k) ?_
    refine oRetZ X0 hx hlk hret (Or.inr rfl) (hb hby own_d_method_3_code_6) ?_ (by decide) (by decide)
    exact ⟨rfl, (Fr.nil n0), e0⟩
theorem own_ef_rmK2 (x0 : Addr) (x1 : Int32) (x2 : Int32) (x3 : Int32) (x4 : UInt64) (m : MethodId) : entryFrame m #[(.ref x0), (.int x1), (.int x2), (.int x3), (.double x4)] 6 = mkF m 0 #[.val (.ref x0), .val (.int x1), .val (.int x2), .val (.int x3), .val (.double x4), .second] [] := by first | (simp [entryFrame, mkF, argsToLocals, Value.category]; done) | rfl
set_option maxRecDepth 65536 in
set_option maxHeartbeats 40000000 in
theorem rmK2 (l : Launch) (Z : State) (a0 : Array Value) (hw : ∀ d ∈ tables_1, d.before a0 Z = true) (a : Addr) (n r : Int32) (km : Int32) (h0 : Heap) (n0 : Nat) (Z0 : n0 ≤ h0.size) (f : Nat → Value) (kf : Nat → Int32) (A : OArr Z h0 a .double n f) (hf : ∀ i, i < n.toNatClampNeg → f i = .double (own_D (kf i))) (hr : ∀ i, 0 ≤ (kf i).toInt ∧ (kf i).toInt < 16) (hm : 0 ≤ km.toInt ∧ km.toInt < 16) (c1 : (2 : Int32) < n → (2 : Int32) < r → (kf 2).toInt < km.toInt) (c2 : (2 : Int32) < n → ¬ (2 : Int32) < r → (kf 2).toInt ≤ km.toInt) :
    OCon l Z (⟨"com/example/andesite/andesite/model/LossesPredictedPinLaw", "ok", "([DIIID)Z"⟩ : MethodName) method_3_code 6 (some .boolean) ({ frames := 0, cells := 0, slots := 0, locals := 0 } : Room) #[(.ref a), (.int n), (.int (2 : Int32)), (.int r), (.double (own_D km))] h0 (fun v h L => v = some (.int (1 : Int32)) ∧ Fr n0 L ∧ h = h0) := by
  refine OConK.intro (y := (⟨"com/example/andesite/andesite/model/LossesPredictedPinLaw", "ok", "([DIIID)Z"⟩ : MethodName)) (plainFor_of_name own_pn_com_example_andesite_andesite_model_LossesPredictedPinLaw) (own_ef_rmK2 a n (2 : Int32) r (own_D km)) ?_
  intro p e s m below meth c s₁ hx hby hml hown hnm hret hlk hZ X0 e0
  show OGoal p e below s _ _ _ (s₁.setTop (mkF m 0 #[.val (.ref a), .val (.int n), .val (.int (2 : Int32)), .val (.int r), .val (.double (own_D km)), .second] []))
  refine OGoal.mp (S' := (s₁.setTop (mkF m 1 #[.val (.ref a), .val (.int n), .val (.int (2 : Int32)), .val (.int r), .val (.double (own_D km)), .second] [(.int (2 : Int32))]))) (fun _ k => XS.iloadN X0.here hx rfl (hb hby own_d_method_3_code_0) rfl k) ?_
  refine OGoal.mp (S' := (s₁.setTop (mkF m 2 #[.val (.ref a), .val (.int n), .val (.int (2 : Int32)), .val (.int r), .val (.double (own_D km)), .second] [(.int n), (.int (2 : Int32))]))) (fun _ k => XS.iloadN X0.here hx rfl (hb hby own_d_method_3_code_1) rfl k) ?_
  by_cases hc1 : (2 : Int32) < n
  · refine OGoal.mp (S' := (s₁.setTop (mkF m 7 #[.val (.ref a), .val (.int n), .val (.int (2 : Int32)), .val (.int r), .val (.double (own_D km)), .second] []))) (fun _ k => XS.icmpYes X0.here hx rfl (pc0 := 2) (pc' := 7) rfl (hb hby own_d_method_3_code_2) rfl (XT.ii_lt_t hc1) (by decide) (by decide) k) ?_
    refine OGoal.mp (S' := (s₁.setTop (mkF m 8 #[.val (.ref a), .val (.int n), .val (.int (2 : Int32)), .val (.int r), .val (.double (own_D km)), .second] [(.int (2 : Int32))]))) (fun _ k => XS.iloadN X0.here hx rfl (hb hby own_d_method_3_code_7) rfl k) ?_
    refine OGoal.mp (S' := (s₁.setTop (mkF m 9 #[.val (.ref a), .val (.int n), .val (.int (2 : Int32)), .val (.int r), .val (.double (own_D km)), .second] [(.int r), (.int (2 : Int32))]))) (fun _ k => XS.iloadN X0.here hx rfl (hb hby own_d_method_3_code_8) rfl k) ?_
    by_cases hc2 : (2 : Int32) < r
    · refine OGoal.mp (S' := (s₁.setTop (mkF m 12 #[.val (.ref a), .val (.int n), .val (.int (2 : Int32)), .val (.int r), .val (.double (own_D km)), .second] []))) (fun _ k => XS.icmpNo X0.here hx rfl (hb hby own_d_method_3_code_9) rfl (XT.ii_ge_f hc2) k) ?_
      refine OGoal.mp (S' := (s₁.setTop (mkF m 13 #[.val (.ref a), .val (.int n), .val (.int (2 : Int32)), .val (.int r), .val (.double (own_D km)), .second] [(.ref a)]))) (fun _ k => XS.aloadN X0.here hx rfl (hb hby own_d_method_3_code_12) rfl rfl k) ?_
      refine OGoal.mp (S' := (s₁.setTop (mkF m 14 #[.val (.ref a), .val (.int n), .val (.int (2 : Int32)), .val (.int r), .val (.double (own_D km)), .second] [(.int (2 : Int32)), (.ref a)]))) (fun _ k => XS.iloadN X0.here hx rfl (hb hby own_d_method_3_code_13) rfl k) ?_
      refine OGoal.mp (S' := (s₁.setTop (mkF m 15 #[.val (.ref a), .val (.int n), .val (.int (2 : Int32)), .val (.int r), .val (.double (own_D km)), .second] [(.double (own_D (kf 2)))]))) (fun _ k => oLdD X0 hx hZ e0 A (by decide) (oLt hc1) (hf _ (own_il (by decide) hc1)) (g := mkF m 14 #[.val (.ref a), .val (.int n), .val (.int (2 : Int32)), .val (.int r), .val (.double (own_D km)), .second] [(.int (2 : Int32)), (.ref a)]) rfl rfl (hb hby own_d_method_3_code_14) k) ?_
      refine OGoal.mp (S' := (s₁.setTop (mkF m 17 #[.val (.ref a), .val (.int n), .val (.int (2 : Int32)), .val (.int r), .val (.double (own_D km)), .second] [(.double (own_D km)), (.double (own_D (kf 2)))]))) (fun _ k => XS.dload X0.here hx rfl (hb hby own_d_method_3_code_15) rfl k) ?_
      refine OGoal.mp (S' := (s₁.setTop (mkF m 18 #[.val (.ref a), .val (.int n), .val (.int (2 : Int32)), .val (.int r), .val (.double (own_D km)), .second] [(.int (cmpValue (FP.dcmp (own_D (kf 2)) (own_D km)) .g))]))) (fun _ k => XS.dcmpS (g := mkF m 17 #[.val (.ref a), .val (.int n), .val (.int (2 : Int32)), .val (.int r), .val (.double (own_D km)), .second] [(.double (own_D km)), (.double (own_D (kf 2)))]) (o := .g) (x := (own_D (kf 2))) (y := (own_D km)) (v := (cmpValue (FP.dcmp (own_D (kf 2)) (own_D km)) .g)) (rest := []) X0.here hx rfl (hb hby own_d_method_3_code_17) rfl rfl k) ?_
      refine OGoal.mp (S' := (s₁.setTop (mkF m 21 #[.val (.ref a), .val (.int n), .val (.int (2 : Int32)), .val (.int r), .val (.double (own_D km)), .second] []))) (fun _ k => XS.ifNo X0.here hx rfl (hb hby own_d_method_3_code_18) rfl (XT.i0_ge_f ((own_lt _ _ (hr _) hm .g).mpr (c1 hc1 hc2))) k) ?_
      refine OGoal.mp (S' := (s₁.setTop (mkF m 22 #[.val (.ref a), .val (.int n), .val (.int (2 : Int32)), .val (.int r), .val (.double (own_D km)), .second] [(.int (1 : Int32))]))) (fun _ k => XS.iconst X0.here hx rfl (hb hby own_d_method_3_code_21) k) ?_
      refine OGoal.mp (S' := (s₁.setTop (mkF m 26 #[.val (.ref a), .val (.int n), .val (.int (2 : Int32)), .val (.int r), .val (.double (own_D km)), .second] [(.int (1 : Int32))]))) (fun _ k => XS.goto X0.here hx rfl (pc0 := 22) (pc' := 26) rfl (hb hby own_d_method_3_code_22) (by decide) (by decide) k) ?_
      refine oRetZ X0 hx hlk hret (Or.inr rfl) (hb hby own_d_method_3_code_26) ?_ (by decide) (by decide)
      exact ⟨rfl, (Fr.nil n0), e0⟩
    · refine OGoal.mp (S' := (s₁.setTop (mkF m 27 #[.val (.ref a), .val (.int n), .val (.int (2 : Int32)), .val (.int r), .val (.double (own_D km)), .second] []))) (fun _ k => XS.icmpYes X0.here hx rfl (pc0 := 9) (pc' := 27) rfl (hb hby own_d_method_3_code_9) rfl (XT.ii_ge_t hc2) (by decide) (by decide) k) ?_
      refine OGoal.mp (S' := (s₁.setTop (mkF m 28 #[.val (.ref a), .val (.int n), .val (.int (2 : Int32)), .val (.int r), .val (.double (own_D km)), .second] [(.ref a)]))) (fun _ k => XS.aloadN X0.here hx rfl (hb hby own_d_method_3_code_27) rfl rfl k) ?_
      refine OGoal.mp (S' := (s₁.setTop (mkF m 29 #[.val (.ref a), .val (.int n), .val (.int (2 : Int32)), .val (.int r), .val (.double (own_D km)), .second] [(.int (2 : Int32)), (.ref a)]))) (fun _ k => XS.iloadN X0.here hx rfl (hb hby own_d_method_3_code_28) rfl k) ?_
      refine OGoal.mp (S' := (s₁.setTop (mkF m 30 #[.val (.ref a), .val (.int n), .val (.int (2 : Int32)), .val (.int r), .val (.double (own_D km)), .second] [(.double (own_D (kf 2)))]))) (fun _ k => oLdD X0 hx hZ e0 A (by decide) (oLt hc1) (hf _ (own_il (by decide) hc1)) (g := mkF m 29 #[.val (.ref a), .val (.int n), .val (.int (2 : Int32)), .val (.int r), .val (.double (own_D km)), .second] [(.int (2 : Int32)), (.ref a)]) rfl rfl (hb hby own_d_method_3_code_29) k) ?_
      refine OGoal.mp (S' := (s₁.setTop (mkF m 32 #[.val (.ref a), .val (.int n), .val (.int (2 : Int32)), .val (.int r), .val (.double (own_D km)), .second] [(.double (own_D km)), (.double (own_D (kf 2)))]))) (fun _ k => XS.dload X0.here hx rfl (hb hby own_d_method_3_code_30) rfl k) ?_
      refine OGoal.mp (S' := (s₁.setTop (mkF m 33 #[.val (.ref a), .val (.int n), .val (.int (2 : Int32)), .val (.int r), .val (.double (own_D km)), .second] [(.int (cmpValue (FP.dcmp (own_D (kf 2)) (own_D km)) .g))]))) (fun _ k => XS.dcmpS (g := mkF m 32 #[.val (.ref a), .val (.int n), .val (.int (2 : Int32)), .val (.int r), .val (.double (own_D km)), .second] [(.double (own_D km)), (.double (own_D (kf 2)))]) (o := .g) (x := (own_D (kf 2))) (y := (own_D km)) (v := (cmpValue (FP.dcmp (own_D (kf 2)) (own_D km)) .g)) (rest := []) X0.here hx rfl (hb hby own_d_method_3_code_32) rfl rfl k) ?_
      refine OGoal.mp (S' := (s₁.setTop (mkF m 36 #[.val (.ref a), .val (.int n), .val (.int (2 : Int32)), .val (.int r), .val (.double (own_D km)), .second] []))) (fun _ k => XS.ifNo X0.here hx rfl (hb hby own_d_method_3_code_33) rfl (XT.i0_gt_f (fun z => absurd ((own_gt _ _ (hr _) hm .g).mp z) (Int.not_lt.mpr (c2 hc1 hc2)))) k) ?_
      refine OGoal.mp (S' := (s₁.setTop (mkF m 37 #[.val (.ref a), .val (.int n), .val (.int (2 : Int32)), .val (.int r), .val (.double (own_D km)), .second] [(.int (1 : Int32))]))) (fun _ k => XS.iconst X0.here hx rfl (hb hby own_d_method_3_code_36) k) ?_
      refine OGoal.mp (S' := (s₁.setTop (mkF m 41 #[.val (.ref a), .val (.int n), .val (.int (2 : Int32)), .val (.int r), .val (.double (own_D km)), .second] [(.int (1 : Int32))]))) (fun _ k => XS.goto X0.here hx rfl (pc0 := 37) (pc' := 41) rfl (hb hby own_d_method_3_code_37) (by decide) (by decide) k) ?_
      refine oRetZ X0 hx hlk hret (Or.inr rfl) (hb hby own_d_method_3_code_41) ?_ (by decide) (by decide)
      exact ⟨rfl, (Fr.nil n0), e0⟩
  · refine OGoal.mp (S' := (s₁.setTop (mkF m 5 #[.val (.ref a), .val (.int n), .val (.int (2 : Int32)), .val (.int r), .val (.double (own_D km)), .second] []))) (fun _ k => XS.icmpNo X0.here hx rfl (hb hby own_d_method_3_code_2) rfl (XT.ii_lt_f hc1) k) ?_
    refine OGoal.mp (S' := (s₁.setTop (mkF m 6 #[.val (.ref a), .val (.int n), .val (.int (2 : Int32)), .val (.int r), .val (.double (own_D km)), .second] [(.int (1 : Int32))]))) (fun _ k => XS.iconst X0.here hx rfl (hb hby own_d_method_3_code_5) k) ?_
    refine oRetZ X0 hx hlk hret (Or.inr rfl) (hb hby own_d_method_3_code_6) ?_ (by decide) (by decide)
    exact ⟨rfl, (Fr.nil n0), e0⟩
theorem own_ef_rmK3 (x0 : Addr) (x1 : Int32) (x2 : Int32) (x3 : Int32) (x4 : UInt64) (m : MethodId) : entryFrame m #[(.ref x0), (.int x1), (.int x2), (.int x3), (.double x4)] 6 = mkF m 0 #[.val (.ref x0), .val (.int x1), .val (.int x2), .val (.int x3), .val (.double x4), .second] [] := by first | (simp [entryFrame, mkF, argsToLocals, Value.category]; done) | rfl
set_option maxRecDepth 65536 in
set_option maxHeartbeats 40000000 in
theorem rmK3 (l : Launch) (Z : State) (a0 : Array Value) (hw : ∀ d ∈ tables_1, d.before a0 Z = true) (a : Addr) (n r : Int32) (km : Int32) (h0 : Heap) (n0 : Nat) (Z0 : n0 ≤ h0.size) (f : Nat → Value) (kf : Nat → Int32) (A : OArr Z h0 a .double n f) (hf : ∀ i, i < n.toNatClampNeg → f i = .double (own_D (kf i))) (hr : ∀ i, 0 ≤ (kf i).toInt ∧ (kf i).toInt < 16) (hm : 0 ≤ km.toInt ∧ km.toInt < 16) (c1 : (3 : Int32) < n → (3 : Int32) < r → (kf 3).toInt < km.toInt) (c2 : (3 : Int32) < n → ¬ (3 : Int32) < r → (kf 3).toInt ≤ km.toInt) :
    OCon l Z (⟨"com/example/andesite/andesite/model/LossesPredictedPinLaw", "ok", "([DIIID)Z"⟩ : MethodName) method_3_code 6 (some .boolean) ({ frames := 0, cells := 0, slots := 0, locals := 0 } : Room) #[(.ref a), (.int n), (.int (3 : Int32)), (.int r), (.double (own_D km))] h0 (fun v h L => v = some (.int (1 : Int32)) ∧ Fr n0 L ∧ h = h0) := by
  refine OConK.intro (y := (⟨"com/example/andesite/andesite/model/LossesPredictedPinLaw", "ok", "([DIIID)Z"⟩ : MethodName)) (plainFor_of_name own_pn_com_example_andesite_andesite_model_LossesPredictedPinLaw) (own_ef_rmK3 a n (3 : Int32) r (own_D km)) ?_
  intro p e s m below meth c s₁ hx hby hml hown hnm hret hlk hZ X0 e0
  show OGoal p e below s _ _ _ (s₁.setTop (mkF m 0 #[.val (.ref a), .val (.int n), .val (.int (3 : Int32)), .val (.int r), .val (.double (own_D km)), .second] []))
  refine OGoal.mp (S' := (s₁.setTop (mkF m 1 #[.val (.ref a), .val (.int n), .val (.int (3 : Int32)), .val (.int r), .val (.double (own_D km)), .second] [(.int (3 : Int32))]))) (fun _ k => XS.iloadN X0.here hx rfl (hb hby own_d_method_3_code_0) rfl k) ?_
  refine OGoal.mp (S' := (s₁.setTop (mkF m 2 #[.val (.ref a), .val (.int n), .val (.int (3 : Int32)), .val (.int r), .val (.double (own_D km)), .second] [(.int n), (.int (3 : Int32))]))) (fun _ k => XS.iloadN X0.here hx rfl (hb hby own_d_method_3_code_1) rfl k) ?_
  by_cases hc1 : (3 : Int32) < n
  · refine OGoal.mp (S' := (s₁.setTop (mkF m 7 #[.val (.ref a), .val (.int n), .val (.int (3 : Int32)), .val (.int r), .val (.double (own_D km)), .second] []))) (fun _ k => XS.icmpYes X0.here hx rfl (pc0 := 2) (pc' := 7) rfl (hb hby own_d_method_3_code_2) rfl (XT.ii_lt_t hc1) (by decide) (by decide) k) ?_
    refine OGoal.mp (S' := (s₁.setTop (mkF m 8 #[.val (.ref a), .val (.int n), .val (.int (3 : Int32)), .val (.int r), .val (.double (own_D km)), .second] [(.int (3 : Int32))]))) (fun _ k => XS.iloadN X0.here hx rfl (hb hby own_d_method_3_code_7) rfl k) ?_
    refine OGoal.mp (S' := (s₁.setTop (mkF m 9 #[.val (.ref a), .val (.int n), .val (.int (3 : Int32)), .val (.int r), .val (.double (own_D km)), .second] [(.int r), (.int (3 : Int32))]))) (fun _ k => XS.iloadN X0.here hx rfl (hb hby own_d_method_3_code_8) rfl k) ?_
    by_cases hc2 : (3 : Int32) < r
    · refine OGoal.mp (S' := (s₁.setTop (mkF m 12 #[.val (.ref a), .val (.int n), .val (.int (3 : Int32)), .val (.int r), .val (.double (own_D km)), .second] []))) (fun _ k => XS.icmpNo X0.here hx rfl (hb hby own_d_method_3_code_9) rfl (XT.ii_ge_f hc2) k) ?_
      refine OGoal.mp (S' := (s₁.setTop (mkF m 13 #[.val (.ref a), .val (.int n), .val (.int (3 : Int32)), .val (.int r), .val (.double (own_D km)), .second] [(.ref a)]))) (fun _ k => XS.aloadN X0.here hx rfl (hb hby own_d_method_3_code_12) rfl rfl k) ?_
      refine OGoal.mp (S' := (s₁.setTop (mkF m 14 #[.val (.ref a), .val (.int n), .val (.int (3 : Int32)), .val (.int r), .val (.double (own_D km)), .second] [(.int (3 : Int32)), (.ref a)]))) (fun _ k => XS.iloadN X0.here hx rfl (hb hby own_d_method_3_code_13) rfl k) ?_
      refine OGoal.mp (S' := (s₁.setTop (mkF m 15 #[.val (.ref a), .val (.int n), .val (.int (3 : Int32)), .val (.int r), .val (.double (own_D km)), .second] [(.double (own_D (kf 3)))]))) (fun _ k => oLdD X0 hx hZ e0 A (by decide) (oLt hc1) (hf _ (own_il (by decide) hc1)) (g := mkF m 14 #[.val (.ref a), .val (.int n), .val (.int (3 : Int32)), .val (.int r), .val (.double (own_D km)), .second] [(.int (3 : Int32)), (.ref a)]) rfl rfl (hb hby own_d_method_3_code_14) k) ?_
      refine OGoal.mp (S' := (s₁.setTop (mkF m 17 #[.val (.ref a), .val (.int n), .val (.int (3 : Int32)), .val (.int r), .val (.double (own_D km)), .second] [(.double (own_D km)), (.double (own_D (kf 3)))]))) (fun _ k => XS.dload X0.here hx rfl (hb hby own_d_method_3_code_15) rfl k) ?_
      refine OGoal.mp (S' := (s₁.setTop (mkF m 18 #[.val (.ref a), .val (.int n), .val (.int (3 : Int32)), .val (.int r), .val (.double (own_D km)), .second] [(.int (cmpValue (FP.dcmp (own_D (kf 3)) (own_D km)) .g))]))) (fun _ k => XS.dcmpS (g := mkF m 17 #[.val (.ref a), .val (.int n), .val (.int (3 : Int32)), .val (.int r), .val (.double (own_D km)), .second] [(.double (own_D km)), (.double (own_D (kf 3)))]) (o := .g) (x := (own_D (kf 3))) (y := (own_D km)) (v := (cmpValue (FP.dcmp (own_D (kf 3)) (own_D km)) .g)) (rest := []) X0.here hx rfl (hb hby own_d_method_3_code_17) rfl rfl k) ?_
      refine OGoal.mp (S' := (s₁.setTop (mkF m 21 #[.val (.ref a), .val (.int n), .val (.int (3 : Int32)), .val (.int r), .val (.double (own_D km)), .second] []))) (fun _ k => XS.ifNo X0.here hx rfl (hb hby own_d_method_3_code_18) rfl (XT.i0_ge_f ((own_lt _ _ (hr _) hm .g).mpr (c1 hc1 hc2))) k) ?_
      refine OGoal.mp (S' := (s₁.setTop (mkF m 22 #[.val (.ref a), .val (.int n), .val (.int (3 : Int32)), .val (.int r), .val (.double (own_D km)), .second] [(.int (1 : Int32))]))) (fun _ k => XS.iconst X0.here hx rfl (hb hby own_d_method_3_code_21) k) ?_
      refine OGoal.mp (S' := (s₁.setTop (mkF m 26 #[.val (.ref a), .val (.int n), .val (.int (3 : Int32)), .val (.int r), .val (.double (own_D km)), .second] [(.int (1 : Int32))]))) (fun _ k => XS.goto X0.here hx rfl (pc0 := 22) (pc' := 26) rfl (hb hby own_d_method_3_code_22) (by decide) (by decide) k) ?_
      refine oRetZ X0 hx hlk hret (Or.inr rfl) (hb hby own_d_method_3_code_26) ?_ (by decide) (by decide)
      exact ⟨rfl, (Fr.nil n0), e0⟩
    · refine OGoal.mp (S' := (s₁.setTop (mkF m 27 #[.val (.ref a), .val (.int n), .val (.int (3 : Int32)), .val (.int r), .val (.double (own_D km)), .second] []))) (fun _ k => XS.icmpYes X0.here hx rfl (pc0 := 9) (pc' := 27) rfl (hb hby own_d_method_3_code_9) rfl (XT.ii_ge_t hc2) (by decide) (by decide) k) ?_
      refine OGoal.mp (S' := (s₁.setTop (mkF m 28 #[.val (.ref a), .val (.int n), .val (.int (3 : Int32)), .val (.int r), .val (.double (own_D km)), .second] [(.ref a)]))) (fun _ k => XS.aloadN X0.here hx rfl (hb hby own_d_method_3_code_27) rfl rfl k) ?_
      refine OGoal.mp (S' := (s₁.setTop (mkF m 29 #[.val (.ref a), .val (.int n), .val (.int (3 : Int32)), .val (.int r), .val (.double (own_D km)), .second] [(.int (3 : Int32)), (.ref a)]))) (fun _ k => XS.iloadN X0.here hx rfl (hb hby own_d_method_3_code_28) rfl k) ?_
      refine OGoal.mp (S' := (s₁.setTop (mkF m 30 #[.val (.ref a), .val (.int n), .val (.int (3 : Int32)), .val (.int r), .val (.double (own_D km)), .second] [(.double (own_D (kf 3)))]))) (fun _ k => oLdD X0 hx hZ e0 A (by decide) (oLt hc1) (hf _ (own_il (by decide) hc1)) (g := mkF m 29 #[.val (.ref a), .val (.int n), .val (.int (3 : Int32)), .val (.int r), .val (.double (own_D km)), .second] [(.int (3 : Int32)), (.ref a)]) rfl rfl (hb hby own_d_method_3_code_29) k) ?_
      refine OGoal.mp (S' := (s₁.setTop (mkF m 32 #[.val (.ref a), .val (.int n), .val (.int (3 : Int32)), .val (.int r), .val (.double (own_D km)), .second] [(.double (own_D km)), (.double (own_D (kf 3)))]))) (fun _ k => XS.dload X0.here hx rfl (hb hby own_d_method_3_code_30) rfl k) ?_
      refine OGoal.mp (S' := (s₁.setTop (mkF m 33 #[.val (.ref a), .val (.int n), .val (.int (3 : Int32)), .val (.int r), .val (.double (own_D km)), .second] [(.int (cmpValue (FP.dcmp (own_D (kf 3)) (own_D km)) .g))]))) (fun _ k => XS.dcmpS (g := mkF m 32 #[.val (.ref a), .val (.int n), .val (.int (3 : Int32)), .val (.int r), .val (.double (own_D km)), .second] [(.double (own_D km)), (.double (own_D (kf 3)))]) (o := .g) (x := (own_D (kf 3))) (y := (own_D km)) (v := (cmpValue (FP.dcmp (own_D (kf 3)) (own_D km)) .g)) (rest := []) X0.here hx rfl (hb hby own_d_method_3_code_32) rfl rfl k) ?_
      refine OGoal.mp (S' := (s₁.setTop (mkF m 36 #[.val (.ref a), .val (.int n), .val (.int (3 : Int32)), .val (.int r), .val (.double (own_D km)), .second] []))) (fun _ k => XS.ifNo X0.here hx rfl (hb hby own_d_method_3_code_33) rfl (XT.i0_gt_f (fun z => absurd ((own_gt _ _ (hr _) hm .g).mp z) (Int.not_lt.mpr (c2 hc1 hc2)))) k) ?_
      refine OGoal.mp (S' := (s₁.setTop (mkF m 37 #[.val (.ref a), .val (.int n), .val (.int (3 : Int32)), .val (.int r), .val (.double (own_D km)), .second] [(.int (1 : Int32))]))) (fun _ k => XS.iconst X0.here hx rfl (hb hby own_d_method_3_code_36) k) ?_
      refine OGoal.mp (S' := (s₁.setTop (mkF m 41 #[.val (.ref a), .val (.int n), .val (.int (3 : Int32)), .val (.int r), .val (.double (own_D km)), .second] [(.int (1 : Int32))]))) (fun _ k => XS.goto X0.here hx rfl (pc0 := 37) (pc' := 41) rfl (hb hby own_d_method_3_code_37) (by decide) (by decide) k) ?_
      refine oRetZ X0 hx hlk hret (Or.inr rfl) (hb hby own_d_method_3_code_41) ?_ (by decide) (by decide)
      exact ⟨rfl, (Fr.nil n0), e0⟩
  · refine OGoal.mp (S' := (s₁.setTop (mkF m 5 #[.val (.ref a), .val (.int n), .val (.int (3 : Int32)), .val (.int r), .val (.double (own_D km)), .second] []))) (fun _ k => XS.icmpNo X0.here hx rfl (hb hby own_d_method_3_code_2) rfl (XT.ii_lt_f hc1) k) ?_
    refine OGoal.mp (S' := (s₁.setTop (mkF m 6 #[.val (.ref a), .val (.int n), .val (.int (3 : Int32)), .val (.int r), .val (.double (own_D km)), .second] [(.int (1 : Int32))]))) (fun _ k => XS.iconst X0.here hx rfl (hb hby own_d_method_3_code_5) k) ?_
    refine oRetZ X0 hx hlk hret (Or.inr rfl) (hb hby own_d_method_3_code_6) ?_ (by decide) (by decide)
    exact ⟨rfl, (Fr.nil n0), e0⟩
theorem own_pd__I_D : parseMethodDescriptor "(I)D" = some ⟨[.int], some .double⟩ := by decide +kernel
theorem own_pd___D_I : parseMethodDescriptor "([D)I" = some ⟨[(.array .double)], some .int⟩ := by decide +kernel
theorem own_pd___DIIID_Z : parseMethodDescriptor "([DIIID)Z" = some ⟨[(.array .double), .int, .int, .int, .double], some .boolean⟩ := by decide +kernel
theorem own_ef_rm0 (x0 : Int32) (x1 : Int32) (x2 : Int32) (x3 : Int32) (x4 : Int32) (m : MethodId) : entryFrame m #[(.int x0), (.int x1), (.int x2), (.int x3), (.int x4)] maxLocals = mkF m 0 #[.val (.int x0), .val (.int x1), .val (.int x2), .val (.int x3), .val (.int x4), .unset, .unset, .unset, .unset, .unset] [] := by first | (simp [entryFrame, mkF, argsToLocals, Value.category, maxLocals]; done) | rfl
set_option maxRecDepth 65536 in
set_option maxHeartbeats 40000000 in
theorem rm0 (l : Launch) (Z : State) (a0 : Array Value) (hw : ∀ d ∈ tables_1, d.before a0 Z = true) (p1 p2 p3 p4 p5 : Int32) (h0 : Heap) (n0 : Nat) (Z0 : n0 ≤ h0.size)  :
    OConK l Z x code maxLocals ret room_1 16 128 #[(.int p1), (.int p2), (.int p3), (.int p4), (.int p5)] h0 (fun v h L => v = some (.int 1) ∧ Fr n0 L) := by
  refine OConK.intro (y := x) (plainFor_of_name own_pn_com_example_andesite_andesite_model_LossesPredictedPinLaw) (own_ef_rm0 p1 p2 p3 p4 p5) ?_
  intro p e s m below meth c s₁ hx hby hml hown hnm hret hlk hZ X0 e0
  have := rng32 p5
  have l1 : (0 : Int32).toInt = 0 := by decide
  have l2 : (1 : Int32).toInt = 1 := by decide
  have l3 : (2 : Int32).toInt = 2 := by decide
  have l4 : (3 : Int32).toInt = 3 := by decide
  show OGoal p e below s _ _ _ (s₁.setTop (mkF m 0 #[.val (.int p1), .val (.int p2), .val (.int p3), .val (.int p4), .val (.int p5), .unset, .unset, .unset, .unset, .unset] []))
  refine OGoal.mp (S' := (s₁.setTop (mkF m 1 #[.val (.int p1), .val (.int p2), .val (.int p3), .val (.int p4), .val (.int p5), .unset, .unset, .unset, .unset, .unset] [(.int (1 : Int32))]))) (fun _ k => XS.iconst X0.here hx rfl (hb hby at_0) k) ?_
  refine OGoal.mp (S' := (s₁.setTop (mkF m 3 #[.val (.int p1), .val (.int p2), .val (.int p3), .val (.int p4), .val (.int p5), .unset, .unset, .unset, .unset, .unset] [(.int p5), (.int (1 : Int32))]))) (fun _ k => XS.iload X0.here hx rfl (hb hby at_1) rfl k) ?_
  refine OGoal.mp (S' := (s₁.setTop (mkF m 4 #[.val (.int p1), .val (.int p2), .val (.int p3), .val (.int p4), .val (.int p5), .unset, .unset, .unset, .unset, .unset] [(.int (3 : Int32)), (.int p5), (.int (1 : Int32))]))) (fun _ k => XS.iconst X0.here hx rfl (hb hby at_3) k) ?_
  refine OGoal.mp (S' := (s₁.setTop (mkF m 5 #[.val (.int p1), .val (.int p2), .val (.int p3), .val (.int p4), .val (.int p5), .unset, .unset, .unset, .unset, .unset] [(.int (p5 &&& (3 : Int32))), (.int (1 : Int32))]))) (fun _ k => XS.iand X0.here hx rfl (hb hby at_4) rfl k) ?_
  obtain ⟨u5, hu5⟩ : ∃ z : Int32, z = (p5 &&& (3 : Int32)) := ⟨_, rfl⟩
  rw [← hu5]
  have t6 : u5.toInt = (p5).toInt % 4 := by rw [hu5]; exact c_mask p5 (3 : Int32) 2 (by decide) (by decide)
  have r7 := rng32 u5
  refine OGoal.mp (S' := (s₁.setTop (mkF m 6 #[.val (.int p1), .val (.int p2), .val (.int p3), .val (.int p4), .val (.int p5), .unset, .unset, .unset, .unset, .unset] [(.int ((1 : Int32) + u5))]))) (fun _ k => XS.iadd X0.here hx rfl (hb hby at_5) rfl k) ?_
  obtain ⟨u8, hu8⟩ : ∃ z : Int32, z = ((1 : Int32) + u5) := ⟨_, rfl⟩
  rw [← hu8]
  have t9 : (u8.toInt - (((1 : Int32)).toInt + (u5).toInt)) % 4294967296 = 0 := by rw [hu8]; exact c_iadd (1 : Int32) u5
  have r10 := rng32 u8
  refine OGoal.mp (S' := (s₁.setTop (mkF m 8 #[.val (.int p1), .val (.int p2), .val (.int p3), .val (.int p4), .val (.int p5), .val (.int u8), .unset, .unset, .unset, .unset] []))) (fun _ k => XS.istore X0.here hx rfl (hb hby at_6) rfl (l' := #[.val (.int p1), .val (.int p2), .val (.int p3), .val (.int p4), .val (.int p5), .val (.int u8), .unset, .unset, .unset, .unset]) rfl k) ?_
  refine OGoal.mp (S' := (s₁.setTop (mkF m 10 #[.val (.int p1), .val (.int p2), .val (.int p3), .val (.int p4), .val (.int p5), .val (.int u8), .unset, .unset, .unset, .unset] [(.int u8)]))) (fun _ k => XS.iload X0.here hx rfl (hb hby at_8) rfl k) ?_
  obtain ⟨T11, h15, c18, X12, e13, E16, A17, XA21, st14⟩ := newPE X0 hx hZ (hw _ (List.mem_of_getElem? (i := 0) rfl)) e0 (g := mkF m 10 #[.val (.int p1), .val (.int p2), .val (.int p3), .val (.int p4), .val (.int p5), .val (.int u8), .unset, .unset, .unset, .unset] [(.int u8)]) rfl (hb hby at_10) rfl (mNlt (by omega)) (cap := 4) (by show (u8).toInt.toNat ≤ _; omega) (by decide) (by decide) (by decide) (ad := "[D") (by rfl)
  obtain ⟨a19, g20⟩ : ∃ z, z = h0.size := ⟨_, rfl⟩
  rw [← g20] at A17 XA21 st14
  have F22 : OArr Z h15 a19 .double u8 (fun _ => .double 0 : Nat → Value) := OArr.new A17 (mNlt (by omega))
  have Z23 : n0 ≤ h15.size := Nat.le_trans Z0 E16.1
  have ab24 : n0 ≤ a19 := Nat.le_trans Z0 (Nat.le_of_eq g20.symm)
  refine OGoal.mp (S' := (T11.setTop (mkF m 12 #[.val (.int p1), .val (.int p2), .val (.int p3), .val (.int p4), .val (.int p5), .val (.int u8), .unset, .unset, .unset, .unset] [(.ref a19)]))) (fun _ k => st14 _ k) ?_
  refine OGoal.mp (S' := (T11.setTop (mkF m 14 #[.val (.int p1), .val (.int p2), .val (.int p3), .val (.int p4), .val (.int p5), .val (.int u8), .val (.ref a19), .unset, .unset, .unset] []))) (fun _ k => XS.astore X12.here hx rfl (hb hby at_12) rfl rfl (l' := #[.val (.int p1), .val (.int p2), .val (.int p3), .val (.int p4), .val (.int p5), .val (.int u8), .val (.ref a19), .unset, .unset, .unset]) rfl k) ?_
  refine OGoal.mp (S' := (T11.setTop (mkF m 16 #[.val (.int p1), .val (.int p2), .val (.int p3), .val (.int p4), .val (.int p5), .val (.int u8), .val (.ref a19), .unset, .unset, .unset] [(.ref a19)]))) (fun _ k => XS.aload X12.here hx rfl (hb hby at_14) rfl rfl k) ?_
  refine OGoal.mp (S' := (T11.setTop (mkF m 17 #[.val (.int p1), .val (.int p2), .val (.int p3), .val (.int p4), .val (.int p5), .val (.int u8), .val (.ref a19), .unset, .unset, .unset] [(.int (0 : Int32)), (.ref a19)]))) (fun _ k => XS.iconst X12.here hx rfl (hb hby at_16) k) ?_
  refine OGoal.mp (S' := (T11.setTop (mkF m 18 #[.val (.int p1), .val (.int p2), .val (.int p3), .val (.int p4), .val (.int p5), .val (.int u8), .val (.ref a19), .unset, .unset, .unset] [(.int p1), (.int (0 : Int32)), (.ref a19)]))) (fun _ k => XS.iloadN X12.here hx rfl (hb hby at_17) rfl k) ?_
  refine oCallS (y := (⟨"com/example/andesite/andesite/model/LossesPredictedPinLaw", "value", "(I)D"⟩ : MethodName)) X12 hx hZ hown (hw _ (List.mem_of_getElem? (i := 1) rfl)) (hw _ (List.mem_of_getElem? (i := 2) rfl)) (hw _ (List.mem_of_getElem? (i := 3) rfl)) (hw _ (List.mem_of_getElem? (i := 4) rfl)) (by decide) (rmV l Z a0 hw p1 h15 n0 Z23) e13 [(.int p1)] [(.int (0 : Int32)), (.ref a19)] rfl rfl (by rw [hml]; rfl) (lenOf own_pd__I_D rfl) 2 (Nat.le_of_eq rfl) (by decide) (by decide) (by decide) (by decide) (hb hby at_18) ?_
  intro v25 T26 L27 X28 q29
  obtain ⟨rfl, N30, e31⟩ := q29
  have N32 := Fr.app (Fr.nil n0) N30
  show OGoal p e below s _ _ _ (T26.setTop (mkF m 21 #[.val (.int p1), .val (.int p2), .val (.int p3), .val (.int p4), .val (.int p5), .val (.int u8), .val (.ref a19), .unset, .unset, .unset] [(.double (own_D (p1 &&& (15 : Int32)))), (.int (0 : Int32)), (.ref a19)]))
  obtain ⟨T33, h37, X34, e35, W38, st36⟩ := oStD X28 hx hZ e31 F22 (by omega) (by omega) (g := mkF m 21 #[.val (.int p1), .val (.int p2), .val (.int p3), .val (.int p4), .val (.int p5), .val (.int u8), .val (.ref a19), .unset, .unset, .unset] [(.double (own_D (p1 &&& (15 : Int32)))), (.int (0 : Int32)), (.ref a19)]) rfl rfl (hb hby at_21)
  have N39 := Fr.snoc X34 N32 ab24
  have F40 : OArr Z h37 a19 .double u8 (fun i => if i = ((0 : Int32)).toNatClampNeg then (.double (own_D (p1 &&& (15 : Int32)))) else (fun _ => .double 0 : Nat → Value) i : Nat → Value) := F22.set W38
  have F41 := XA21.wr W38
  have Z42 : n0 ≤ h37.size := Nat.le_trans Z23 (Keep.of_wr W38).1
  refine OGoal.mp (S' := (T33.setTop (mkF m 22 #[.val (.int p1), .val (.int p2), .val (.int p3), .val (.int p4), .val (.int p5), .val (.int u8), .val (.ref a19), .unset, .unset, .unset] []))) (fun _ k => st36 _ k) ?_
  refine OGoal.mp (S' := (T33.setTop (mkF m 24 #[.val (.int p1), .val (.int p2), .val (.int p3), .val (.int p4), .val (.int p5), .val (.int u8), .val (.ref a19), .unset, .unset, .unset] [(.int u8)]))) (fun _ k => XS.iload X34.here hx rfl (hb hby at_22) rfl k) ?_
  refine OGoal.mp (S' := (T33.setTop (mkF m 25 #[.val (.int p1), .val (.int p2), .val (.int p3), .val (.int p4), .val (.int p5), .val (.int u8), .val (.ref a19), .unset, .unset, .unset] [(.int (1 : Int32)), (.int u8)]))) (fun _ k => XS.iconst X34.here hx rfl (hb hby at_24) k) ?_
  by_cases hc43 : (1 : Int32) < u8
  · have g44 := oLt hc43
    refine OGoal.mp (S' := (T33.setTop (mkF m 28 #[.val (.int p1), .val (.int p2), .val (.int p3), .val (.int p4), .val (.int p5), .val (.int u8), .val (.ref a19), .unset, .unset, .unset] []))) (fun _ k => XS.icmpNo X34.here hx rfl (hb hby at_25) rfl (XT.ii_le_f hc43) k) ?_
    refine OGoal.mp (S' := (T33.setTop (mkF m 30 #[.val (.int p1), .val (.int p2), .val (.int p3), .val (.int p4), .val (.int p5), .val (.int u8), .val (.ref a19), .unset, .unset, .unset] [(.ref a19)]))) (fun _ k => XS.aload X34.here hx rfl (hb hby at_28) rfl rfl k) ?_
    refine OGoal.mp (S' := (T33.setTop (mkF m 31 #[.val (.int p1), .val (.int p2), .val (.int p3), .val (.int p4), .val (.int p5), .val (.int u8), .val (.ref a19), .unset, .unset, .unset] [(.int (1 : Int32)), (.ref a19)]))) (fun _ k => XS.iconst X34.here hx rfl (hb hby at_30) k) ?_
    refine OGoal.mp (S' := (T33.setTop (mkF m 32 #[.val (.int p1), .val (.int p2), .val (.int p3), .val (.int p4), .val (.int p5), .val (.int u8), .val (.ref a19), .unset, .unset, .unset] [(.int p2), (.int (1 : Int32)), (.ref a19)]))) (fun _ k => XS.iloadN X34.here hx rfl (hb hby at_31) rfl k) ?_
    refine oCallS (y := (⟨"com/example/andesite/andesite/model/LossesPredictedPinLaw", "value", "(I)D"⟩ : MethodName)) X34 hx hZ hown (hw _ (List.mem_of_getElem? (i := 1) rfl)) (hw _ (List.mem_of_getElem? (i := 2) rfl)) (hw _ (List.mem_of_getElem? (i := 3) rfl)) (hw _ (List.mem_of_getElem? (i := 4) rfl)) (by decide) (rmV l Z a0 hw p2 h37 n0 Z42) e35 [(.int p2)] [(.int (1 : Int32)), (.ref a19)] rfl rfl (by rw [hml]; rfl) (lenOf own_pd__I_D rfl) 2 (Nat.le_of_eq rfl) (by decide) (by decide) (by decide) (by decide) (hb hby at_32) ?_
    intro v45 T46 L47 X48 q49
    obtain ⟨rfl, N50, e51⟩ := q49
    have N52 := Fr.app N39 N50
    show OGoal p e below s _ _ _ (T46.setTop (mkF m 35 #[.val (.int p1), .val (.int p2), .val (.int p3), .val (.int p4), .val (.int p5), .val (.int u8), .val (.ref a19), .unset, .unset, .unset] [(.double (own_D (p2 &&& (15 : Int32)))), (.int (1 : Int32)), (.ref a19)]))
    obtain ⟨T53, h57, X54, e55, W58, st56⟩ := oStD X48 hx hZ e51 F40 (by omega) (by omega) (g := mkF m 35 #[.val (.int p1), .val (.int p2), .val (.int p3), .val (.int p4), .val (.int p5), .val (.int u8), .val (.ref a19), .unset, .unset, .unset] [(.double (own_D (p2 &&& (15 : Int32)))), (.int (1 : Int32)), (.ref a19)]) rfl rfl (hb hby at_35)
    have N59 := Fr.snoc X54 N52 ab24
    have F60 : OArr Z h57 a19 .double u8 (fun i => if i = ((1 : Int32)).toNatClampNeg then (.double (own_D (p2 &&& (15 : Int32)))) else (fun i => if i = ((0 : Int32)).toNatClampNeg then (.double (own_D (p1 &&& (15 : Int32)))) else (fun _ => .double 0 : Nat → Value) i : Nat → Value) i : Nat → Value) := F40.set W58
    have F61 := F41.wr W58
    have Z62 : n0 ≤ h57.size := Nat.le_trans Z42 (Keep.of_wr W58).1
    refine OGoal.mp (S' := (T53.setTop (mkF m 36 #[.val (.int p1), .val (.int p2), .val (.int p3), .val (.int p4), .val (.int p5), .val (.int u8), .val (.ref a19), .unset, .unset, .unset] []))) (fun _ k => st56 _ k) ?_
    refine OGoal.mp (S' := (T53.setTop (mkF m 38 #[.val (.int p1), .val (.int p2), .val (.int p3), .val (.int p4), .val (.int p5), .val (.int u8), .val (.ref a19), .unset, .unset, .unset] [(.int u8)]))) (fun _ k => XS.iload X54.here hx rfl (hb hby at_36) rfl k) ?_
    refine OGoal.mp (S' := (T53.setTop (mkF m 39 #[.val (.int p1), .val (.int p2), .val (.int p3), .val (.int p4), .val (.int p5), .val (.int u8), .val (.ref a19), .unset, .unset, .unset] [(.int (2 : Int32)), (.int u8)]))) (fun _ k => XS.iconst X54.here hx rfl (hb hby at_38) k) ?_
    by_cases hc63 : (2 : Int32) < u8
    · have g64 := oLt hc63
      refine OGoal.mp (S' := (T53.setTop (mkF m 42 #[.val (.int p1), .val (.int p2), .val (.int p3), .val (.int p4), .val (.int p5), .val (.int u8), .val (.ref a19), .unset, .unset, .unset] []))) (fun _ k => XS.icmpNo X54.here hx rfl (hb hby at_39) rfl (XT.ii_le_f hc63) k) ?_
      refine OGoal.mp (S' := (T53.setTop (mkF m 44 #[.val (.int p1), .val (.int p2), .val (.int p3), .val (.int p4), .val (.int p5), .val (.int u8), .val (.ref a19), .unset, .unset, .unset] [(.ref a19)]))) (fun _ k => XS.aload X54.here hx rfl (hb hby at_42) rfl rfl k) ?_
      refine OGoal.mp (S' := (T53.setTop (mkF m 45 #[.val (.int p1), .val (.int p2), .val (.int p3), .val (.int p4), .val (.int p5), .val (.int u8), .val (.ref a19), .unset, .unset, .unset] [(.int (2 : Int32)), (.ref a19)]))) (fun _ k => XS.iconst X54.here hx rfl (hb hby at_44) k) ?_
      refine OGoal.mp (S' := (T53.setTop (mkF m 46 #[.val (.int p1), .val (.int p2), .val (.int p3), .val (.int p4), .val (.int p5), .val (.int u8), .val (.ref a19), .unset, .unset, .unset] [(.int p3), (.int (2 : Int32)), (.ref a19)]))) (fun _ k => XS.iloadN X54.here hx rfl (hb hby at_45) rfl k) ?_
      refine oCallS (y := (⟨"com/example/andesite/andesite/model/LossesPredictedPinLaw", "value", "(I)D"⟩ : MethodName)) X54 hx hZ hown (hw _ (List.mem_of_getElem? (i := 1) rfl)) (hw _ (List.mem_of_getElem? (i := 2) rfl)) (hw _ (List.mem_of_getElem? (i := 3) rfl)) (hw _ (List.mem_of_getElem? (i := 4) rfl)) (by decide) (rmV l Z a0 hw p3 h57 n0 Z62) e55 [(.int p3)] [(.int (2 : Int32)), (.ref a19)] rfl rfl (by rw [hml]; rfl) (lenOf own_pd__I_D rfl) 2 (Nat.le_of_eq rfl) (by decide) (by decide) (by decide) (by decide) (hb hby at_46) ?_
      intro v65 T66 L67 X68 q69
      obtain ⟨rfl, N70, e71⟩ := q69
      have N72 := Fr.app N59 N70
      show OGoal p e below s _ _ _ (T66.setTop (mkF m 49 #[.val (.int p1), .val (.int p2), .val (.int p3), .val (.int p4), .val (.int p5), .val (.int u8), .val (.ref a19), .unset, .unset, .unset] [(.double (own_D (p3 &&& (15 : Int32)))), (.int (2 : Int32)), (.ref a19)]))
      obtain ⟨T73, h77, X74, e75, W78, st76⟩ := oStD X68 hx hZ e71 F60 (by omega) (by omega) (g := mkF m 49 #[.val (.int p1), .val (.int p2), .val (.int p3), .val (.int p4), .val (.int p5), .val (.int u8), .val (.ref a19), .unset, .unset, .unset] [(.double (own_D (p3 &&& (15 : Int32)))), (.int (2 : Int32)), (.ref a19)]) rfl rfl (hb hby at_49)
      have N79 := Fr.snoc X74 N72 ab24
      have F80 : OArr Z h77 a19 .double u8 (fun i => if i = ((2 : Int32)).toNatClampNeg then (.double (own_D (p3 &&& (15 : Int32)))) else (fun i => if i = ((1 : Int32)).toNatClampNeg then (.double (own_D (p2 &&& (15 : Int32)))) else (fun i => if i = ((0 : Int32)).toNatClampNeg then (.double (own_D (p1 &&& (15 : Int32)))) else (fun _ => .double 0 : Nat → Value) i : Nat → Value) i : Nat → Value) i : Nat → Value) := F60.set W78
      have F81 := F61.wr W78
      have Z82 : n0 ≤ h77.size := Nat.le_trans Z62 (Keep.of_wr W78).1
      refine OGoal.mp (S' := (T73.setTop (mkF m 50 #[.val (.int p1), .val (.int p2), .val (.int p3), .val (.int p4), .val (.int p5), .val (.int u8), .val (.ref a19), .unset, .unset, .unset] []))) (fun _ k => st76 _ k) ?_
      refine OGoal.mp (S' := (T73.setTop (mkF m 52 #[.val (.int p1), .val (.int p2), .val (.int p3), .val (.int p4), .val (.int p5), .val (.int u8), .val (.ref a19), .unset, .unset, .unset] [(.int u8)]))) (fun _ k => XS.iload X74.here hx rfl (hb hby at_50) rfl k) ?_
      refine OGoal.mp (S' := (T73.setTop (mkF m 53 #[.val (.int p1), .val (.int p2), .val (.int p3), .val (.int p4), .val (.int p5), .val (.int u8), .val (.ref a19), .unset, .unset, .unset] [(.int (3 : Int32)), (.int u8)]))) (fun _ k => XS.iconst X74.here hx rfl (hb hby at_52) k) ?_
      by_cases hc83 : (3 : Int32) < u8
      · have g84 := oLt hc83
        refine OGoal.mp (S' := (T73.setTop (mkF m 56 #[.val (.int p1), .val (.int p2), .val (.int p3), .val (.int p4), .val (.int p5), .val (.int u8), .val (.ref a19), .unset, .unset, .unset] []))) (fun _ k => XS.icmpNo X74.here hx rfl (hb hby at_53) rfl (XT.ii_le_f hc83) k) ?_
        refine OGoal.mp (S' := (T73.setTop (mkF m 58 #[.val (.int p1), .val (.int p2), .val (.int p3), .val (.int p4), .val (.int p5), .val (.int u8), .val (.ref a19), .unset, .unset, .unset] [(.ref a19)]))) (fun _ k => XS.aload X74.here hx rfl (hb hby at_56) rfl rfl k) ?_
        refine OGoal.mp (S' := (T73.setTop (mkF m 59 #[.val (.int p1), .val (.int p2), .val (.int p3), .val (.int p4), .val (.int p5), .val (.int u8), .val (.ref a19), .unset, .unset, .unset] [(.int (3 : Int32)), (.ref a19)]))) (fun _ k => XS.iconst X74.here hx rfl (hb hby at_58) k) ?_
        refine OGoal.mp (S' := (T73.setTop (mkF m 60 #[.val (.int p1), .val (.int p2), .val (.int p3), .val (.int p4), .val (.int p5), .val (.int u8), .val (.ref a19), .unset, .unset, .unset] [(.int p4), (.int (3 : Int32)), (.ref a19)]))) (fun _ k => XS.iloadN X74.here hx rfl (hb hby at_59) rfl k) ?_
        refine oCallS (y := (⟨"com/example/andesite/andesite/model/LossesPredictedPinLaw", "value", "(I)D"⟩ : MethodName)) X74 hx hZ hown (hw _ (List.mem_of_getElem? (i := 1) rfl)) (hw _ (List.mem_of_getElem? (i := 2) rfl)) (hw _ (List.mem_of_getElem? (i := 3) rfl)) (hw _ (List.mem_of_getElem? (i := 4) rfl)) (by decide) (rmV l Z a0 hw p4 h77 n0 Z82) e75 [(.int p4)] [(.int (3 : Int32)), (.ref a19)] rfl rfl (by rw [hml]; rfl) (lenOf own_pd__I_D rfl) 2 (Nat.le_of_eq rfl) (by decide) (by decide) (by decide) (by decide) (hb hby at_60) ?_
        intro v85 T86 L87 X88 q89
        obtain ⟨rfl, N90, e91⟩ := q89
        have N92 := Fr.app N79 N90
        show OGoal p e below s _ _ _ (T86.setTop (mkF m 63 #[.val (.int p1), .val (.int p2), .val (.int p3), .val (.int p4), .val (.int p5), .val (.int u8), .val (.ref a19), .unset, .unset, .unset] [(.double (own_D (p4 &&& (15 : Int32)))), (.int (3 : Int32)), (.ref a19)]))
        obtain ⟨T93, h97, X94, e95, W98, st96⟩ := oStD X88 hx hZ e91 F80 (by omega) (by omega) (g := mkF m 63 #[.val (.int p1), .val (.int p2), .val (.int p3), .val (.int p4), .val (.int p5), .val (.int u8), .val (.ref a19), .unset, .unset, .unset] [(.double (own_D (p4 &&& (15 : Int32)))), (.int (3 : Int32)), (.ref a19)]) rfl rfl (hb hby at_63)
        have N99 := Fr.snoc X94 N92 ab24
        have F100 : OArr Z h97 a19 .double u8 (fun i => if i = ((3 : Int32)).toNatClampNeg then (.double (own_D (p4 &&& (15 : Int32)))) else (fun i => if i = ((2 : Int32)).toNatClampNeg then (.double (own_D (p3 &&& (15 : Int32)))) else (fun i => if i = ((1 : Int32)).toNatClampNeg then (.double (own_D (p2 &&& (15 : Int32)))) else (fun i => if i = ((0 : Int32)).toNatClampNeg then (.double (own_D (p1 &&& (15 : Int32)))) else (fun _ => .double 0 : Nat → Value) i : Nat → Value) i : Nat → Value) i : Nat → Value) i : Nat → Value) := F80.set W98
        have F101 := F81.wr W98
        have Z102 : n0 ≤ h97.size := Nat.le_trans Z82 (Keep.of_wr W98).1
        refine OGoal.mp (S' := (T93.setTop (mkF m 64 #[.val (.int p1), .val (.int p2), .val (.int p3), .val (.int p4), .val (.int p5), .val (.int u8), .val (.ref a19), .unset, .unset, .unset] []))) (fun _ k => st96 _ k) ?_
        have hlen : u8.toInt = 4 := by omega
        have hf103 : ∀ i, i < (u8).toNatClampNeg → (fun i => if i = ((3 : Int32)).toNatClampNeg then (.double (own_D (p4 &&& (15 : Int32)))) else (fun i => if i = ((2 : Int32)).toNatClampNeg then (.double (own_D (p3 &&& (15 : Int32)))) else (fun i => if i = ((1 : Int32)).toNatClampNeg then (.double (own_D (p2 &&& (15 : Int32)))) else (fun i => if i = ((0 : Int32)).toNatClampNeg then (.double (own_D (p1 &&& (15 : Int32)))) else (fun _ => .double 0 : Nat → Value) i : Nat → Value) i : Nat → Value) i : Nat → Value) i : Nat → Value) i = .double (own_D ((own_k p1 p2 p3 p4) i)) := by
          intro i hi
          have hi2 : i < 4 := by have e : (u8).toNatClampNeg = (u8).toInt.toNat := rfl; rw [e, hlen] at hi; exact hi
          match i, hi2 with
          | 0, _ => rfl
          | 1, _ => rfl
          | 2, _ => rfl
          | 3, _ => rfl
        refine OGoal.mp (S' := (T93.setTop (mkF m 66 #[.val (.int p1), .val (.int p2), .val (.int p3), .val (.int p4), .val (.int p5), .val (.int u8), .val (.ref a19), .unset, .unset, .unset] [(.ref a19)]))) (fun _ k => XS.aload X94.here hx rfl (hb hby at_64) rfl rfl k) ?_
        refine oCallS (y := (⟨"com/example/andesite/andesite/model/Losses", "predicted", "([D)I"⟩ : MethodName)) X94 hx hZ hown (hw _ (List.mem_of_getElem? (i := 6) rfl)) (hw _ (List.mem_of_getElem? (i := 7) rfl)) (hw _ (List.mem_of_getElem? (i := 8) rfl)) (hw _ (List.mem_of_getElem? (i := 9) rfl)) (by decide) (rmP l Z a0 hw a19 h97 n0 Z102 u8 _ (own_k p1 p2 p3 p4) F100 hf103 (own_k15 _ _ _ _) (by omega)) e95 [(.ref a19)] [] rfl rfl (by rw [hml]; rfl) (lenOf own_pd___D_I rfl) 0 (Nat.le_of_eq rfl) (by decide) (by decide) (by decide) (by decide) (hb hby at_66) ?_
        intro v104 T105 L106 X107 q108
        obtain ⟨r, rfl, N109, e110, hr0, hr1, hrj⟩ := q108
        have N111 := Fr.app N99 N109
        have er : r.toNatClampNeg = r.toInt.toNat := rfl
        show OGoal p e below s _ _ _ (T105.setTop (mkF m 69 #[.val (.int p1), .val (.int p2), .val (.int p3), .val (.int p4), .val (.int p5), .val (.int u8), .val (.ref a19), .unset, .unset, .unset] [(.int r)]))
        refine OGoal.mp (S' := (T105.setTop (mkF m 71 #[.val (.int p1), .val (.int p2), .val (.int p3), .val (.int p4), .val (.int p5), .val (.int u8), .val (.ref a19), .val (.int r), .unset, .unset] []))) (fun _ k => XS.istore X107.here hx rfl (hb hby at_69) rfl (l' := #[.val (.int p1), .val (.int p2), .val (.int p3), .val (.int p4), .val (.int p5), .val (.int u8), .val (.ref a19), .val (.int r), .unset, .unset]) rfl k) ?_
        refine OGoal.mp (S' := (T105.setTop (mkF m 73 #[.val (.int p1), .val (.int p2), .val (.int p3), .val (.int p4), .val (.int p5), .val (.int u8), .val (.ref a19), .val (.int r), .unset, .unset] [(.int r)]))) (fun _ k => XS.iload X107.here hx rfl (hb hby at_71) rfl k) ?_
        have hd112 : ¬ (r < 0) := mNlt (by omega)
        refine OGoal.mp (S' := (T105.setTop (mkF m 76 #[.val (.int p1), .val (.int p2), .val (.int p3), .val (.int p4), .val (.int p5), .val (.int u8), .val (.ref a19), .val (.int r), .unset, .unset] []))) (fun _ k => XS.ifNo X107.here hx rfl (hb hby at_73) rfl (XT.i0_lt_f hd112) k) ?_
        refine OGoal.mp (S' := (T105.setTop (mkF m 78 #[.val (.int p1), .val (.int p2), .val (.int p3), .val (.int p4), .val (.int p5), .val (.int u8), .val (.ref a19), .val (.int r), .unset, .unset] [(.int r)]))) (fun _ k => XS.iload X107.here hx rfl (hb hby at_76) rfl k) ?_
        refine OGoal.mp (S' := (T105.setTop (mkF m 80 #[.val (.int p1), .val (.int p2), .val (.int p3), .val (.int p4), .val (.int p5), .val (.int u8), .val (.ref a19), .val (.int r), .unset, .unset] [(.int u8), (.int r)]))) (fun _ k => XS.iload X107.here hx rfl (hb hby at_78) rfl k) ?_
        have hd113 : r < u8 := mLt (by omega)
        refine OGoal.mp (S' := (T105.setTop (mkF m 85 #[.val (.int p1), .val (.int p2), .val (.int p3), .val (.int p4), .val (.int p5), .val (.int u8), .val (.ref a19), .val (.int r), .unset, .unset] []))) (fun _ k => XS.icmpYes X107.here hx rfl (pc0 := 80) (pc' := 85) rfl (hb hby at_80) rfl (XT.ii_lt_t hd113) (by decide) (by decide) k) ?_
        refine OGoal.mp (S' := (T105.setTop (mkF m 87 #[.val (.int p1), .val (.int p2), .val (.int p3), .val (.int p4), .val (.int p5), .val (.int u8), .val (.ref a19), .val (.int r), .unset, .unset] [(.ref a19)]))) (fun _ k => XS.aload X107.here hx rfl (hb hby at_85) rfl rfl k) ?_
        refine OGoal.mp (S' := (T105.setTop (mkF m 89 #[.val (.int p1), .val (.int p2), .val (.int p3), .val (.int p4), .val (.int p5), .val (.int u8), .val (.ref a19), .val (.int r), .unset, .unset] [(.int r), (.ref a19)]))) (fun _ k => XS.iload X107.here hx rfl (hb hby at_87) rfl k) ?_
        refine OGoal.mp (S' := (T105.setTop (mkF m 90 #[.val (.int p1), .val (.int p2), .val (.int p3), .val (.int p4), .val (.int p5), .val (.int u8), .val (.ref a19), .val (.int r), .unset, .unset] [(.double (own_D ((own_k p1 p2 p3 p4) r.toNatClampNeg)))]))) (fun _ k => oLdD X107 hx hZ e110 F100 (by omega) (by omega) (hf103 _ (by show r.toInt.toNat < u8.toInt.toNat; omega)) (g := mkF m 89 #[.val (.int p1), .val (.int p2), .val (.int p3), .val (.int p4), .val (.int p5), .val (.int u8), .val (.ref a19), .val (.int r), .unset, .unset] [(.int r), (.ref a19)]) rfl rfl (hb hby at_89) k) ?_
        refine OGoal.mp (S' := (T105.setTop (mkF m 92 #[.val (.int p1), .val (.int p2), .val (.int p3), .val (.int p4), .val (.int p5), .val (.int u8), .val (.ref a19), .val (.int r), .val (.double (own_D ((own_k p1 p2 p3 p4) r.toNatClampNeg))), .second] []))) (fun _ k => XS.dstore X107.here hx rfl (hb hby at_90) rfl (l' := #[.val (.int p1), .val (.int p2), .val (.int p3), .val (.int p4), .val (.int p5), .val (.int u8), .val (.ref a19), .val (.int r), .val (.double (own_D ((own_k p1 p2 p3 p4) r.toNatClampNeg))), .second]) rfl k) ?_
        refine OGoal.mp (S' := (T105.setTop (mkF m 94 #[.val (.int p1), .val (.int p2), .val (.int p3), .val (.int p4), .val (.int p5), .val (.int u8), .val (.ref a19), .val (.int r), .val (.double (own_D ((own_k p1 p2 p3 p4) r.toNatClampNeg))), .second] [(.ref a19)]))) (fun _ k => XS.aload X107.here hx rfl (hb hby at_92) rfl rfl k) ?_
        refine OGoal.mp (S' := (T105.setTop (mkF m 96 #[.val (.int p1), .val (.int p2), .val (.int p3), .val (.int p4), .val (.int p5), .val (.int u8), .val (.ref a19), .val (.int r), .val (.double (own_D ((own_k p1 p2 p3 p4) r.toNatClampNeg))), .second] [(.int u8), (.ref a19)]))) (fun _ k => XS.iload X107.here hx rfl (hb hby at_94) rfl k) ?_
        refine OGoal.mp (S' := (T105.setTop (mkF m 97 #[.val (.int p1), .val (.int p2), .val (.int p3), .val (.int p4), .val (.int p5), .val (.int u8), .val (.ref a19), .val (.int r), .val (.double (own_D ((own_k p1 p2 p3 p4) r.toNatClampNeg))), .second] [(.int (0 : Int32)), (.int u8), (.ref a19)]))) (fun _ k => XS.iconst X107.here hx rfl (hb hby at_96) k) ?_
        refine OGoal.mp (S' := (T105.setTop (mkF m 99 #[.val (.int p1), .val (.int p2), .val (.int p3), .val (.int p4), .val (.int p5), .val (.int u8), .val (.ref a19), .val (.int r), .val (.double (own_D ((own_k p1 p2 p3 p4) r.toNatClampNeg))), .second] [(.int r), (.int (0 : Int32)), (.int u8), (.ref a19)]))) (fun _ k => XS.iload X107.here hx rfl (hb hby at_97) rfl k) ?_
        refine OGoal.mp (S' := (T105.setTop (mkF m 101 #[.val (.int p1), .val (.int p2), .val (.int p3), .val (.int p4), .val (.int p5), .val (.int u8), .val (.ref a19), .val (.int r), .val (.double (own_D ((own_k p1 p2 p3 p4) r.toNatClampNeg))), .second] [(.double (own_D ((own_k p1 p2 p3 p4) r.toNatClampNeg))), (.int r), (.int (0 : Int32)), (.int u8), (.ref a19)]))) (fun _ k => XS.dload X107.here hx rfl (hb hby at_99) rfl k) ?_
        refine oCallS (y := (⟨"com/example/andesite/andesite/model/LossesPredictedPinLaw", "ok", "([DIIID)Z"⟩ : MethodName)) X107 hx hZ hown (hw _ (List.mem_of_getElem? (i := 10) rfl)) (hw _ (List.mem_of_getElem? (i := 11) rfl)) (hw _ (List.mem_of_getElem? (i := 3) rfl)) (hw _ (List.mem_of_getElem? (i := 12) rfl)) (by decide) (rmK0 l Z a0 hw a19 u8 r ((own_k p1 p2 p3 p4) r.toNatClampNeg) h97 n0 Z102 _ (own_k p1 p2 p3 p4) F100 hf103 (own_k15 _ _ _ _) (own_k15 _ _ _ _ _) (fun q1 q2 => by have := oLt q2; exact (hrj 0).1 (by omega)) (fun q1 q2 => by have := oLt q1; have := oNlt q2; exact (hrj 0).2 (by omega) (by omega))) e110 [(.ref a19), (.int u8), (.int (0 : Int32)), (.int r), (.double (own_D ((own_k p1 p2 p3 p4) r.toNatClampNeg)))] [] rfl rfl (by rw [hml]; rfl) (lenOf own_pd___DIIID_Z rfl) 0 (Nat.le_of_eq rfl) (by decide) (by decide) (by decide) (by decide) (hb hby at_101) ?_
        intro v114 T115 L116 X117 q118
        obtain ⟨rfl, N119, e120⟩ := q118
        have N121 := Fr.app N111 N119
        show OGoal p e below s _ _ _ (T115.setTop (mkF m 104 #[.val (.int p1), .val (.int p2), .val (.int p3), .val (.int p4), .val (.int p5), .val (.int u8), .val (.ref a19), .val (.int r), .val (.double (own_D ((own_k p1 p2 p3 p4) r.toNatClampNeg))), .second] [(.int (1 : Int32))]))
        have hd122 : ¬ ((1 : Int32) = 0) := mNe (by omega)
        refine OGoal.mp (S' := (T115.setTop (mkF m 107 #[.val (.int p1), .val (.int p2), .val (.int p3), .val (.int p4), .val (.int p5), .val (.int u8), .val (.ref a19), .val (.int r), .val (.double (own_D ((own_k p1 p2 p3 p4) r.toNatClampNeg))), .second] []))) (fun _ k => XS.ifNo X117.here hx rfl (hb hby at_104) rfl (XT.i0_eq_f hd122) k) ?_
        refine OGoal.mp (S' := (T115.setTop (mkF m 109 #[.val (.int p1), .val (.int p2), .val (.int p3), .val (.int p4), .val (.int p5), .val (.int u8), .val (.ref a19), .val (.int r), .val (.double (own_D ((own_k p1 p2 p3 p4) r.toNatClampNeg))), .second] [(.ref a19)]))) (fun _ k => XS.aload X117.here hx rfl (hb hby at_107) rfl rfl k) ?_
        refine OGoal.mp (S' := (T115.setTop (mkF m 111 #[.val (.int p1), .val (.int p2), .val (.int p3), .val (.int p4), .val (.int p5), .val (.int u8), .val (.ref a19), .val (.int r), .val (.double (own_D ((own_k p1 p2 p3 p4) r.toNatClampNeg))), .second] [(.int u8), (.ref a19)]))) (fun _ k => XS.iload X117.here hx rfl (hb hby at_109) rfl k) ?_
        refine OGoal.mp (S' := (T115.setTop (mkF m 112 #[.val (.int p1), .val (.int p2), .val (.int p3), .val (.int p4), .val (.int p5), .val (.int u8), .val (.ref a19), .val (.int r), .val (.double (own_D ((own_k p1 p2 p3 p4) r.toNatClampNeg))), .second] [(.int (1 : Int32)), (.int u8), (.ref a19)]))) (fun _ k => XS.iconst X117.here hx rfl (hb hby at_111) k) ?_
        refine OGoal.mp (S' := (T115.setTop (mkF m 114 #[.val (.int p1), .val (.int p2), .val (.int p3), .val (.int p4), .val (.int p5), .val (.int u8), .val (.ref a19), .val (.int r), .val (.double (own_D ((own_k p1 p2 p3 p4) r.toNatClampNeg))), .second] [(.int r), (.int (1 : Int32)), (.int u8), (.ref a19)]))) (fun _ k => XS.iload X117.here hx rfl (hb hby at_112) rfl k) ?_
        refine OGoal.mp (S' := (T115.setTop (mkF m 116 #[.val (.int p1), .val (.int p2), .val (.int p3), .val (.int p4), .val (.int p5), .val (.int u8), .val (.ref a19), .val (.int r), .val (.double (own_D ((own_k p1 p2 p3 p4) r.toNatClampNeg))), .second] [(.double (own_D ((own_k p1 p2 p3 p4) r.toNatClampNeg))), (.int r), (.int (1 : Int32)), (.int u8), (.ref a19)]))) (fun _ k => XS.dload X117.here hx rfl (hb hby at_114) rfl k) ?_
        refine oCallS (y := (⟨"com/example/andesite/andesite/model/LossesPredictedPinLaw", "ok", "([DIIID)Z"⟩ : MethodName)) X117 hx hZ hown (hw _ (List.mem_of_getElem? (i := 10) rfl)) (hw _ (List.mem_of_getElem? (i := 11) rfl)) (hw _ (List.mem_of_getElem? (i := 3) rfl)) (hw _ (List.mem_of_getElem? (i := 12) rfl)) (by decide) (rmK1 l Z a0 hw a19 u8 r ((own_k p1 p2 p3 p4) r.toNatClampNeg) h97 n0 Z102 _ (own_k p1 p2 p3 p4) F100 hf103 (own_k15 _ _ _ _) (own_k15 _ _ _ _ _) (fun q1 q2 => by have := oLt q2; exact (hrj 1).1 (by omega)) (fun q1 q2 => by have := oLt q1; have := oNlt q2; exact (hrj 1).2 (by omega) (by omega))) e120 [(.ref a19), (.int u8), (.int (1 : Int32)), (.int r), (.double (own_D ((own_k p1 p2 p3 p4) r.toNatClampNeg)))] [] rfl rfl (by rw [hml]; rfl) (lenOf own_pd___DIIID_Z rfl) 0 (Nat.le_of_eq rfl) (by decide) (by decide) (by decide) (by decide) (hb hby at_116) ?_
        intro v123 T124 L125 X126 q127
        obtain ⟨rfl, N128, e129⟩ := q127
        have N130 := Fr.app N121 N128
        show OGoal p e below s _ _ _ (T124.setTop (mkF m 119 #[.val (.int p1), .val (.int p2), .val (.int p3), .val (.int p4), .val (.int p5), .val (.int u8), .val (.ref a19), .val (.int r), .val (.double (own_D ((own_k p1 p2 p3 p4) r.toNatClampNeg))), .second] [(.int (1 : Int32))]))
        have hd131 : ¬ ((1 : Int32) = 0) := mNe (by omega)
        refine OGoal.mp (S' := (T124.setTop (mkF m 122 #[.val (.int p1), .val (.int p2), .val (.int p3), .val (.int p4), .val (.int p5), .val (.int u8), .val (.ref a19), .val (.int r), .val (.double (own_D ((own_k p1 p2 p3 p4) r.toNatClampNeg))), .second] []))) (fun _ k => XS.ifNo X126.here hx rfl (hb hby at_119) rfl (XT.i0_eq_f hd131) k) ?_
        refine OGoal.mp (S' := (T124.setTop (mkF m 124 #[.val (.int p1), .val (.int p2), .val (.int p3), .val (.int p4), .val (.int p5), .val (.int u8), .val (.ref a19), .val (.int r), .val (.double (own_D ((own_k p1 p2 p3 p4) r.toNatClampNeg))), .second] [(.ref a19)]))) (fun _ k => XS.aload X126.here hx rfl (hb hby at_122) rfl rfl k) ?_
        refine OGoal.mp (S' := (T124.setTop (mkF m 126 #[.val (.int p1), .val (.int p2), .val (.int p3), .val (.int p4), .val (.int p5), .val (.int u8), .val (.ref a19), .val (.int r), .val (.double (own_D ((own_k p1 p2 p3 p4) r.toNatClampNeg))), .second] [(.int u8), (.ref a19)]))) (fun _ k => XS.iload X126.here hx rfl (hb hby at_124) rfl k) ?_
        refine OGoal.mp (S' := (T124.setTop (mkF m 127 #[.val (.int p1), .val (.int p2), .val (.int p3), .val (.int p4), .val (.int p5), .val (.int u8), .val (.ref a19), .val (.int r), .val (.double (own_D ((own_k p1 p2 p3 p4) r.toNatClampNeg))), .second] [(.int (2 : Int32)), (.int u8), (.ref a19)]))) (fun _ k => XS.iconst X126.here hx rfl (hb hby at_126) k) ?_
        refine OGoal.mp (S' := (T124.setTop (mkF m 129 #[.val (.int p1), .val (.int p2), .val (.int p3), .val (.int p4), .val (.int p5), .val (.int u8), .val (.ref a19), .val (.int r), .val (.double (own_D ((own_k p1 p2 p3 p4) r.toNatClampNeg))), .second] [(.int r), (.int (2 : Int32)), (.int u8), (.ref a19)]))) (fun _ k => XS.iload X126.here hx rfl (hb hby at_127) rfl k) ?_
        refine OGoal.mp (S' := (T124.setTop (mkF m 131 #[.val (.int p1), .val (.int p2), .val (.int p3), .val (.int p4), .val (.int p5), .val (.int u8), .val (.ref a19), .val (.int r), .val (.double (own_D ((own_k p1 p2 p3 p4) r.toNatClampNeg))), .second] [(.double (own_D ((own_k p1 p2 p3 p4) r.toNatClampNeg))), (.int r), (.int (2 : Int32)), (.int u8), (.ref a19)]))) (fun _ k => XS.dload X126.here hx rfl (hb hby at_129) rfl k) ?_
        refine oCallS (y := (⟨"com/example/andesite/andesite/model/LossesPredictedPinLaw", "ok", "([DIIID)Z"⟩ : MethodName)) X126 hx hZ hown (hw _ (List.mem_of_getElem? (i := 10) rfl)) (hw _ (List.mem_of_getElem? (i := 11) rfl)) (hw _ (List.mem_of_getElem? (i := 3) rfl)) (hw _ (List.mem_of_getElem? (i := 12) rfl)) (by decide) (rmK2 l Z a0 hw a19 u8 r ((own_k p1 p2 p3 p4) r.toNatClampNeg) h97 n0 Z102 _ (own_k p1 p2 p3 p4) F100 hf103 (own_k15 _ _ _ _) (own_k15 _ _ _ _ _) (fun q1 q2 => by have := oLt q2; exact (hrj 2).1 (by omega)) (fun q1 q2 => by have := oLt q1; have := oNlt q2; exact (hrj 2).2 (by omega) (by omega))) e129 [(.ref a19), (.int u8), (.int (2 : Int32)), (.int r), (.double (own_D ((own_k p1 p2 p3 p4) r.toNatClampNeg)))] [] rfl rfl (by rw [hml]; rfl) (lenOf own_pd___DIIID_Z rfl) 0 (Nat.le_of_eq rfl) (by decide) (by decide) (by decide) (by decide) (hb hby at_131) ?_
        intro v132 T133 L134 X135 q136
        obtain ⟨rfl, N137, e138⟩ := q136
        have N139 := Fr.app N130 N137
        show OGoal p e below s _ _ _ (T133.setTop (mkF m 134 #[.val (.int p1), .val (.int p2), .val (.int p3), .val (.int p4), .val (.int p5), .val (.int u8), .val (.ref a19), .val (.int r), .val (.double (own_D ((own_k p1 p2 p3 p4) r.toNatClampNeg))), .second] [(.int (1 : Int32))]))
        have hd140 : ¬ ((1 : Int32) = 0) := mNe (by omega)
        refine OGoal.mp (S' := (T133.setTop (mkF m 137 #[.val (.int p1), .val (.int p2), .val (.int p3), .val (.int p4), .val (.int p5), .val (.int u8), .val (.ref a19), .val (.int r), .val (.double (own_D ((own_k p1 p2 p3 p4) r.toNatClampNeg))), .second] []))) (fun _ k => XS.ifNo X135.here hx rfl (hb hby at_134) rfl (XT.i0_eq_f hd140) k) ?_
        refine OGoal.mp (S' := (T133.setTop (mkF m 139 #[.val (.int p1), .val (.int p2), .val (.int p3), .val (.int p4), .val (.int p5), .val (.int u8), .val (.ref a19), .val (.int r), .val (.double (own_D ((own_k p1 p2 p3 p4) r.toNatClampNeg))), .second] [(.ref a19)]))) (fun _ k => XS.aload X135.here hx rfl (hb hby at_137) rfl rfl k) ?_
        refine OGoal.mp (S' := (T133.setTop (mkF m 141 #[.val (.int p1), .val (.int p2), .val (.int p3), .val (.int p4), .val (.int p5), .val (.int u8), .val (.ref a19), .val (.int r), .val (.double (own_D ((own_k p1 p2 p3 p4) r.toNatClampNeg))), .second] [(.int u8), (.ref a19)]))) (fun _ k => XS.iload X135.here hx rfl (hb hby at_139) rfl k) ?_
        refine OGoal.mp (S' := (T133.setTop (mkF m 142 #[.val (.int p1), .val (.int p2), .val (.int p3), .val (.int p4), .val (.int p5), .val (.int u8), .val (.ref a19), .val (.int r), .val (.double (own_D ((own_k p1 p2 p3 p4) r.toNatClampNeg))), .second] [(.int (3 : Int32)), (.int u8), (.ref a19)]))) (fun _ k => XS.iconst X135.here hx rfl (hb hby at_141) k) ?_
        refine OGoal.mp (S' := (T133.setTop (mkF m 144 #[.val (.int p1), .val (.int p2), .val (.int p3), .val (.int p4), .val (.int p5), .val (.int u8), .val (.ref a19), .val (.int r), .val (.double (own_D ((own_k p1 p2 p3 p4) r.toNatClampNeg))), .second] [(.int r), (.int (3 : Int32)), (.int u8), (.ref a19)]))) (fun _ k => XS.iload X135.here hx rfl (hb hby at_142) rfl k) ?_
        refine OGoal.mp (S' := (T133.setTop (mkF m 146 #[.val (.int p1), .val (.int p2), .val (.int p3), .val (.int p4), .val (.int p5), .val (.int u8), .val (.ref a19), .val (.int r), .val (.double (own_D ((own_k p1 p2 p3 p4) r.toNatClampNeg))), .second] [(.double (own_D ((own_k p1 p2 p3 p4) r.toNatClampNeg))), (.int r), (.int (3 : Int32)), (.int u8), (.ref a19)]))) (fun _ k => XS.dload X135.here hx rfl (hb hby at_144) rfl k) ?_
        refine oCallS (y := (⟨"com/example/andesite/andesite/model/LossesPredictedPinLaw", "ok", "([DIIID)Z"⟩ : MethodName)) X135 hx hZ hown (hw _ (List.mem_of_getElem? (i := 10) rfl)) (hw _ (List.mem_of_getElem? (i := 11) rfl)) (hw _ (List.mem_of_getElem? (i := 3) rfl)) (hw _ (List.mem_of_getElem? (i := 12) rfl)) (by decide) (rmK3 l Z a0 hw a19 u8 r ((own_k p1 p2 p3 p4) r.toNatClampNeg) h97 n0 Z102 _ (own_k p1 p2 p3 p4) F100 hf103 (own_k15 _ _ _ _) (own_k15 _ _ _ _ _) (fun q1 q2 => by have := oLt q2; exact (hrj 3).1 (by omega)) (fun q1 q2 => by have := oLt q1; have := oNlt q2; exact (hrj 3).2 (by omega) (by omega))) e138 [(.ref a19), (.int u8), (.int (3 : Int32)), (.int r), (.double (own_D ((own_k p1 p2 p3 p4) r.toNatClampNeg)))] [] rfl rfl (by rw [hml]; rfl) (lenOf own_pd___DIIID_Z rfl) 0 (Nat.le_of_eq rfl) (by decide) (by decide) (by decide) (by decide) (hb hby at_146) ?_
        intro v141 T142 L143 X144 q145
        obtain ⟨rfl, N146, e147⟩ := q145
        have N148 := Fr.app N139 N146
        show OGoal p e below s _ _ _ (T142.setTop (mkF m 149 #[.val (.int p1), .val (.int p2), .val (.int p3), .val (.int p4), .val (.int p5), .val (.int u8), .val (.ref a19), .val (.int r), .val (.double (own_D ((own_k p1 p2 p3 p4) r.toNatClampNeg))), .second] [(.int (1 : Int32))]))
        have hd149 : ¬ ((1 : Int32) = 0) := mNe (by omega)
        refine OGoal.mp (S' := (T142.setTop (mkF m 152 #[.val (.int p1), .val (.int p2), .val (.int p3), .val (.int p4), .val (.int p5), .val (.int u8), .val (.ref a19), .val (.int r), .val (.double (own_D ((own_k p1 p2 p3 p4) r.toNatClampNeg))), .second] []))) (fun _ k => XS.ifNo X144.here hx rfl (hb hby at_149) rfl (XT.i0_eq_f hd149) k) ?_
        refine OGoal.mp (S' := (T142.setTop (mkF m 153 #[.val (.int p1), .val (.int p2), .val (.int p3), .val (.int p4), .val (.int p5), .val (.int u8), .val (.ref a19), .val (.int r), .val (.double (own_D ((own_k p1 p2 p3 p4) r.toNatClampNeg))), .second] [(.int (1 : Int32))]))) (fun _ k => XS.iconst X144.here hx rfl (hb hby at_152) k) ?_
        refine OGoal.mp (S' := (T142.setTop (mkF m 157 #[.val (.int p1), .val (.int p2), .val (.int p3), .val (.int p4), .val (.int p5), .val (.int u8), .val (.ref a19), .val (.int r), .val (.double (own_D ((own_k p1 p2 p3 p4) r.toNatClampNeg))), .second] [(.int (1 : Int32))]))) (fun _ k => XS.goto X144.here hx rfl (pc0 := 153) (pc' := 157) rfl (hb hby at_153) (by decide) (by decide) k) ?_
        refine oRetZ X144 hx hlk hret (Or.inr rfl) (hb hby at_157) ?_ (by decide) (by decide)
        exact ⟨rfl, N148⟩
      · have g150 := oNlt hc83
        refine OGoal.mp (S' := (T73.setTop (mkF m 64 #[.val (.int p1), .val (.int p2), .val (.int p3), .val (.int p4), .val (.int p5), .val (.int u8), .val (.ref a19), .unset, .unset, .unset] []))) (fun _ k => XS.icmpYes X74.here hx rfl (pc0 := 53) (pc' := 64) rfl (hb hby at_53) rfl (XT.ii_le_t hc83) (by decide) (by decide) k) ?_
        have hlen : u8.toInt = 3 := by omega
        have hf151 : ∀ i, i < (u8).toNatClampNeg → (fun i => if i = ((2 : Int32)).toNatClampNeg then (.double (own_D (p3 &&& (15 : Int32)))) else (fun i => if i = ((1 : Int32)).toNatClampNeg then (.double (own_D (p2 &&& (15 : Int32)))) else (fun i => if i = ((0 : Int32)).toNatClampNeg then (.double (own_D (p1 &&& (15 : Int32)))) else (fun _ => .double 0 : Nat → Value) i : Nat → Value) i : Nat → Value) i : Nat → Value) i = .double (own_D ((own_k p1 p2 p3 p4) i)) := by
          intro i hi
          have hi2 : i < 3 := by have e : (u8).toNatClampNeg = (u8).toInt.toNat := rfl; rw [e, hlen] at hi; exact hi
          match i, hi2 with
          | 0, _ => rfl
          | 1, _ => rfl
          | 2, _ => rfl
        refine OGoal.mp (S' := (T73.setTop (mkF m 66 #[.val (.int p1), .val (.int p2), .val (.int p3), .val (.int p4), .val (.int p5), .val (.int u8), .val (.ref a19), .unset, .unset, .unset] [(.ref a19)]))) (fun _ k => XS.aload X74.here hx rfl (hb hby at_64) rfl rfl k) ?_
        refine oCallS (y := (⟨"com/example/andesite/andesite/model/Losses", "predicted", "([D)I"⟩ : MethodName)) X74 hx hZ hown (hw _ (List.mem_of_getElem? (i := 6) rfl)) (hw _ (List.mem_of_getElem? (i := 7) rfl)) (hw _ (List.mem_of_getElem? (i := 8) rfl)) (hw _ (List.mem_of_getElem? (i := 9) rfl)) (by decide) (rmP l Z a0 hw a19 h77 n0 Z82 u8 _ (own_k p1 p2 p3 p4) F80 hf151 (own_k15 _ _ _ _) (by omega)) e75 [(.ref a19)] [] rfl rfl (by rw [hml]; rfl) (lenOf own_pd___D_I rfl) 0 (Nat.le_of_eq rfl) (by decide) (by decide) (by decide) (by decide) (hb hby at_66) ?_
        intro v152 T153 L154 X155 q156
        obtain ⟨r, rfl, N157, e158, hr0, hr1, hrj⟩ := q156
        have N159 := Fr.app N79 N157
        have er : r.toNatClampNeg = r.toInt.toNat := rfl
        show OGoal p e below s _ _ _ (T153.setTop (mkF m 69 #[.val (.int p1), .val (.int p2), .val (.int p3), .val (.int p4), .val (.int p5), .val (.int u8), .val (.ref a19), .unset, .unset, .unset] [(.int r)]))
        refine OGoal.mp (S' := (T153.setTop (mkF m 71 #[.val (.int p1), .val (.int p2), .val (.int p3), .val (.int p4), .val (.int p5), .val (.int u8), .val (.ref a19), .val (.int r), .unset, .unset] []))) (fun _ k => XS.istore X155.here hx rfl (hb hby at_69) rfl (l' := #[.val (.int p1), .val (.int p2), .val (.int p3), .val (.int p4), .val (.int p5), .val (.int u8), .val (.ref a19), .val (.int r), .unset, .unset]) rfl k) ?_
        refine OGoal.mp (S' := (T153.setTop (mkF m 73 #[.val (.int p1), .val (.int p2), .val (.int p3), .val (.int p4), .val (.int p5), .val (.int u8), .val (.ref a19), .val (.int r), .unset, .unset] [(.int r)]))) (fun _ k => XS.iload X155.here hx rfl (hb hby at_71) rfl k) ?_
        have hd160 : ¬ (r < 0) := mNlt (by omega)
        refine OGoal.mp (S' := (T153.setTop (mkF m 76 #[.val (.int p1), .val (.int p2), .val (.int p3), .val (.int p4), .val (.int p5), .val (.int u8), .val (.ref a19), .val (.int r), .unset, .unset] []))) (fun _ k => XS.ifNo X155.here hx rfl (hb hby at_73) rfl (XT.i0_lt_f hd160) k) ?_
        refine OGoal.mp (S' := (T153.setTop (mkF m 78 #[.val (.int p1), .val (.int p2), .val (.int p3), .val (.int p4), .val (.int p5), .val (.int u8), .val (.ref a19), .val (.int r), .unset, .unset] [(.int r)]))) (fun _ k => XS.iload X155.here hx rfl (hb hby at_76) rfl k) ?_
        refine OGoal.mp (S' := (T153.setTop (mkF m 80 #[.val (.int p1), .val (.int p2), .val (.int p3), .val (.int p4), .val (.int p5), .val (.int u8), .val (.ref a19), .val (.int r), .unset, .unset] [(.int u8), (.int r)]))) (fun _ k => XS.iload X155.here hx rfl (hb hby at_78) rfl k) ?_
        have hd161 : r < u8 := mLt (by omega)
        refine OGoal.mp (S' := (T153.setTop (mkF m 85 #[.val (.int p1), .val (.int p2), .val (.int p3), .val (.int p4), .val (.int p5), .val (.int u8), .val (.ref a19), .val (.int r), .unset, .unset] []))) (fun _ k => XS.icmpYes X155.here hx rfl (pc0 := 80) (pc' := 85) rfl (hb hby at_80) rfl (XT.ii_lt_t hd161) (by decide) (by decide) k) ?_
        refine OGoal.mp (S' := (T153.setTop (mkF m 87 #[.val (.int p1), .val (.int p2), .val (.int p3), .val (.int p4), .val (.int p5), .val (.int u8), .val (.ref a19), .val (.int r), .unset, .unset] [(.ref a19)]))) (fun _ k => XS.aload X155.here hx rfl (hb hby at_85) rfl rfl k) ?_
        refine OGoal.mp (S' := (T153.setTop (mkF m 89 #[.val (.int p1), .val (.int p2), .val (.int p3), .val (.int p4), .val (.int p5), .val (.int u8), .val (.ref a19), .val (.int r), .unset, .unset] [(.int r), (.ref a19)]))) (fun _ k => XS.iload X155.here hx rfl (hb hby at_87) rfl k) ?_
        refine OGoal.mp (S' := (T153.setTop (mkF m 90 #[.val (.int p1), .val (.int p2), .val (.int p3), .val (.int p4), .val (.int p5), .val (.int u8), .val (.ref a19), .val (.int r), .unset, .unset] [(.double (own_D ((own_k p1 p2 p3 p4) r.toNatClampNeg)))]))) (fun _ k => oLdD X155 hx hZ e158 F80 (by omega) (by omega) (hf151 _ (by show r.toInt.toNat < u8.toInt.toNat; omega)) (g := mkF m 89 #[.val (.int p1), .val (.int p2), .val (.int p3), .val (.int p4), .val (.int p5), .val (.int u8), .val (.ref a19), .val (.int r), .unset, .unset] [(.int r), (.ref a19)]) rfl rfl (hb hby at_89) k) ?_
        refine OGoal.mp (S' := (T153.setTop (mkF m 92 #[.val (.int p1), .val (.int p2), .val (.int p3), .val (.int p4), .val (.int p5), .val (.int u8), .val (.ref a19), .val (.int r), .val (.double (own_D ((own_k p1 p2 p3 p4) r.toNatClampNeg))), .second] []))) (fun _ k => XS.dstore X155.here hx rfl (hb hby at_90) rfl (l' := #[.val (.int p1), .val (.int p2), .val (.int p3), .val (.int p4), .val (.int p5), .val (.int u8), .val (.ref a19), .val (.int r), .val (.double (own_D ((own_k p1 p2 p3 p4) r.toNatClampNeg))), .second]) rfl k) ?_
        refine OGoal.mp (S' := (T153.setTop (mkF m 94 #[.val (.int p1), .val (.int p2), .val (.int p3), .val (.int p4), .val (.int p5), .val (.int u8), .val (.ref a19), .val (.int r), .val (.double (own_D ((own_k p1 p2 p3 p4) r.toNatClampNeg))), .second] [(.ref a19)]))) (fun _ k => XS.aload X155.here hx rfl (hb hby at_92) rfl rfl k) ?_
        refine OGoal.mp (S' := (T153.setTop (mkF m 96 #[.val (.int p1), .val (.int p2), .val (.int p3), .val (.int p4), .val (.int p5), .val (.int u8), .val (.ref a19), .val (.int r), .val (.double (own_D ((own_k p1 p2 p3 p4) r.toNatClampNeg))), .second] [(.int u8), (.ref a19)]))) (fun _ k => XS.iload X155.here hx rfl (hb hby at_94) rfl k) ?_
        refine OGoal.mp (S' := (T153.setTop (mkF m 97 #[.val (.int p1), .val (.int p2), .val (.int p3), .val (.int p4), .val (.int p5), .val (.int u8), .val (.ref a19), .val (.int r), .val (.double (own_D ((own_k p1 p2 p3 p4) r.toNatClampNeg))), .second] [(.int (0 : Int32)), (.int u8), (.ref a19)]))) (fun _ k => XS.iconst X155.here hx rfl (hb hby at_96) k) ?_
        refine OGoal.mp (S' := (T153.setTop (mkF m 99 #[.val (.int p1), .val (.int p2), .val (.int p3), .val (.int p4), .val (.int p5), .val (.int u8), .val (.ref a19), .val (.int r), .val (.double (own_D ((own_k p1 p2 p3 p4) r.toNatClampNeg))), .second] [(.int r), (.int (0 : Int32)), (.int u8), (.ref a19)]))) (fun _ k => XS.iload X155.here hx rfl (hb hby at_97) rfl k) ?_
        refine OGoal.mp (S' := (T153.setTop (mkF m 101 #[.val (.int p1), .val (.int p2), .val (.int p3), .val (.int p4), .val (.int p5), .val (.int u8), .val (.ref a19), .val (.int r), .val (.double (own_D ((own_k p1 p2 p3 p4) r.toNatClampNeg))), .second] [(.double (own_D ((own_k p1 p2 p3 p4) r.toNatClampNeg))), (.int r), (.int (0 : Int32)), (.int u8), (.ref a19)]))) (fun _ k => XS.dload X155.here hx rfl (hb hby at_99) rfl k) ?_
        refine oCallS (y := (⟨"com/example/andesite/andesite/model/LossesPredictedPinLaw", "ok", "([DIIID)Z"⟩ : MethodName)) X155 hx hZ hown (hw _ (List.mem_of_getElem? (i := 10) rfl)) (hw _ (List.mem_of_getElem? (i := 11) rfl)) (hw _ (List.mem_of_getElem? (i := 3) rfl)) (hw _ (List.mem_of_getElem? (i := 12) rfl)) (by decide) (rmK0 l Z a0 hw a19 u8 r ((own_k p1 p2 p3 p4) r.toNatClampNeg) h77 n0 Z82 _ (own_k p1 p2 p3 p4) F80 hf151 (own_k15 _ _ _ _) (own_k15 _ _ _ _ _) (fun q1 q2 => by have := oLt q2; exact (hrj 0).1 (by omega)) (fun q1 q2 => by have := oLt q1; have := oNlt q2; exact (hrj 0).2 (by omega) (by omega))) e158 [(.ref a19), (.int u8), (.int (0 : Int32)), (.int r), (.double (own_D ((own_k p1 p2 p3 p4) r.toNatClampNeg)))] [] rfl rfl (by rw [hml]; rfl) (lenOf own_pd___DIIID_Z rfl) 0 (Nat.le_of_eq rfl) (by decide) (by decide) (by decide) (by decide) (hb hby at_101) ?_
        intro v162 T163 L164 X165 q166
        obtain ⟨rfl, N167, e168⟩ := q166
        have N169 := Fr.app N159 N167
        show OGoal p e below s _ _ _ (T163.setTop (mkF m 104 #[.val (.int p1), .val (.int p2), .val (.int p3), .val (.int p4), .val (.int p5), .val (.int u8), .val (.ref a19), .val (.int r), .val (.double (own_D ((own_k p1 p2 p3 p4) r.toNatClampNeg))), .second] [(.int (1 : Int32))]))
        have hd170 : ¬ ((1 : Int32) = 0) := mNe (by omega)
        refine OGoal.mp (S' := (T163.setTop (mkF m 107 #[.val (.int p1), .val (.int p2), .val (.int p3), .val (.int p4), .val (.int p5), .val (.int u8), .val (.ref a19), .val (.int r), .val (.double (own_D ((own_k p1 p2 p3 p4) r.toNatClampNeg))), .second] []))) (fun _ k => XS.ifNo X165.here hx rfl (hb hby at_104) rfl (XT.i0_eq_f hd170) k) ?_
        refine OGoal.mp (S' := (T163.setTop (mkF m 109 #[.val (.int p1), .val (.int p2), .val (.int p3), .val (.int p4), .val (.int p5), .val (.int u8), .val (.ref a19), .val (.int r), .val (.double (own_D ((own_k p1 p2 p3 p4) r.toNatClampNeg))), .second] [(.ref a19)]))) (fun _ k => XS.aload X165.here hx rfl (hb hby at_107) rfl rfl k) ?_
        refine OGoal.mp (S' := (T163.setTop (mkF m 111 #[.val (.int p1), .val (.int p2), .val (.int p3), .val (.int p4), .val (.int p5), .val (.int u8), .val (.ref a19), .val (.int r), .val (.double (own_D ((own_k p1 p2 p3 p4) r.toNatClampNeg))), .second] [(.int u8), (.ref a19)]))) (fun _ k => XS.iload X165.here hx rfl (hb hby at_109) rfl k) ?_
        refine OGoal.mp (S' := (T163.setTop (mkF m 112 #[.val (.int p1), .val (.int p2), .val (.int p3), .val (.int p4), .val (.int p5), .val (.int u8), .val (.ref a19), .val (.int r), .val (.double (own_D ((own_k p1 p2 p3 p4) r.toNatClampNeg))), .second] [(.int (1 : Int32)), (.int u8), (.ref a19)]))) (fun _ k => XS.iconst X165.here hx rfl (hb hby at_111) k) ?_
        refine OGoal.mp (S' := (T163.setTop (mkF m 114 #[.val (.int p1), .val (.int p2), .val (.int p3), .val (.int p4), .val (.int p5), .val (.int u8), .val (.ref a19), .val (.int r), .val (.double (own_D ((own_k p1 p2 p3 p4) r.toNatClampNeg))), .second] [(.int r), (.int (1 : Int32)), (.int u8), (.ref a19)]))) (fun _ k => XS.iload X165.here hx rfl (hb hby at_112) rfl k) ?_
        refine OGoal.mp (S' := (T163.setTop (mkF m 116 #[.val (.int p1), .val (.int p2), .val (.int p3), .val (.int p4), .val (.int p5), .val (.int u8), .val (.ref a19), .val (.int r), .val (.double (own_D ((own_k p1 p2 p3 p4) r.toNatClampNeg))), .second] [(.double (own_D ((own_k p1 p2 p3 p4) r.toNatClampNeg))), (.int r), (.int (1 : Int32)), (.int u8), (.ref a19)]))) (fun _ k => XS.dload X165.here hx rfl (hb hby at_114) rfl k) ?_
        refine oCallS (y := (⟨"com/example/andesite/andesite/model/LossesPredictedPinLaw", "ok", "([DIIID)Z"⟩ : MethodName)) X165 hx hZ hown (hw _ (List.mem_of_getElem? (i := 10) rfl)) (hw _ (List.mem_of_getElem? (i := 11) rfl)) (hw _ (List.mem_of_getElem? (i := 3) rfl)) (hw _ (List.mem_of_getElem? (i := 12) rfl)) (by decide) (rmK1 l Z a0 hw a19 u8 r ((own_k p1 p2 p3 p4) r.toNatClampNeg) h77 n0 Z82 _ (own_k p1 p2 p3 p4) F80 hf151 (own_k15 _ _ _ _) (own_k15 _ _ _ _ _) (fun q1 q2 => by have := oLt q2; exact (hrj 1).1 (by omega)) (fun q1 q2 => by have := oLt q1; have := oNlt q2; exact (hrj 1).2 (by omega) (by omega))) e168 [(.ref a19), (.int u8), (.int (1 : Int32)), (.int r), (.double (own_D ((own_k p1 p2 p3 p4) r.toNatClampNeg)))] [] rfl rfl (by rw [hml]; rfl) (lenOf own_pd___DIIID_Z rfl) 0 (Nat.le_of_eq rfl) (by decide) (by decide) (by decide) (by decide) (hb hby at_116) ?_
        intro v171 T172 L173 X174 q175
        obtain ⟨rfl, N176, e177⟩ := q175
        have N178 := Fr.app N169 N176
        show OGoal p e below s _ _ _ (T172.setTop (mkF m 119 #[.val (.int p1), .val (.int p2), .val (.int p3), .val (.int p4), .val (.int p5), .val (.int u8), .val (.ref a19), .val (.int r), .val (.double (own_D ((own_k p1 p2 p3 p4) r.toNatClampNeg))), .second] [(.int (1 : Int32))]))
        have hd179 : ¬ ((1 : Int32) = 0) := mNe (by omega)
        refine OGoal.mp (S' := (T172.setTop (mkF m 122 #[.val (.int p1), .val (.int p2), .val (.int p3), .val (.int p4), .val (.int p5), .val (.int u8), .val (.ref a19), .val (.int r), .val (.double (own_D ((own_k p1 p2 p3 p4) r.toNatClampNeg))), .second] []))) (fun _ k => XS.ifNo X174.here hx rfl (hb hby at_119) rfl (XT.i0_eq_f hd179) k) ?_
        refine OGoal.mp (S' := (T172.setTop (mkF m 124 #[.val (.int p1), .val (.int p2), .val (.int p3), .val (.int p4), .val (.int p5), .val (.int u8), .val (.ref a19), .val (.int r), .val (.double (own_D ((own_k p1 p2 p3 p4) r.toNatClampNeg))), .second] [(.ref a19)]))) (fun _ k => XS.aload X174.here hx rfl (hb hby at_122) rfl rfl k) ?_
        refine OGoal.mp (S' := (T172.setTop (mkF m 126 #[.val (.int p1), .val (.int p2), .val (.int p3), .val (.int p4), .val (.int p5), .val (.int u8), .val (.ref a19), .val (.int r), .val (.double (own_D ((own_k p1 p2 p3 p4) r.toNatClampNeg))), .second] [(.int u8), (.ref a19)]))) (fun _ k => XS.iload X174.here hx rfl (hb hby at_124) rfl k) ?_
        refine OGoal.mp (S' := (T172.setTop (mkF m 127 #[.val (.int p1), .val (.int p2), .val (.int p3), .val (.int p4), .val (.int p5), .val (.int u8), .val (.ref a19), .val (.int r), .val (.double (own_D ((own_k p1 p2 p3 p4) r.toNatClampNeg))), .second] [(.int (2 : Int32)), (.int u8), (.ref a19)]))) (fun _ k => XS.iconst X174.here hx rfl (hb hby at_126) k) ?_
        refine OGoal.mp (S' := (T172.setTop (mkF m 129 #[.val (.int p1), .val (.int p2), .val (.int p3), .val (.int p4), .val (.int p5), .val (.int u8), .val (.ref a19), .val (.int r), .val (.double (own_D ((own_k p1 p2 p3 p4) r.toNatClampNeg))), .second] [(.int r), (.int (2 : Int32)), (.int u8), (.ref a19)]))) (fun _ k => XS.iload X174.here hx rfl (hb hby at_127) rfl k) ?_
        refine OGoal.mp (S' := (T172.setTop (mkF m 131 #[.val (.int p1), .val (.int p2), .val (.int p3), .val (.int p4), .val (.int p5), .val (.int u8), .val (.ref a19), .val (.int r), .val (.double (own_D ((own_k p1 p2 p3 p4) r.toNatClampNeg))), .second] [(.double (own_D ((own_k p1 p2 p3 p4) r.toNatClampNeg))), (.int r), (.int (2 : Int32)), (.int u8), (.ref a19)]))) (fun _ k => XS.dload X174.here hx rfl (hb hby at_129) rfl k) ?_
        refine oCallS (y := (⟨"com/example/andesite/andesite/model/LossesPredictedPinLaw", "ok", "([DIIID)Z"⟩ : MethodName)) X174 hx hZ hown (hw _ (List.mem_of_getElem? (i := 10) rfl)) (hw _ (List.mem_of_getElem? (i := 11) rfl)) (hw _ (List.mem_of_getElem? (i := 3) rfl)) (hw _ (List.mem_of_getElem? (i := 12) rfl)) (by decide) (rmK2 l Z a0 hw a19 u8 r ((own_k p1 p2 p3 p4) r.toNatClampNeg) h77 n0 Z82 _ (own_k p1 p2 p3 p4) F80 hf151 (own_k15 _ _ _ _) (own_k15 _ _ _ _ _) (fun q1 q2 => by have := oLt q2; exact (hrj 2).1 (by omega)) (fun q1 q2 => by have := oLt q1; have := oNlt q2; exact (hrj 2).2 (by omega) (by omega))) e177 [(.ref a19), (.int u8), (.int (2 : Int32)), (.int r), (.double (own_D ((own_k p1 p2 p3 p4) r.toNatClampNeg)))] [] rfl rfl (by rw [hml]; rfl) (lenOf own_pd___DIIID_Z rfl) 0 (Nat.le_of_eq rfl) (by decide) (by decide) (by decide) (by decide) (hb hby at_131) ?_
        intro v180 T181 L182 X183 q184
        obtain ⟨rfl, N185, e186⟩ := q184
        have N187 := Fr.app N178 N185
        show OGoal p e below s _ _ _ (T181.setTop (mkF m 134 #[.val (.int p1), .val (.int p2), .val (.int p3), .val (.int p4), .val (.int p5), .val (.int u8), .val (.ref a19), .val (.int r), .val (.double (own_D ((own_k p1 p2 p3 p4) r.toNatClampNeg))), .second] [(.int (1 : Int32))]))
        have hd188 : ¬ ((1 : Int32) = 0) := mNe (by omega)
        refine OGoal.mp (S' := (T181.setTop (mkF m 137 #[.val (.int p1), .val (.int p2), .val (.int p3), .val (.int p4), .val (.int p5), .val (.int u8), .val (.ref a19), .val (.int r), .val (.double (own_D ((own_k p1 p2 p3 p4) r.toNatClampNeg))), .second] []))) (fun _ k => XS.ifNo X183.here hx rfl (hb hby at_134) rfl (XT.i0_eq_f hd188) k) ?_
        refine OGoal.mp (S' := (T181.setTop (mkF m 139 #[.val (.int p1), .val (.int p2), .val (.int p3), .val (.int p4), .val (.int p5), .val (.int u8), .val (.ref a19), .val (.int r), .val (.double (own_D ((own_k p1 p2 p3 p4) r.toNatClampNeg))), .second] [(.ref a19)]))) (fun _ k => XS.aload X183.here hx rfl (hb hby at_137) rfl rfl k) ?_
        refine OGoal.mp (S' := (T181.setTop (mkF m 141 #[.val (.int p1), .val (.int p2), .val (.int p3), .val (.int p4), .val (.int p5), .val (.int u8), .val (.ref a19), .val (.int r), .val (.double (own_D ((own_k p1 p2 p3 p4) r.toNatClampNeg))), .second] [(.int u8), (.ref a19)]))) (fun _ k => XS.iload X183.here hx rfl (hb hby at_139) rfl k) ?_
        refine OGoal.mp (S' := (T181.setTop (mkF m 142 #[.val (.int p1), .val (.int p2), .val (.int p3), .val (.int p4), .val (.int p5), .val (.int u8), .val (.ref a19), .val (.int r), .val (.double (own_D ((own_k p1 p2 p3 p4) r.toNatClampNeg))), .second] [(.int (3 : Int32)), (.int u8), (.ref a19)]))) (fun _ k => XS.iconst X183.here hx rfl (hb hby at_141) k) ?_
        refine OGoal.mp (S' := (T181.setTop (mkF m 144 #[.val (.int p1), .val (.int p2), .val (.int p3), .val (.int p4), .val (.int p5), .val (.int u8), .val (.ref a19), .val (.int r), .val (.double (own_D ((own_k p1 p2 p3 p4) r.toNatClampNeg))), .second] [(.int r), (.int (3 : Int32)), (.int u8), (.ref a19)]))) (fun _ k => XS.iload X183.here hx rfl (hb hby at_142) rfl k) ?_
        refine OGoal.mp (S' := (T181.setTop (mkF m 146 #[.val (.int p1), .val (.int p2), .val (.int p3), .val (.int p4), .val (.int p5), .val (.int u8), .val (.ref a19), .val (.int r), .val (.double (own_D ((own_k p1 p2 p3 p4) r.toNatClampNeg))), .second] [(.double (own_D ((own_k p1 p2 p3 p4) r.toNatClampNeg))), (.int r), (.int (3 : Int32)), (.int u8), (.ref a19)]))) (fun _ k => XS.dload X183.here hx rfl (hb hby at_144) rfl k) ?_
        refine oCallS (y := (⟨"com/example/andesite/andesite/model/LossesPredictedPinLaw", "ok", "([DIIID)Z"⟩ : MethodName)) X183 hx hZ hown (hw _ (List.mem_of_getElem? (i := 10) rfl)) (hw _ (List.mem_of_getElem? (i := 11) rfl)) (hw _ (List.mem_of_getElem? (i := 3) rfl)) (hw _ (List.mem_of_getElem? (i := 12) rfl)) (by decide) (rmK3 l Z a0 hw a19 u8 r ((own_k p1 p2 p3 p4) r.toNatClampNeg) h77 n0 Z82 _ (own_k p1 p2 p3 p4) F80 hf151 (own_k15 _ _ _ _) (own_k15 _ _ _ _ _) (fun q1 q2 => by have := oLt q2; exact (hrj 3).1 (by omega)) (fun q1 q2 => by have := oLt q1; have := oNlt q2; exact (hrj 3).2 (by omega) (by omega))) e186 [(.ref a19), (.int u8), (.int (3 : Int32)), (.int r), (.double (own_D ((own_k p1 p2 p3 p4) r.toNatClampNeg)))] [] rfl rfl (by rw [hml]; rfl) (lenOf own_pd___DIIID_Z rfl) 0 (Nat.le_of_eq rfl) (by decide) (by decide) (by decide) (by decide) (hb hby at_146) ?_
        intro v189 T190 L191 X192 q193
        obtain ⟨rfl, N194, e195⟩ := q193
        have N196 := Fr.app N187 N194
        show OGoal p e below s _ _ _ (T190.setTop (mkF m 149 #[.val (.int p1), .val (.int p2), .val (.int p3), .val (.int p4), .val (.int p5), .val (.int u8), .val (.ref a19), .val (.int r), .val (.double (own_D ((own_k p1 p2 p3 p4) r.toNatClampNeg))), .second] [(.int (1 : Int32))]))
        have hd197 : ¬ ((1 : Int32) = 0) := mNe (by omega)
        refine OGoal.mp (S' := (T190.setTop (mkF m 152 #[.val (.int p1), .val (.int p2), .val (.int p3), .val (.int p4), .val (.int p5), .val (.int u8), .val (.ref a19), .val (.int r), .val (.double (own_D ((own_k p1 p2 p3 p4) r.toNatClampNeg))), .second] []))) (fun _ k => XS.ifNo X192.here hx rfl (hb hby at_149) rfl (XT.i0_eq_f hd197) k) ?_
        refine OGoal.mp (S' := (T190.setTop (mkF m 153 #[.val (.int p1), .val (.int p2), .val (.int p3), .val (.int p4), .val (.int p5), .val (.int u8), .val (.ref a19), .val (.int r), .val (.double (own_D ((own_k p1 p2 p3 p4) r.toNatClampNeg))), .second] [(.int (1 : Int32))]))) (fun _ k => XS.iconst X192.here hx rfl (hb hby at_152) k) ?_
        refine OGoal.mp (S' := (T190.setTop (mkF m 157 #[.val (.int p1), .val (.int p2), .val (.int p3), .val (.int p4), .val (.int p5), .val (.int u8), .val (.ref a19), .val (.int r), .val (.double (own_D ((own_k p1 p2 p3 p4) r.toNatClampNeg))), .second] [(.int (1 : Int32))]))) (fun _ k => XS.goto X192.here hx rfl (pc0 := 153) (pc' := 157) rfl (hb hby at_153) (by decide) (by decide) k) ?_
        refine oRetZ X192 hx hlk hret (Or.inr rfl) (hb hby at_157) ?_ (by decide) (by decide)
        exact ⟨rfl, N196⟩
    · have g198 := oNlt hc63
      refine OGoal.mp (S' := (T53.setTop (mkF m 50 #[.val (.int p1), .val (.int p2), .val (.int p3), .val (.int p4), .val (.int p5), .val (.int u8), .val (.ref a19), .unset, .unset, .unset] []))) (fun _ k => XS.icmpYes X54.here hx rfl (pc0 := 39) (pc' := 50) rfl (hb hby at_39) rfl (XT.ii_le_t hc63) (by decide) (by decide) k) ?_
      refine OGoal.mp (S' := (T53.setTop (mkF m 52 #[.val (.int p1), .val (.int p2), .val (.int p3), .val (.int p4), .val (.int p5), .val (.int u8), .val (.ref a19), .unset, .unset, .unset] [(.int u8)]))) (fun _ k => XS.iload X54.here hx rfl (hb hby at_50) rfl k) ?_
      refine OGoal.mp (S' := (T53.setTop (mkF m 53 #[.val (.int p1), .val (.int p2), .val (.int p3), .val (.int p4), .val (.int p5), .val (.int u8), .val (.ref a19), .unset, .unset, .unset] [(.int (3 : Int32)), (.int u8)]))) (fun _ k => XS.iconst X54.here hx rfl (hb hby at_52) k) ?_
      have hd199 : ¬ ((3 : Int32) < u8) := mNlt (by omega)
      refine OGoal.mp (S' := (T53.setTop (mkF m 64 #[.val (.int p1), .val (.int p2), .val (.int p3), .val (.int p4), .val (.int p5), .val (.int u8), .val (.ref a19), .unset, .unset, .unset] []))) (fun _ k => XS.icmpYes X54.here hx rfl (pc0 := 53) (pc' := 64) rfl (hb hby at_53) rfl (XT.ii_le_t hd199) (by decide) (by decide) k) ?_
      have hlen : u8.toInt = 2 := by omega
      have hf200 : ∀ i, i < (u8).toNatClampNeg → (fun i => if i = ((1 : Int32)).toNatClampNeg then (.double (own_D (p2 &&& (15 : Int32)))) else (fun i => if i = ((0 : Int32)).toNatClampNeg then (.double (own_D (p1 &&& (15 : Int32)))) else (fun _ => .double 0 : Nat → Value) i : Nat → Value) i : Nat → Value) i = .double (own_D ((own_k p1 p2 p3 p4) i)) := by
        intro i hi
        have hi2 : i < 2 := by have e : (u8).toNatClampNeg = (u8).toInt.toNat := rfl; rw [e, hlen] at hi; exact hi
        match i, hi2 with
        | 0, _ => rfl
        | 1, _ => rfl
      refine OGoal.mp (S' := (T53.setTop (mkF m 66 #[.val (.int p1), .val (.int p2), .val (.int p3), .val (.int p4), .val (.int p5), .val (.int u8), .val (.ref a19), .unset, .unset, .unset] [(.ref a19)]))) (fun _ k => XS.aload X54.here hx rfl (hb hby at_64) rfl rfl k) ?_
      refine oCallS (y := (⟨"com/example/andesite/andesite/model/Losses", "predicted", "([D)I"⟩ : MethodName)) X54 hx hZ hown (hw _ (List.mem_of_getElem? (i := 6) rfl)) (hw _ (List.mem_of_getElem? (i := 7) rfl)) (hw _ (List.mem_of_getElem? (i := 8) rfl)) (hw _ (List.mem_of_getElem? (i := 9) rfl)) (by decide) (rmP l Z a0 hw a19 h57 n0 Z62 u8 _ (own_k p1 p2 p3 p4) F60 hf200 (own_k15 _ _ _ _) (by omega)) e55 [(.ref a19)] [] rfl rfl (by rw [hml]; rfl) (lenOf own_pd___D_I rfl) 0 (Nat.le_of_eq rfl) (by decide) (by decide) (by decide) (by decide) (hb hby at_66) ?_
      intro v201 T202 L203 X204 q205
      obtain ⟨r, rfl, N206, e207, hr0, hr1, hrj⟩ := q205
      have N208 := Fr.app N59 N206
      have er : r.toNatClampNeg = r.toInt.toNat := rfl
      show OGoal p e below s _ _ _ (T202.setTop (mkF m 69 #[.val (.int p1), .val (.int p2), .val (.int p3), .val (.int p4), .val (.int p5), .val (.int u8), .val (.ref a19), .unset, .unset, .unset] [(.int r)]))
      refine OGoal.mp (S' := (T202.setTop (mkF m 71 #[.val (.int p1), .val (.int p2), .val (.int p3), .val (.int p4), .val (.int p5), .val (.int u8), .val (.ref a19), .val (.int r), .unset, .unset] []))) (fun _ k => XS.istore X204.here hx rfl (hb hby at_69) rfl (l' := #[.val (.int p1), .val (.int p2), .val (.int p3), .val (.int p4), .val (.int p5), .val (.int u8), .val (.ref a19), .val (.int r), .unset, .unset]) rfl k) ?_
      refine OGoal.mp (S' := (T202.setTop (mkF m 73 #[.val (.int p1), .val (.int p2), .val (.int p3), .val (.int p4), .val (.int p5), .val (.int u8), .val (.ref a19), .val (.int r), .unset, .unset] [(.int r)]))) (fun _ k => XS.iload X204.here hx rfl (hb hby at_71) rfl k) ?_
      have hd209 : ¬ (r < 0) := mNlt (by omega)
      refine OGoal.mp (S' := (T202.setTop (mkF m 76 #[.val (.int p1), .val (.int p2), .val (.int p3), .val (.int p4), .val (.int p5), .val (.int u8), .val (.ref a19), .val (.int r), .unset, .unset] []))) (fun _ k => XS.ifNo X204.here hx rfl (hb hby at_73) rfl (XT.i0_lt_f hd209) k) ?_
      refine OGoal.mp (S' := (T202.setTop (mkF m 78 #[.val (.int p1), .val (.int p2), .val (.int p3), .val (.int p4), .val (.int p5), .val (.int u8), .val (.ref a19), .val (.int r), .unset, .unset] [(.int r)]))) (fun _ k => XS.iload X204.here hx rfl (hb hby at_76) rfl k) ?_
      refine OGoal.mp (S' := (T202.setTop (mkF m 80 #[.val (.int p1), .val (.int p2), .val (.int p3), .val (.int p4), .val (.int p5), .val (.int u8), .val (.ref a19), .val (.int r), .unset, .unset] [(.int u8), (.int r)]))) (fun _ k => XS.iload X204.here hx rfl (hb hby at_78) rfl k) ?_
      have hd210 : r < u8 := mLt (by omega)
      refine OGoal.mp (S' := (T202.setTop (mkF m 85 #[.val (.int p1), .val (.int p2), .val (.int p3), .val (.int p4), .val (.int p5), .val (.int u8), .val (.ref a19), .val (.int r), .unset, .unset] []))) (fun _ k => XS.icmpYes X204.here hx rfl (pc0 := 80) (pc' := 85) rfl (hb hby at_80) rfl (XT.ii_lt_t hd210) (by decide) (by decide) k) ?_
      refine OGoal.mp (S' := (T202.setTop (mkF m 87 #[.val (.int p1), .val (.int p2), .val (.int p3), .val (.int p4), .val (.int p5), .val (.int u8), .val (.ref a19), .val (.int r), .unset, .unset] [(.ref a19)]))) (fun _ k => XS.aload X204.here hx rfl (hb hby at_85) rfl rfl k) ?_
      refine OGoal.mp (S' := (T202.setTop (mkF m 89 #[.val (.int p1), .val (.int p2), .val (.int p3), .val (.int p4), .val (.int p5), .val (.int u8), .val (.ref a19), .val (.int r), .unset, .unset] [(.int r), (.ref a19)]))) (fun _ k => XS.iload X204.here hx rfl (hb hby at_87) rfl k) ?_
      refine OGoal.mp (S' := (T202.setTop (mkF m 90 #[.val (.int p1), .val (.int p2), .val (.int p3), .val (.int p4), .val (.int p5), .val (.int u8), .val (.ref a19), .val (.int r), .unset, .unset] [(.double (own_D ((own_k p1 p2 p3 p4) r.toNatClampNeg)))]))) (fun _ k => oLdD X204 hx hZ e207 F60 (by omega) (by omega) (hf200 _ (by show r.toInt.toNat < u8.toInt.toNat; omega)) (g := mkF m 89 #[.val (.int p1), .val (.int p2), .val (.int p3), .val (.int p4), .val (.int p5), .val (.int u8), .val (.ref a19), .val (.int r), .unset, .unset] [(.int r), (.ref a19)]) rfl rfl (hb hby at_89) k) ?_
      refine OGoal.mp (S' := (T202.setTop (mkF m 92 #[.val (.int p1), .val (.int p2), .val (.int p3), .val (.int p4), .val (.int p5), .val (.int u8), .val (.ref a19), .val (.int r), .val (.double (own_D ((own_k p1 p2 p3 p4) r.toNatClampNeg))), .second] []))) (fun _ k => XS.dstore X204.here hx rfl (hb hby at_90) rfl (l' := #[.val (.int p1), .val (.int p2), .val (.int p3), .val (.int p4), .val (.int p5), .val (.int u8), .val (.ref a19), .val (.int r), .val (.double (own_D ((own_k p1 p2 p3 p4) r.toNatClampNeg))), .second]) rfl k) ?_
      refine OGoal.mp (S' := (T202.setTop (mkF m 94 #[.val (.int p1), .val (.int p2), .val (.int p3), .val (.int p4), .val (.int p5), .val (.int u8), .val (.ref a19), .val (.int r), .val (.double (own_D ((own_k p1 p2 p3 p4) r.toNatClampNeg))), .second] [(.ref a19)]))) (fun _ k => XS.aload X204.here hx rfl (hb hby at_92) rfl rfl k) ?_
      refine OGoal.mp (S' := (T202.setTop (mkF m 96 #[.val (.int p1), .val (.int p2), .val (.int p3), .val (.int p4), .val (.int p5), .val (.int u8), .val (.ref a19), .val (.int r), .val (.double (own_D ((own_k p1 p2 p3 p4) r.toNatClampNeg))), .second] [(.int u8), (.ref a19)]))) (fun _ k => XS.iload X204.here hx rfl (hb hby at_94) rfl k) ?_
      refine OGoal.mp (S' := (T202.setTop (mkF m 97 #[.val (.int p1), .val (.int p2), .val (.int p3), .val (.int p4), .val (.int p5), .val (.int u8), .val (.ref a19), .val (.int r), .val (.double (own_D ((own_k p1 p2 p3 p4) r.toNatClampNeg))), .second] [(.int (0 : Int32)), (.int u8), (.ref a19)]))) (fun _ k => XS.iconst X204.here hx rfl (hb hby at_96) k) ?_
      refine OGoal.mp (S' := (T202.setTop (mkF m 99 #[.val (.int p1), .val (.int p2), .val (.int p3), .val (.int p4), .val (.int p5), .val (.int u8), .val (.ref a19), .val (.int r), .val (.double (own_D ((own_k p1 p2 p3 p4) r.toNatClampNeg))), .second] [(.int r), (.int (0 : Int32)), (.int u8), (.ref a19)]))) (fun _ k => XS.iload X204.here hx rfl (hb hby at_97) rfl k) ?_
      refine OGoal.mp (S' := (T202.setTop (mkF m 101 #[.val (.int p1), .val (.int p2), .val (.int p3), .val (.int p4), .val (.int p5), .val (.int u8), .val (.ref a19), .val (.int r), .val (.double (own_D ((own_k p1 p2 p3 p4) r.toNatClampNeg))), .second] [(.double (own_D ((own_k p1 p2 p3 p4) r.toNatClampNeg))), (.int r), (.int (0 : Int32)), (.int u8), (.ref a19)]))) (fun _ k => XS.dload X204.here hx rfl (hb hby at_99) rfl k) ?_
      refine oCallS (y := (⟨"com/example/andesite/andesite/model/LossesPredictedPinLaw", "ok", "([DIIID)Z"⟩ : MethodName)) X204 hx hZ hown (hw _ (List.mem_of_getElem? (i := 10) rfl)) (hw _ (List.mem_of_getElem? (i := 11) rfl)) (hw _ (List.mem_of_getElem? (i := 3) rfl)) (hw _ (List.mem_of_getElem? (i := 12) rfl)) (by decide) (rmK0 l Z a0 hw a19 u8 r ((own_k p1 p2 p3 p4) r.toNatClampNeg) h57 n0 Z62 _ (own_k p1 p2 p3 p4) F60 hf200 (own_k15 _ _ _ _) (own_k15 _ _ _ _ _) (fun q1 q2 => by have := oLt q2; exact (hrj 0).1 (by omega)) (fun q1 q2 => by have := oLt q1; have := oNlt q2; exact (hrj 0).2 (by omega) (by omega))) e207 [(.ref a19), (.int u8), (.int (0 : Int32)), (.int r), (.double (own_D ((own_k p1 p2 p3 p4) r.toNatClampNeg)))] [] rfl rfl (by rw [hml]; rfl) (lenOf own_pd___DIIID_Z rfl) 0 (Nat.le_of_eq rfl) (by decide) (by decide) (by decide) (by decide) (hb hby at_101) ?_
      intro v211 T212 L213 X214 q215
      obtain ⟨rfl, N216, e217⟩ := q215
      have N218 := Fr.app N208 N216
      show OGoal p e below s _ _ _ (T212.setTop (mkF m 104 #[.val (.int p1), .val (.int p2), .val (.int p3), .val (.int p4), .val (.int p5), .val (.int u8), .val (.ref a19), .val (.int r), .val (.double (own_D ((own_k p1 p2 p3 p4) r.toNatClampNeg))), .second] [(.int (1 : Int32))]))
      have hd219 : ¬ ((1 : Int32) = 0) := mNe (by omega)
      refine OGoal.mp (S' := (T212.setTop (mkF m 107 #[.val (.int p1), .val (.int p2), .val (.int p3), .val (.int p4), .val (.int p5), .val (.int u8), .val (.ref a19), .val (.int r), .val (.double (own_D ((own_k p1 p2 p3 p4) r.toNatClampNeg))), .second] []))) (fun _ k => XS.ifNo X214.here hx rfl (hb hby at_104) rfl (XT.i0_eq_f hd219) k) ?_
      refine OGoal.mp (S' := (T212.setTop (mkF m 109 #[.val (.int p1), .val (.int p2), .val (.int p3), .val (.int p4), .val (.int p5), .val (.int u8), .val (.ref a19), .val (.int r), .val (.double (own_D ((own_k p1 p2 p3 p4) r.toNatClampNeg))), .second] [(.ref a19)]))) (fun _ k => XS.aload X214.here hx rfl (hb hby at_107) rfl rfl k) ?_
      refine OGoal.mp (S' := (T212.setTop (mkF m 111 #[.val (.int p1), .val (.int p2), .val (.int p3), .val (.int p4), .val (.int p5), .val (.int u8), .val (.ref a19), .val (.int r), .val (.double (own_D ((own_k p1 p2 p3 p4) r.toNatClampNeg))), .second] [(.int u8), (.ref a19)]))) (fun _ k => XS.iload X214.here hx rfl (hb hby at_109) rfl k) ?_
      refine OGoal.mp (S' := (T212.setTop (mkF m 112 #[.val (.int p1), .val (.int p2), .val (.int p3), .val (.int p4), .val (.int p5), .val (.int u8), .val (.ref a19), .val (.int r), .val (.double (own_D ((own_k p1 p2 p3 p4) r.toNatClampNeg))), .second] [(.int (1 : Int32)), (.int u8), (.ref a19)]))) (fun _ k => XS.iconst X214.here hx rfl (hb hby at_111) k) ?_
      refine OGoal.mp (S' := (T212.setTop (mkF m 114 #[.val (.int p1), .val (.int p2), .val (.int p3), .val (.int p4), .val (.int p5), .val (.int u8), .val (.ref a19), .val (.int r), .val (.double (own_D ((own_k p1 p2 p3 p4) r.toNatClampNeg))), .second] [(.int r), (.int (1 : Int32)), (.int u8), (.ref a19)]))) (fun _ k => XS.iload X214.here hx rfl (hb hby at_112) rfl k) ?_
      refine OGoal.mp (S' := (T212.setTop (mkF m 116 #[.val (.int p1), .val (.int p2), .val (.int p3), .val (.int p4), .val (.int p5), .val (.int u8), .val (.ref a19), .val (.int r), .val (.double (own_D ((own_k p1 p2 p3 p4) r.toNatClampNeg))), .second] [(.double (own_D ((own_k p1 p2 p3 p4) r.toNatClampNeg))), (.int r), (.int (1 : Int32)), (.int u8), (.ref a19)]))) (fun _ k => XS.dload X214.here hx rfl (hb hby at_114) rfl k) ?_
      refine oCallS (y := (⟨"com/example/andesite/andesite/model/LossesPredictedPinLaw", "ok", "([DIIID)Z"⟩ : MethodName)) X214 hx hZ hown (hw _ (List.mem_of_getElem? (i := 10) rfl)) (hw _ (List.mem_of_getElem? (i := 11) rfl)) (hw _ (List.mem_of_getElem? (i := 3) rfl)) (hw _ (List.mem_of_getElem? (i := 12) rfl)) (by decide) (rmK1 l Z a0 hw a19 u8 r ((own_k p1 p2 p3 p4) r.toNatClampNeg) h57 n0 Z62 _ (own_k p1 p2 p3 p4) F60 hf200 (own_k15 _ _ _ _) (own_k15 _ _ _ _ _) (fun q1 q2 => by have := oLt q2; exact (hrj 1).1 (by omega)) (fun q1 q2 => by have := oLt q1; have := oNlt q2; exact (hrj 1).2 (by omega) (by omega))) e217 [(.ref a19), (.int u8), (.int (1 : Int32)), (.int r), (.double (own_D ((own_k p1 p2 p3 p4) r.toNatClampNeg)))] [] rfl rfl (by rw [hml]; rfl) (lenOf own_pd___DIIID_Z rfl) 0 (Nat.le_of_eq rfl) (by decide) (by decide) (by decide) (by decide) (hb hby at_116) ?_
      intro v220 T221 L222 X223 q224
      obtain ⟨rfl, N225, e226⟩ := q224
      have N227 := Fr.app N218 N225
      show OGoal p e below s _ _ _ (T221.setTop (mkF m 119 #[.val (.int p1), .val (.int p2), .val (.int p3), .val (.int p4), .val (.int p5), .val (.int u8), .val (.ref a19), .val (.int r), .val (.double (own_D ((own_k p1 p2 p3 p4) r.toNatClampNeg))), .second] [(.int (1 : Int32))]))
      have hd228 : ¬ ((1 : Int32) = 0) := mNe (by omega)
      refine OGoal.mp (S' := (T221.setTop (mkF m 122 #[.val (.int p1), .val (.int p2), .val (.int p3), .val (.int p4), .val (.int p5), .val (.int u8), .val (.ref a19), .val (.int r), .val (.double (own_D ((own_k p1 p2 p3 p4) r.toNatClampNeg))), .second] []))) (fun _ k => XS.ifNo X223.here hx rfl (hb hby at_119) rfl (XT.i0_eq_f hd228) k) ?_
      refine OGoal.mp (S' := (T221.setTop (mkF m 124 #[.val (.int p1), .val (.int p2), .val (.int p3), .val (.int p4), .val (.int p5), .val (.int u8), .val (.ref a19), .val (.int r), .val (.double (own_D ((own_k p1 p2 p3 p4) r.toNatClampNeg))), .second] [(.ref a19)]))) (fun _ k => XS.aload X223.here hx rfl (hb hby at_122) rfl rfl k) ?_
      refine OGoal.mp (S' := (T221.setTop (mkF m 126 #[.val (.int p1), .val (.int p2), .val (.int p3), .val (.int p4), .val (.int p5), .val (.int u8), .val (.ref a19), .val (.int r), .val (.double (own_D ((own_k p1 p2 p3 p4) r.toNatClampNeg))), .second] [(.int u8), (.ref a19)]))) (fun _ k => XS.iload X223.here hx rfl (hb hby at_124) rfl k) ?_
      refine OGoal.mp (S' := (T221.setTop (mkF m 127 #[.val (.int p1), .val (.int p2), .val (.int p3), .val (.int p4), .val (.int p5), .val (.int u8), .val (.ref a19), .val (.int r), .val (.double (own_D ((own_k p1 p2 p3 p4) r.toNatClampNeg))), .second] [(.int (2 : Int32)), (.int u8), (.ref a19)]))) (fun _ k => XS.iconst X223.here hx rfl (hb hby at_126) k) ?_
      refine OGoal.mp (S' := (T221.setTop (mkF m 129 #[.val (.int p1), .val (.int p2), .val (.int p3), .val (.int p4), .val (.int p5), .val (.int u8), .val (.ref a19), .val (.int r), .val (.double (own_D ((own_k p1 p2 p3 p4) r.toNatClampNeg))), .second] [(.int r), (.int (2 : Int32)), (.int u8), (.ref a19)]))) (fun _ k => XS.iload X223.here hx rfl (hb hby at_127) rfl k) ?_
      refine OGoal.mp (S' := (T221.setTop (mkF m 131 #[.val (.int p1), .val (.int p2), .val (.int p3), .val (.int p4), .val (.int p5), .val (.int u8), .val (.ref a19), .val (.int r), .val (.double (own_D ((own_k p1 p2 p3 p4) r.toNatClampNeg))), .second] [(.double (own_D ((own_k p1 p2 p3 p4) r.toNatClampNeg))), (.int r), (.int (2 : Int32)), (.int u8), (.ref a19)]))) (fun _ k => XS.dload X223.here hx rfl (hb hby at_129) rfl k) ?_
      refine oCallS (y := (⟨"com/example/andesite/andesite/model/LossesPredictedPinLaw", "ok", "([DIIID)Z"⟩ : MethodName)) X223 hx hZ hown (hw _ (List.mem_of_getElem? (i := 10) rfl)) (hw _ (List.mem_of_getElem? (i := 11) rfl)) (hw _ (List.mem_of_getElem? (i := 3) rfl)) (hw _ (List.mem_of_getElem? (i := 12) rfl)) (by decide) (rmK2 l Z a0 hw a19 u8 r ((own_k p1 p2 p3 p4) r.toNatClampNeg) h57 n0 Z62 _ (own_k p1 p2 p3 p4) F60 hf200 (own_k15 _ _ _ _) (own_k15 _ _ _ _ _) (fun q1 q2 => by have := oLt q2; exact (hrj 2).1 (by omega)) (fun q1 q2 => by have := oLt q1; have := oNlt q2; exact (hrj 2).2 (by omega) (by omega))) e226 [(.ref a19), (.int u8), (.int (2 : Int32)), (.int r), (.double (own_D ((own_k p1 p2 p3 p4) r.toNatClampNeg)))] [] rfl rfl (by rw [hml]; rfl) (lenOf own_pd___DIIID_Z rfl) 0 (Nat.le_of_eq rfl) (by decide) (by decide) (by decide) (by decide) (hb hby at_131) ?_
      intro v229 T230 L231 X232 q233
      obtain ⟨rfl, N234, e235⟩ := q233
      have N236 := Fr.app N227 N234
      show OGoal p e below s _ _ _ (T230.setTop (mkF m 134 #[.val (.int p1), .val (.int p2), .val (.int p3), .val (.int p4), .val (.int p5), .val (.int u8), .val (.ref a19), .val (.int r), .val (.double (own_D ((own_k p1 p2 p3 p4) r.toNatClampNeg))), .second] [(.int (1 : Int32))]))
      have hd237 : ¬ ((1 : Int32) = 0) := mNe (by omega)
      refine OGoal.mp (S' := (T230.setTop (mkF m 137 #[.val (.int p1), .val (.int p2), .val (.int p3), .val (.int p4), .val (.int p5), .val (.int u8), .val (.ref a19), .val (.int r), .val (.double (own_D ((own_k p1 p2 p3 p4) r.toNatClampNeg))), .second] []))) (fun _ k => XS.ifNo X232.here hx rfl (hb hby at_134) rfl (XT.i0_eq_f hd237) k) ?_
      refine OGoal.mp (S' := (T230.setTop (mkF m 139 #[.val (.int p1), .val (.int p2), .val (.int p3), .val (.int p4), .val (.int p5), .val (.int u8), .val (.ref a19), .val (.int r), .val (.double (own_D ((own_k p1 p2 p3 p4) r.toNatClampNeg))), .second] [(.ref a19)]))) (fun _ k => XS.aload X232.here hx rfl (hb hby at_137) rfl rfl k) ?_
      refine OGoal.mp (S' := (T230.setTop (mkF m 141 #[.val (.int p1), .val (.int p2), .val (.int p3), .val (.int p4), .val (.int p5), .val (.int u8), .val (.ref a19), .val (.int r), .val (.double (own_D ((own_k p1 p2 p3 p4) r.toNatClampNeg))), .second] [(.int u8), (.ref a19)]))) (fun _ k => XS.iload X232.here hx rfl (hb hby at_139) rfl k) ?_
      refine OGoal.mp (S' := (T230.setTop (mkF m 142 #[.val (.int p1), .val (.int p2), .val (.int p3), .val (.int p4), .val (.int p5), .val (.int u8), .val (.ref a19), .val (.int r), .val (.double (own_D ((own_k p1 p2 p3 p4) r.toNatClampNeg))), .second] [(.int (3 : Int32)), (.int u8), (.ref a19)]))) (fun _ k => XS.iconst X232.here hx rfl (hb hby at_141) k) ?_
      refine OGoal.mp (S' := (T230.setTop (mkF m 144 #[.val (.int p1), .val (.int p2), .val (.int p3), .val (.int p4), .val (.int p5), .val (.int u8), .val (.ref a19), .val (.int r), .val (.double (own_D ((own_k p1 p2 p3 p4) r.toNatClampNeg))), .second] [(.int r), (.int (3 : Int32)), (.int u8), (.ref a19)]))) (fun _ k => XS.iload X232.here hx rfl (hb hby at_142) rfl k) ?_
      refine OGoal.mp (S' := (T230.setTop (mkF m 146 #[.val (.int p1), .val (.int p2), .val (.int p3), .val (.int p4), .val (.int p5), .val (.int u8), .val (.ref a19), .val (.int r), .val (.double (own_D ((own_k p1 p2 p3 p4) r.toNatClampNeg))), .second] [(.double (own_D ((own_k p1 p2 p3 p4) r.toNatClampNeg))), (.int r), (.int (3 : Int32)), (.int u8), (.ref a19)]))) (fun _ k => XS.dload X232.here hx rfl (hb hby at_144) rfl k) ?_
      refine oCallS (y := (⟨"com/example/andesite/andesite/model/LossesPredictedPinLaw", "ok", "([DIIID)Z"⟩ : MethodName)) X232 hx hZ hown (hw _ (List.mem_of_getElem? (i := 10) rfl)) (hw _ (List.mem_of_getElem? (i := 11) rfl)) (hw _ (List.mem_of_getElem? (i := 3) rfl)) (hw _ (List.mem_of_getElem? (i := 12) rfl)) (by decide) (rmK3 l Z a0 hw a19 u8 r ((own_k p1 p2 p3 p4) r.toNatClampNeg) h57 n0 Z62 _ (own_k p1 p2 p3 p4) F60 hf200 (own_k15 _ _ _ _) (own_k15 _ _ _ _ _) (fun q1 q2 => by have := oLt q2; exact (hrj 3).1 (by omega)) (fun q1 q2 => by have := oLt q1; have := oNlt q2; exact (hrj 3).2 (by omega) (by omega))) e235 [(.ref a19), (.int u8), (.int (3 : Int32)), (.int r), (.double (own_D ((own_k p1 p2 p3 p4) r.toNatClampNeg)))] [] rfl rfl (by rw [hml]; rfl) (lenOf own_pd___DIIID_Z rfl) 0 (Nat.le_of_eq rfl) (by decide) (by decide) (by decide) (by decide) (hb hby at_146) ?_
      intro v238 T239 L240 X241 q242
      obtain ⟨rfl, N243, e244⟩ := q242
      have N245 := Fr.app N236 N243
      show OGoal p e below s _ _ _ (T239.setTop (mkF m 149 #[.val (.int p1), .val (.int p2), .val (.int p3), .val (.int p4), .val (.int p5), .val (.int u8), .val (.ref a19), .val (.int r), .val (.double (own_D ((own_k p1 p2 p3 p4) r.toNatClampNeg))), .second] [(.int (1 : Int32))]))
      have hd246 : ¬ ((1 : Int32) = 0) := mNe (by omega)
      refine OGoal.mp (S' := (T239.setTop (mkF m 152 #[.val (.int p1), .val (.int p2), .val (.int p3), .val (.int p4), .val (.int p5), .val (.int u8), .val (.ref a19), .val (.int r), .val (.double (own_D ((own_k p1 p2 p3 p4) r.toNatClampNeg))), .second] []))) (fun _ k => XS.ifNo X241.here hx rfl (hb hby at_149) rfl (XT.i0_eq_f hd246) k) ?_
      refine OGoal.mp (S' := (T239.setTop (mkF m 153 #[.val (.int p1), .val (.int p2), .val (.int p3), .val (.int p4), .val (.int p5), .val (.int u8), .val (.ref a19), .val (.int r), .val (.double (own_D ((own_k p1 p2 p3 p4) r.toNatClampNeg))), .second] [(.int (1 : Int32))]))) (fun _ k => XS.iconst X241.here hx rfl (hb hby at_152) k) ?_
      refine OGoal.mp (S' := (T239.setTop (mkF m 157 #[.val (.int p1), .val (.int p2), .val (.int p3), .val (.int p4), .val (.int p5), .val (.int u8), .val (.ref a19), .val (.int r), .val (.double (own_D ((own_k p1 p2 p3 p4) r.toNatClampNeg))), .second] [(.int (1 : Int32))]))) (fun _ k => XS.goto X241.here hx rfl (pc0 := 153) (pc' := 157) rfl (hb hby at_153) (by decide) (by decide) k) ?_
      refine oRetZ X241 hx hlk hret (Or.inr rfl) (hb hby at_157) ?_ (by decide) (by decide)
      exact ⟨rfl, N245⟩
  · have g247 := oNlt hc43
    refine OGoal.mp (S' := (T33.setTop (mkF m 36 #[.val (.int p1), .val (.int p2), .val (.int p3), .val (.int p4), .val (.int p5), .val (.int u8), .val (.ref a19), .unset, .unset, .unset] []))) (fun _ k => XS.icmpYes X34.here hx rfl (pc0 := 25) (pc' := 36) rfl (hb hby at_25) rfl (XT.ii_le_t hc43) (by decide) (by decide) k) ?_
    refine OGoal.mp (S' := (T33.setTop (mkF m 38 #[.val (.int p1), .val (.int p2), .val (.int p3), .val (.int p4), .val (.int p5), .val (.int u8), .val (.ref a19), .unset, .unset, .unset] [(.int u8)]))) (fun _ k => XS.iload X34.here hx rfl (hb hby at_36) rfl k) ?_
    refine OGoal.mp (S' := (T33.setTop (mkF m 39 #[.val (.int p1), .val (.int p2), .val (.int p3), .val (.int p4), .val (.int p5), .val (.int u8), .val (.ref a19), .unset, .unset, .unset] [(.int (2 : Int32)), (.int u8)]))) (fun _ k => XS.iconst X34.here hx rfl (hb hby at_38) k) ?_
    have hd248 : ¬ ((2 : Int32) < u8) := mNlt (by omega)
    refine OGoal.mp (S' := (T33.setTop (mkF m 50 #[.val (.int p1), .val (.int p2), .val (.int p3), .val (.int p4), .val (.int p5), .val (.int u8), .val (.ref a19), .unset, .unset, .unset] []))) (fun _ k => XS.icmpYes X34.here hx rfl (pc0 := 39) (pc' := 50) rfl (hb hby at_39) rfl (XT.ii_le_t hd248) (by decide) (by decide) k) ?_
    refine OGoal.mp (S' := (T33.setTop (mkF m 52 #[.val (.int p1), .val (.int p2), .val (.int p3), .val (.int p4), .val (.int p5), .val (.int u8), .val (.ref a19), .unset, .unset, .unset] [(.int u8)]))) (fun _ k => XS.iload X34.here hx rfl (hb hby at_50) rfl k) ?_
    refine OGoal.mp (S' := (T33.setTop (mkF m 53 #[.val (.int p1), .val (.int p2), .val (.int p3), .val (.int p4), .val (.int p5), .val (.int u8), .val (.ref a19), .unset, .unset, .unset] [(.int (3 : Int32)), (.int u8)]))) (fun _ k => XS.iconst X34.here hx rfl (hb hby at_52) k) ?_
    have hd249 : ¬ ((3 : Int32) < u8) := mNlt (by omega)
    refine OGoal.mp (S' := (T33.setTop (mkF m 64 #[.val (.int p1), .val (.int p2), .val (.int p3), .val (.int p4), .val (.int p5), .val (.int u8), .val (.ref a19), .unset, .unset, .unset] []))) (fun _ k => XS.icmpYes X34.here hx rfl (pc0 := 53) (pc' := 64) rfl (hb hby at_53) rfl (XT.ii_le_t hd249) (by decide) (by decide) k) ?_
    have hlen : u8.toInt = 1 := by omega
    have hf250 : ∀ i, i < (u8).toNatClampNeg → (fun i => if i = ((0 : Int32)).toNatClampNeg then (.double (own_D (p1 &&& (15 : Int32)))) else (fun _ => .double 0 : Nat → Value) i : Nat → Value) i = .double (own_D ((own_k p1 p2 p3 p4) i)) := by
      intro i hi
      have hi2 : i < 1 := by have e : (u8).toNatClampNeg = (u8).toInt.toNat := rfl; rw [e, hlen] at hi; exact hi
      match i, hi2 with
      | 0, _ => rfl
    refine OGoal.mp (S' := (T33.setTop (mkF m 66 #[.val (.int p1), .val (.int p2), .val (.int p3), .val (.int p4), .val (.int p5), .val (.int u8), .val (.ref a19), .unset, .unset, .unset] [(.ref a19)]))) (fun _ k => XS.aload X34.here hx rfl (hb hby at_64) rfl rfl k) ?_
    refine oCallS (y := (⟨"com/example/andesite/andesite/model/Losses", "predicted", "([D)I"⟩ : MethodName)) X34 hx hZ hown (hw _ (List.mem_of_getElem? (i := 6) rfl)) (hw _ (List.mem_of_getElem? (i := 7) rfl)) (hw _ (List.mem_of_getElem? (i := 8) rfl)) (hw _ (List.mem_of_getElem? (i := 9) rfl)) (by decide) (rmP l Z a0 hw a19 h37 n0 Z42 u8 _ (own_k p1 p2 p3 p4) F40 hf250 (own_k15 _ _ _ _) (by omega)) e35 [(.ref a19)] [] rfl rfl (by rw [hml]; rfl) (lenOf own_pd___D_I rfl) 0 (Nat.le_of_eq rfl) (by decide) (by decide) (by decide) (by decide) (hb hby at_66) ?_
    intro v251 T252 L253 X254 q255
    obtain ⟨r, rfl, N256, e257, hr0, hr1, hrj⟩ := q255
    have N258 := Fr.app N39 N256
    have er : r.toNatClampNeg = r.toInt.toNat := rfl
    show OGoal p e below s _ _ _ (T252.setTop (mkF m 69 #[.val (.int p1), .val (.int p2), .val (.int p3), .val (.int p4), .val (.int p5), .val (.int u8), .val (.ref a19), .unset, .unset, .unset] [(.int r)]))
    refine OGoal.mp (S' := (T252.setTop (mkF m 71 #[.val (.int p1), .val (.int p2), .val (.int p3), .val (.int p4), .val (.int p5), .val (.int u8), .val (.ref a19), .val (.int r), .unset, .unset] []))) (fun _ k => XS.istore X254.here hx rfl (hb hby at_69) rfl (l' := #[.val (.int p1), .val (.int p2), .val (.int p3), .val (.int p4), .val (.int p5), .val (.int u8), .val (.ref a19), .val (.int r), .unset, .unset]) rfl k) ?_
    refine OGoal.mp (S' := (T252.setTop (mkF m 73 #[.val (.int p1), .val (.int p2), .val (.int p3), .val (.int p4), .val (.int p5), .val (.int u8), .val (.ref a19), .val (.int r), .unset, .unset] [(.int r)]))) (fun _ k => XS.iload X254.here hx rfl (hb hby at_71) rfl k) ?_
    have hd259 : ¬ (r < 0) := mNlt (by omega)
    refine OGoal.mp (S' := (T252.setTop (mkF m 76 #[.val (.int p1), .val (.int p2), .val (.int p3), .val (.int p4), .val (.int p5), .val (.int u8), .val (.ref a19), .val (.int r), .unset, .unset] []))) (fun _ k => XS.ifNo X254.here hx rfl (hb hby at_73) rfl (XT.i0_lt_f hd259) k) ?_
    refine OGoal.mp (S' := (T252.setTop (mkF m 78 #[.val (.int p1), .val (.int p2), .val (.int p3), .val (.int p4), .val (.int p5), .val (.int u8), .val (.ref a19), .val (.int r), .unset, .unset] [(.int r)]))) (fun _ k => XS.iload X254.here hx rfl (hb hby at_76) rfl k) ?_
    refine OGoal.mp (S' := (T252.setTop (mkF m 80 #[.val (.int p1), .val (.int p2), .val (.int p3), .val (.int p4), .val (.int p5), .val (.int u8), .val (.ref a19), .val (.int r), .unset, .unset] [(.int u8), (.int r)]))) (fun _ k => XS.iload X254.here hx rfl (hb hby at_78) rfl k) ?_
    have hd260 : r < u8 := mLt (by omega)
    refine OGoal.mp (S' := (T252.setTop (mkF m 85 #[.val (.int p1), .val (.int p2), .val (.int p3), .val (.int p4), .val (.int p5), .val (.int u8), .val (.ref a19), .val (.int r), .unset, .unset] []))) (fun _ k => XS.icmpYes X254.here hx rfl (pc0 := 80) (pc' := 85) rfl (hb hby at_80) rfl (XT.ii_lt_t hd260) (by decide) (by decide) k) ?_
    refine OGoal.mp (S' := (T252.setTop (mkF m 87 #[.val (.int p1), .val (.int p2), .val (.int p3), .val (.int p4), .val (.int p5), .val (.int u8), .val (.ref a19), .val (.int r), .unset, .unset] [(.ref a19)]))) (fun _ k => XS.aload X254.here hx rfl (hb hby at_85) rfl rfl k) ?_
    refine OGoal.mp (S' := (T252.setTop (mkF m 89 #[.val (.int p1), .val (.int p2), .val (.int p3), .val (.int p4), .val (.int p5), .val (.int u8), .val (.ref a19), .val (.int r), .unset, .unset] [(.int r), (.ref a19)]))) (fun _ k => XS.iload X254.here hx rfl (hb hby at_87) rfl k) ?_
    refine OGoal.mp (S' := (T252.setTop (mkF m 90 #[.val (.int p1), .val (.int p2), .val (.int p3), .val (.int p4), .val (.int p5), .val (.int u8), .val (.ref a19), .val (.int r), .unset, .unset] [(.double (own_D ((own_k p1 p2 p3 p4) r.toNatClampNeg)))]))) (fun _ k => oLdD X254 hx hZ e257 F40 (by omega) (by omega) (hf250 _ (by show r.toInt.toNat < u8.toInt.toNat; omega)) (g := mkF m 89 #[.val (.int p1), .val (.int p2), .val (.int p3), .val (.int p4), .val (.int p5), .val (.int u8), .val (.ref a19), .val (.int r), .unset, .unset] [(.int r), (.ref a19)]) rfl rfl (hb hby at_89) k) ?_
    refine OGoal.mp (S' := (T252.setTop (mkF m 92 #[.val (.int p1), .val (.int p2), .val (.int p3), .val (.int p4), .val (.int p5), .val (.int u8), .val (.ref a19), .val (.int r), .val (.double (own_D ((own_k p1 p2 p3 p4) r.toNatClampNeg))), .second] []))) (fun _ k => XS.dstore X254.here hx rfl (hb hby at_90) rfl (l' := #[.val (.int p1), .val (.int p2), .val (.int p3), .val (.int p4), .val (.int p5), .val (.int u8), .val (.ref a19), .val (.int r), .val (.double (own_D ((own_k p1 p2 p3 p4) r.toNatClampNeg))), .second]) rfl k) ?_
    refine OGoal.mp (S' := (T252.setTop (mkF m 94 #[.val (.int p1), .val (.int p2), .val (.int p3), .val (.int p4), .val (.int p5), .val (.int u8), .val (.ref a19), .val (.int r), .val (.double (own_D ((own_k p1 p2 p3 p4) r.toNatClampNeg))), .second] [(.ref a19)]))) (fun _ k => XS.aload X254.here hx rfl (hb hby at_92) rfl rfl k) ?_
    refine OGoal.mp (S' := (T252.setTop (mkF m 96 #[.val (.int p1), .val (.int p2), .val (.int p3), .val (.int p4), .val (.int p5), .val (.int u8), .val (.ref a19), .val (.int r), .val (.double (own_D ((own_k p1 p2 p3 p4) r.toNatClampNeg))), .second] [(.int u8), (.ref a19)]))) (fun _ k => XS.iload X254.here hx rfl (hb hby at_94) rfl k) ?_
    refine OGoal.mp (S' := (T252.setTop (mkF m 97 #[.val (.int p1), .val (.int p2), .val (.int p3), .val (.int p4), .val (.int p5), .val (.int u8), .val (.ref a19), .val (.int r), .val (.double (own_D ((own_k p1 p2 p3 p4) r.toNatClampNeg))), .second] [(.int (0 : Int32)), (.int u8), (.ref a19)]))) (fun _ k => XS.iconst X254.here hx rfl (hb hby at_96) k) ?_
    refine OGoal.mp (S' := (T252.setTop (mkF m 99 #[.val (.int p1), .val (.int p2), .val (.int p3), .val (.int p4), .val (.int p5), .val (.int u8), .val (.ref a19), .val (.int r), .val (.double (own_D ((own_k p1 p2 p3 p4) r.toNatClampNeg))), .second] [(.int r), (.int (0 : Int32)), (.int u8), (.ref a19)]))) (fun _ k => XS.iload X254.here hx rfl (hb hby at_97) rfl k) ?_
    refine OGoal.mp (S' := (T252.setTop (mkF m 101 #[.val (.int p1), .val (.int p2), .val (.int p3), .val (.int p4), .val (.int p5), .val (.int u8), .val (.ref a19), .val (.int r), .val (.double (own_D ((own_k p1 p2 p3 p4) r.toNatClampNeg))), .second] [(.double (own_D ((own_k p1 p2 p3 p4) r.toNatClampNeg))), (.int r), (.int (0 : Int32)), (.int u8), (.ref a19)]))) (fun _ k => XS.dload X254.here hx rfl (hb hby at_99) rfl k) ?_
    refine oCallS (y := (⟨"com/example/andesite/andesite/model/LossesPredictedPinLaw", "ok", "([DIIID)Z"⟩ : MethodName)) X254 hx hZ hown (hw _ (List.mem_of_getElem? (i := 10) rfl)) (hw _ (List.mem_of_getElem? (i := 11) rfl)) (hw _ (List.mem_of_getElem? (i := 3) rfl)) (hw _ (List.mem_of_getElem? (i := 12) rfl)) (by decide) (rmK0 l Z a0 hw a19 u8 r ((own_k p1 p2 p3 p4) r.toNatClampNeg) h37 n0 Z42 _ (own_k p1 p2 p3 p4) F40 hf250 (own_k15 _ _ _ _) (own_k15 _ _ _ _ _) (fun q1 q2 => by have := oLt q2; exact (hrj 0).1 (by omega)) (fun q1 q2 => by have := oLt q1; have := oNlt q2; exact (hrj 0).2 (by omega) (by omega))) e257 [(.ref a19), (.int u8), (.int (0 : Int32)), (.int r), (.double (own_D ((own_k p1 p2 p3 p4) r.toNatClampNeg)))] [] rfl rfl (by rw [hml]; rfl) (lenOf own_pd___DIIID_Z rfl) 0 (Nat.le_of_eq rfl) (by decide) (by decide) (by decide) (by decide) (hb hby at_101) ?_
    intro v261 T262 L263 X264 q265
    obtain ⟨rfl, N266, e267⟩ := q265
    have N268 := Fr.app N258 N266
    show OGoal p e below s _ _ _ (T262.setTop (mkF m 104 #[.val (.int p1), .val (.int p2), .val (.int p3), .val (.int p4), .val (.int p5), .val (.int u8), .val (.ref a19), .val (.int r), .val (.double (own_D ((own_k p1 p2 p3 p4) r.toNatClampNeg))), .second] [(.int (1 : Int32))]))
    have hd269 : ¬ ((1 : Int32) = 0) := mNe (by omega)
    refine OGoal.mp (S' := (T262.setTop (mkF m 107 #[.val (.int p1), .val (.int p2), .val (.int p3), .val (.int p4), .val (.int p5), .val (.int u8), .val (.ref a19), .val (.int r), .val (.double (own_D ((own_k p1 p2 p3 p4) r.toNatClampNeg))), .second] []))) (fun _ k => XS.ifNo X264.here hx rfl (hb hby at_104) rfl (XT.i0_eq_f hd269) k) ?_
    refine OGoal.mp (S' := (T262.setTop (mkF m 109 #[.val (.int p1), .val (.int p2), .val (.int p3), .val (.int p4), .val (.int p5), .val (.int u8), .val (.ref a19), .val (.int r), .val (.double (own_D ((own_k p1 p2 p3 p4) r.toNatClampNeg))), .second] [(.ref a19)]))) (fun _ k => XS.aload X264.here hx rfl (hb hby at_107) rfl rfl k) ?_
    refine OGoal.mp (S' := (T262.setTop (mkF m 111 #[.val (.int p1), .val (.int p2), .val (.int p3), .val (.int p4), .val (.int p5), .val (.int u8), .val (.ref a19), .val (.int r), .val (.double (own_D ((own_k p1 p2 p3 p4) r.toNatClampNeg))), .second] [(.int u8), (.ref a19)]))) (fun _ k => XS.iload X264.here hx rfl (hb hby at_109) rfl k) ?_
    refine OGoal.mp (S' := (T262.setTop (mkF m 112 #[.val (.int p1), .val (.int p2), .val (.int p3), .val (.int p4), .val (.int p5), .val (.int u8), .val (.ref a19), .val (.int r), .val (.double (own_D ((own_k p1 p2 p3 p4) r.toNatClampNeg))), .second] [(.int (1 : Int32)), (.int u8), (.ref a19)]))) (fun _ k => XS.iconst X264.here hx rfl (hb hby at_111) k) ?_
    refine OGoal.mp (S' := (T262.setTop (mkF m 114 #[.val (.int p1), .val (.int p2), .val (.int p3), .val (.int p4), .val (.int p5), .val (.int u8), .val (.ref a19), .val (.int r), .val (.double (own_D ((own_k p1 p2 p3 p4) r.toNatClampNeg))), .second] [(.int r), (.int (1 : Int32)), (.int u8), (.ref a19)]))) (fun _ k => XS.iload X264.here hx rfl (hb hby at_112) rfl k) ?_
    refine OGoal.mp (S' := (T262.setTop (mkF m 116 #[.val (.int p1), .val (.int p2), .val (.int p3), .val (.int p4), .val (.int p5), .val (.int u8), .val (.ref a19), .val (.int r), .val (.double (own_D ((own_k p1 p2 p3 p4) r.toNatClampNeg))), .second] [(.double (own_D ((own_k p1 p2 p3 p4) r.toNatClampNeg))), (.int r), (.int (1 : Int32)), (.int u8), (.ref a19)]))) (fun _ k => XS.dload X264.here hx rfl (hb hby at_114) rfl k) ?_
    refine oCallS (y := (⟨"com/example/andesite/andesite/model/LossesPredictedPinLaw", "ok", "([DIIID)Z"⟩ : MethodName)) X264 hx hZ hown (hw _ (List.mem_of_getElem? (i := 10) rfl)) (hw _ (List.mem_of_getElem? (i := 11) rfl)) (hw _ (List.mem_of_getElem? (i := 3) rfl)) (hw _ (List.mem_of_getElem? (i := 12) rfl)) (by decide) (rmK1 l Z a0 hw a19 u8 r ((own_k p1 p2 p3 p4) r.toNatClampNeg) h37 n0 Z42 _ (own_k p1 p2 p3 p4) F40 hf250 (own_k15 _ _ _ _) (own_k15 _ _ _ _ _) (fun q1 q2 => by have := oLt q2; exact (hrj 1).1 (by omega)) (fun q1 q2 => by have := oLt q1; have := oNlt q2; exact (hrj 1).2 (by omega) (by omega))) e267 [(.ref a19), (.int u8), (.int (1 : Int32)), (.int r), (.double (own_D ((own_k p1 p2 p3 p4) r.toNatClampNeg)))] [] rfl rfl (by rw [hml]; rfl) (lenOf own_pd___DIIID_Z rfl) 0 (Nat.le_of_eq rfl) (by decide) (by decide) (by decide) (by decide) (hb hby at_116) ?_
    intro v270 T271 L272 X273 q274
    obtain ⟨rfl, N275, e276⟩ := q274
    have N277 := Fr.app N268 N275
    show OGoal p e below s _ _ _ (T271.setTop (mkF m 119 #[.val (.int p1), .val (.int p2), .val (.int p3), .val (.int p4), .val (.int p5), .val (.int u8), .val (.ref a19), .val (.int r), .val (.double (own_D ((own_k p1 p2 p3 p4) r.toNatClampNeg))), .second] [(.int (1 : Int32))]))
    have hd278 : ¬ ((1 : Int32) = 0) := mNe (by omega)
    refine OGoal.mp (S' := (T271.setTop (mkF m 122 #[.val (.int p1), .val (.int p2), .val (.int p3), .val (.int p4), .val (.int p5), .val (.int u8), .val (.ref a19), .val (.int r), .val (.double (own_D ((own_k p1 p2 p3 p4) r.toNatClampNeg))), .second] []))) (fun _ k => XS.ifNo X273.here hx rfl (hb hby at_119) rfl (XT.i0_eq_f hd278) k) ?_
    refine OGoal.mp (S' := (T271.setTop (mkF m 124 #[.val (.int p1), .val (.int p2), .val (.int p3), .val (.int p4), .val (.int p5), .val (.int u8), .val (.ref a19), .val (.int r), .val (.double (own_D ((own_k p1 p2 p3 p4) r.toNatClampNeg))), .second] [(.ref a19)]))) (fun _ k => XS.aload X273.here hx rfl (hb hby at_122) rfl rfl k) ?_
    refine OGoal.mp (S' := (T271.setTop (mkF m 126 #[.val (.int p1), .val (.int p2), .val (.int p3), .val (.int p4), .val (.int p5), .val (.int u8), .val (.ref a19), .val (.int r), .val (.double (own_D ((own_k p1 p2 p3 p4) r.toNatClampNeg))), .second] [(.int u8), (.ref a19)]))) (fun _ k => XS.iload X273.here hx rfl (hb hby at_124) rfl k) ?_
    refine OGoal.mp (S' := (T271.setTop (mkF m 127 #[.val (.int p1), .val (.int p2), .val (.int p3), .val (.int p4), .val (.int p5), .val (.int u8), .val (.ref a19), .val (.int r), .val (.double (own_D ((own_k p1 p2 p3 p4) r.toNatClampNeg))), .second] [(.int (2 : Int32)), (.int u8), (.ref a19)]))) (fun _ k => XS.iconst X273.here hx rfl (hb hby at_126) k) ?_
    refine OGoal.mp (S' := (T271.setTop (mkF m 129 #[.val (.int p1), .val (.int p2), .val (.int p3), .val (.int p4), .val (.int p5), .val (.int u8), .val (.ref a19), .val (.int r), .val (.double (own_D ((own_k p1 p2 p3 p4) r.toNatClampNeg))), .second] [(.int r), (.int (2 : Int32)), (.int u8), (.ref a19)]))) (fun _ k => XS.iload X273.here hx rfl (hb hby at_127) rfl k) ?_
    refine OGoal.mp (S' := (T271.setTop (mkF m 131 #[.val (.int p1), .val (.int p2), .val (.int p3), .val (.int p4), .val (.int p5), .val (.int u8), .val (.ref a19), .val (.int r), .val (.double (own_D ((own_k p1 p2 p3 p4) r.toNatClampNeg))), .second] [(.double (own_D ((own_k p1 p2 p3 p4) r.toNatClampNeg))), (.int r), (.int (2 : Int32)), (.int u8), (.ref a19)]))) (fun _ k => XS.dload X273.here hx rfl (hb hby at_129) rfl k) ?_
    refine oCallS (y := (⟨"com/example/andesite/andesite/model/LossesPredictedPinLaw", "ok", "([DIIID)Z"⟩ : MethodName)) X273 hx hZ hown (hw _ (List.mem_of_getElem? (i := 10) rfl)) (hw _ (List.mem_of_getElem? (i := 11) rfl)) (hw _ (List.mem_of_getElem? (i := 3) rfl)) (hw _ (List.mem_of_getElem? (i := 12) rfl)) (by decide) (rmK2 l Z a0 hw a19 u8 r ((own_k p1 p2 p3 p4) r.toNatClampNeg) h37 n0 Z42 _ (own_k p1 p2 p3 p4) F40 hf250 (own_k15 _ _ _ _) (own_k15 _ _ _ _ _) (fun q1 q2 => by have := oLt q2; exact (hrj 2).1 (by omega)) (fun q1 q2 => by have := oLt q1; have := oNlt q2; exact (hrj 2).2 (by omega) (by omega))) e276 [(.ref a19), (.int u8), (.int (2 : Int32)), (.int r), (.double (own_D ((own_k p1 p2 p3 p4) r.toNatClampNeg)))] [] rfl rfl (by rw [hml]; rfl) (lenOf own_pd___DIIID_Z rfl) 0 (Nat.le_of_eq rfl) (by decide) (by decide) (by decide) (by decide) (hb hby at_131) ?_
    intro v279 T280 L281 X282 q283
    obtain ⟨rfl, N284, e285⟩ := q283
    have N286 := Fr.app N277 N284
    show OGoal p e below s _ _ _ (T280.setTop (mkF m 134 #[.val (.int p1), .val (.int p2), .val (.int p3), .val (.int p4), .val (.int p5), .val (.int u8), .val (.ref a19), .val (.int r), .val (.double (own_D ((own_k p1 p2 p3 p4) r.toNatClampNeg))), .second] [(.int (1 : Int32))]))
    have hd287 : ¬ ((1 : Int32) = 0) := mNe (by omega)
    refine OGoal.mp (S' := (T280.setTop (mkF m 137 #[.val (.int p1), .val (.int p2), .val (.int p3), .val (.int p4), .val (.int p5), .val (.int u8), .val (.ref a19), .val (.int r), .val (.double (own_D ((own_k p1 p2 p3 p4) r.toNatClampNeg))), .second] []))) (fun _ k => XS.ifNo X282.here hx rfl (hb hby at_134) rfl (XT.i0_eq_f hd287) k) ?_
    refine OGoal.mp (S' := (T280.setTop (mkF m 139 #[.val (.int p1), .val (.int p2), .val (.int p3), .val (.int p4), .val (.int p5), .val (.int u8), .val (.ref a19), .val (.int r), .val (.double (own_D ((own_k p1 p2 p3 p4) r.toNatClampNeg))), .second] [(.ref a19)]))) (fun _ k => XS.aload X282.here hx rfl (hb hby at_137) rfl rfl k) ?_
    refine OGoal.mp (S' := (T280.setTop (mkF m 141 #[.val (.int p1), .val (.int p2), .val (.int p3), .val (.int p4), .val (.int p5), .val (.int u8), .val (.ref a19), .val (.int r), .val (.double (own_D ((own_k p1 p2 p3 p4) r.toNatClampNeg))), .second] [(.int u8), (.ref a19)]))) (fun _ k => XS.iload X282.here hx rfl (hb hby at_139) rfl k) ?_
    refine OGoal.mp (S' := (T280.setTop (mkF m 142 #[.val (.int p1), .val (.int p2), .val (.int p3), .val (.int p4), .val (.int p5), .val (.int u8), .val (.ref a19), .val (.int r), .val (.double (own_D ((own_k p1 p2 p3 p4) r.toNatClampNeg))), .second] [(.int (3 : Int32)), (.int u8), (.ref a19)]))) (fun _ k => XS.iconst X282.here hx rfl (hb hby at_141) k) ?_
    refine OGoal.mp (S' := (T280.setTop (mkF m 144 #[.val (.int p1), .val (.int p2), .val (.int p3), .val (.int p4), .val (.int p5), .val (.int u8), .val (.ref a19), .val (.int r), .val (.double (own_D ((own_k p1 p2 p3 p4) r.toNatClampNeg))), .second] [(.int r), (.int (3 : Int32)), (.int u8), (.ref a19)]))) (fun _ k => XS.iload X282.here hx rfl (hb hby at_142) rfl k) ?_
    refine OGoal.mp (S' := (T280.setTop (mkF m 146 #[.val (.int p1), .val (.int p2), .val (.int p3), .val (.int p4), .val (.int p5), .val (.int u8), .val (.ref a19), .val (.int r), .val (.double (own_D ((own_k p1 p2 p3 p4) r.toNatClampNeg))), .second] [(.double (own_D ((own_k p1 p2 p3 p4) r.toNatClampNeg))), (.int r), (.int (3 : Int32)), (.int u8), (.ref a19)]))) (fun _ k => XS.dload X282.here hx rfl (hb hby at_144) rfl k) ?_
    refine oCallS (y := (⟨"com/example/andesite/andesite/model/LossesPredictedPinLaw", "ok", "([DIIID)Z"⟩ : MethodName)) X282 hx hZ hown (hw _ (List.mem_of_getElem? (i := 10) rfl)) (hw _ (List.mem_of_getElem? (i := 11) rfl)) (hw _ (List.mem_of_getElem? (i := 3) rfl)) (hw _ (List.mem_of_getElem? (i := 12) rfl)) (by decide) (rmK3 l Z a0 hw a19 u8 r ((own_k p1 p2 p3 p4) r.toNatClampNeg) h37 n0 Z42 _ (own_k p1 p2 p3 p4) F40 hf250 (own_k15 _ _ _ _) (own_k15 _ _ _ _ _) (fun q1 q2 => by have := oLt q2; exact (hrj 3).1 (by omega)) (fun q1 q2 => by have := oLt q1; have := oNlt q2; exact (hrj 3).2 (by omega) (by omega))) e285 [(.ref a19), (.int u8), (.int (3 : Int32)), (.int r), (.double (own_D ((own_k p1 p2 p3 p4) r.toNatClampNeg)))] [] rfl rfl (by rw [hml]; rfl) (lenOf own_pd___DIIID_Z rfl) 0 (Nat.le_of_eq rfl) (by decide) (by decide) (by decide) (by decide) (hb hby at_146) ?_
    intro v288 T289 L290 X291 q292
    obtain ⟨rfl, N293, e294⟩ := q292
    have N295 := Fr.app N286 N293
    show OGoal p e below s _ _ _ (T289.setTop (mkF m 149 #[.val (.int p1), .val (.int p2), .val (.int p3), .val (.int p4), .val (.int p5), .val (.int u8), .val (.ref a19), .val (.int r), .val (.double (own_D ((own_k p1 p2 p3 p4) r.toNatClampNeg))), .second] [(.int (1 : Int32))]))
    have hd296 : ¬ ((1 : Int32) = 0) := mNe (by omega)
    refine OGoal.mp (S' := (T289.setTop (mkF m 152 #[.val (.int p1), .val (.int p2), .val (.int p3), .val (.int p4), .val (.int p5), .val (.int u8), .val (.ref a19), .val (.int r), .val (.double (own_D ((own_k p1 p2 p3 p4) r.toNatClampNeg))), .second] []))) (fun _ k => XS.ifNo X291.here hx rfl (hb hby at_149) rfl (XT.i0_eq_f hd296) k) ?_
    refine OGoal.mp (S' := (T289.setTop (mkF m 153 #[.val (.int p1), .val (.int p2), .val (.int p3), .val (.int p4), .val (.int p5), .val (.int u8), .val (.ref a19), .val (.int r), .val (.double (own_D ((own_k p1 p2 p3 p4) r.toNatClampNeg))), .second] [(.int (1 : Int32))]))) (fun _ k => XS.iconst X291.here hx rfl (hb hby at_152) k) ?_
    refine OGoal.mp (S' := (T289.setTop (mkF m 157 #[.val (.int p1), .val (.int p2), .val (.int p3), .val (.int p4), .val (.int p5), .val (.int u8), .val (.ref a19), .val (.int r), .val (.double (own_D ((own_k p1 p2 p3 p4) r.toNatClampNeg))), .second] [(.int (1 : Int32))]))) (fun _ k => XS.goto X291.here hx rfl (pc0 := 153) (pc' := 157) rfl (hb hby at_153) (by decide) (by decide) k) ?_
    refine oRetZ X291 hx hlk hret (Or.inr rfl) (hb hby at_157) ?_ (by decide) (by decide)
    exact ⟨rfl, N295⟩
set_option maxRecDepth 65536 in
set_option maxHeartbeats 40000000 in
theorem comes_1 {Post : Tables → Env → Array Value → State → Outcome → State → Prop} (hpost : ∀ tb e args s v u, (limb_1_1.after args s (.returned v) u = true ∧ limb_1_2.after args s (.returned v) u = true ∧ True) → FrameEnd s (.returned v) u (Jvm.fieldLocs frame_1_writes args s ++ Jvm.arrayLocs frame_1_arrays args s ++ Jvm.staticLocs frame_1_statics s) 16 128 → Post tb e args s (.returned v) u) :
    ArmFor flags0 classFile x code maxLocals ret World_1 tables_1 room_1 Calls_1 rest_1 Pre_1 Post := by
  intro l hfl _ _ p e ha hc hk s m args below hf hA hF happ hP
  obtain ⟨hcalls, hrest, hpre⟩ := hP
  obtain ⟨-, -, -, hnamed, -, -, -, hat⟩ := (Spec.applies_iff hf).mp happ
  obtain ⟨hg, hn⟩ := and_e (Cond.before_iff.mp (show (Jvm.Cond.and given_1 narrow_1).before args s = true from hpre))
  obtain ⟨hcnt, hg⟩ := and_e hg
  obtain ⟨w0, w1, w2, w3, w4, rfl⟩ : ∃ w0 w1 w2 w3 w4 : Value, args = #[w0, w1, w2, w3, w4] := by
    have hs : args.size = 5 := by simpa [Cond.value, given_1] using hcnt
    obtain ⟨L⟩ := args
    match L, hs with
    | [w0, w1, w2, w3, w4], _ => exact ⟨w0, w1, w2, w3, w4, rfl⟩
  have hw := fun d (hd : d ∈ tables_1) => atoms_spec (ws := Jvm.Cond.code x code maxLocals ret :: tables_1) hat d (List.mem_cons_of_mem _ hd)
  have hfit : Fit s := fun {y c} hc i hi => by
    obtain ⟨ha, rfl⟩ := Array.getElem?_eq_some_iff.mp hc
    have q := List.all_eq_true.mp ((Array.all_eq_true_iff_forall_mem.mp hF) _ (Array.getElem_mem ha)) i (List.mem_range.mpr hi)
    simpa [Array.getElem?_eq_getElem hi] using q
  obtain ⟨hg0, hg⟩ := and_e hg
  obtain ⟨i0, ei0⟩ := is_v hg0
  obtain rfl : w0 = (.int i0) := Option.some.inj ei0
  obtain ⟨hg1, hg⟩ := and_e hg
  obtain ⟨i1, ei1⟩ := is_v hg1
  obtain rfl : w1 = (.int i1) := Option.some.inj ei1
  obtain ⟨hg2, hg⟩ := and_e hg
  obtain ⟨i2, ei2⟩ := is_v hg2
  obtain rfl : w2 = (.int i2) := Option.some.inj ei2
  obtain ⟨hg3, hg⟩ := and_e hg
  obtain ⟨i3, ei3⟩ := is_v hg3
  obtain rfl : w3 = (.int i3) := Option.some.inj ei3
  obtain ⟨i4, ei4⟩ := is_v hg
  obtain rfl : w4 = (.int i4) := Option.some.inj ei4
  obtain ⟨n, o, h1, h2, h3, _, L, rfl, ⟨rfl, N⟩, hq⟩ := rm0 l s _ hw i0 i1 i2 i3 i4 s.heap s.heap.size (Nat.le_refl _)  tables_1 p e ha hc hk s m _ below hf ((Spec.applies_iff_loose hf).mp happ).1 ⟨rfl, State.Warmed39.refl s, rfl⟩ trivial
  refine ⟨n, _, h1, h2, h3, hpost _ _ _ _ _ _ ⟨Cond.after_iff.mpr rfl, Cond.after_iff.mpr (eq_i res_at (Term.int_eval (1)) rfl), trivial⟩ ⟨hq.1, hq.2.1, (hq.2.2.sift fun y hy => Or.inr (N y hy)).mono (by decide) (by decide)⟩⟩
theorem main_1_1 : Claimed_1_1 := comes_1 fun _ _ _ _ _ _ h hF => ⟨h.1, hF⟩
theorem main_1_2 : Claimed_1_2 := comes_1 fun _ _ _ _ _ _ h hF => ⟨h.2.1, hF⟩
end Jvm.Pilot.@@N@@
namespace Jvm.Pilot.@@N@@
open Jvm Jvm.ClassFile Sem Op Lib Jvm.Free Jvm.Stand Jvm.Pilot.@@N@@.Jvm.D
/-! MADE BY PROGRAM (witnessworld.py) out of the Statement's table words and the real class files: 11 classes; the members and pool entries that the words name. The judged class is class 1, her method 3. -/
namespace start1
open Jvm.ClassFile
def u (s : String) : CpInfo := .utf8 (stringToUtf16 s)
/-- a pool by its gaps: so many unusable entries, then the entry; so many at the end -/
def gap : Nat → List CpInfo → List CpInfo
  | 0, r => r
  | n + 1, r => .unusable :: gap n r
def poolList (es : List (Nat × CpInfo)) (last : Nat) : List CpInfo := es.foldr (fun e r => gap e.1 (e.2 :: r)) (gap last [])
def pool (es : List (Nat × CpInfo)) (last : Nat) : Array CpInfo := ⟨poolList es last⟩
def fileOf (pool : Array CpInfo) (this : Nat) (attrs : Array Attribute := #[]) (ms : Array MethodInfo := #[]) (fl : Nat := 33) (sup : Nat := 0) (ifs : Array Nat := #[]) (fds : Array FieldInfo := #[]) : ClassFile where
  minorVersion := 0
  majorVersion := 65
  constantPool := pool
  accessFlags := fl
  thisClass := this
  superClass := sup
  interfaces := ifs
  fields := fds
  methods := ms
  attributes := attrs
def plain (name : String) (sup : Option ClassId) : Class where
  name := name
  kind := .ordinary
  loader := none
  accessFlags := 33
  super := sup
  interfaces := #[]
  cf := none
  fields := #[]
  methods := #[]
  instanceTypes := #[]
  staticTypes := #[]
  resolved := #[]
  callSites := []
  init := .initialized
  statics := none
  mirror := none

def pool0 : Array CpInfo := pool [(5, u "<init>"), (0, u "()V"), (1, .class_ 10), (1, u "java/lang/Object")] 113

def k0m0 : Method := { name := "<init>", desc := "()V", sig := { parameters := [], returnType := none }, accessFlags := 1, code := none }
/-- java/lang/Object -/
def k0 : Class := { plain "java/lang/Object" none with
  accessFlags := 33
  interfaces := #[]
  cf := some (fileOf pool0 8 #[] #[{ accessFlags := 1, nameIndex := 5, descriptorIndex := 6, attributes := #[] }] 33 0 #[] #[])
  fields := #[]
  methods := #[k0m0]
  instanceTypes := #[]
  staticTypes := #[]
  resolved := Array.replicate 124 none
  statics := none }

def pool1 : Array CpInfo := pool [(2, .class_ 4), (1, u "java/lang/Object"), (0, u "<init>"), (0, u "()V"), (0, .double 4625196817309499392), (1, .methodref 10 11), (0, .class_ 12), (0, .nameAndType 13 14), (0, u "com/example/andesite/andesite/model/LossesPredictedPinLaw"), (0, u "value"), (0, u "(I)D"), (0, .methodref 16 17), (0, .class_ 18), (0, .nameAndType 19 20), (0, u "com/example/andesite/andesite/model/Losses"), (0, u "predicted"), (0, u "([D)I"), (0, .methodref 10 22), (0, .nameAndType 23 24), (0, u "ok"), (0, u "([DIIID)Z"), (3, u "law"), (0, u "(IIIII)Z")] 4

def k1m0 : Method := { name := "<init>", desc := "()V", sig := { parameters := [], returnType := none }, accessFlags := 1, code := none }
def k1c1 : Code := { maxStack := 4, maxLocals := 1, code := method_2_code, exceptionTable := #[], attributes := #[] }
def k1m1 : Method := { name := "value", desc := "(I)D", sig := { parameters := [.int], returnType := some .double }, accessFlags := 10, code := some k1c1 }
def k1c2 : Code := { maxStack := 4, maxLocals := 6, code := method_3_code, exceptionTable := #[], attributes := #[] }
def k1m2 : Method := { name := "ok", desc := "([DIIID)Z", sig := { parameters := [(.array .double), .int, .int, .int, .double], returnType := some .boolean }, accessFlags := 10, code := some k1c2 }
def k1c3 : Code := { maxStack := 6, maxLocals := 10, code := code, exceptionTable := #[], attributes := #[] }
def k1m3 : Method := { name := "law", desc := "(IIIII)Z", sig := { parameters := [.int, .int, .int, .int, .int], returnType := some .boolean }, accessFlags := 9, code := some k1c3 }
/-- com/example/andesite/andesite/model/LossesPredictedPinLaw -/
def k1 : Class := { plain "com/example/andesite/andesite/model/LossesPredictedPinLaw" (some 0) with
  accessFlags := 49
  interfaces := #[]
  cf := some (fileOf pool1 10 #[] #[{ accessFlags := 1, nameIndex := 5, descriptorIndex := 6, attributes := #[] }, { accessFlags := 10, nameIndex := 13, descriptorIndex := 14, attributes := #[] }, { accessFlags := 10, nameIndex := 23, descriptorIndex := 24, attributes := #[] }, { accessFlags := 9, nameIndex := 28, descriptorIndex := 29, attributes := #[] }] 49 2 #[] #[])
  fields := #[]
  methods := #[k1m0, k1m1, k1m2, k1m3]
  instanceTypes := #[]
  staticTypes := #[]
  resolved := Array.replicate 34 none
  statics := none }

def pool2 : Array CpInfo := pool [(2, .class_ 4), (1, u "java/lang/Object"), (3, .class_ 10), (1, u "com/example/andesite/andesite/model/Losses"), (0, u "classValues"), (0, u "I"), (2, u "rows"), (2, u "wrong"), (2, u "predicted"), (0, u "([D)I"), (2, u "squaredError"), (0, u "D")] 20

def k2c0 : Code := { maxStack := 4, maxLocals := 3, code := prog_65_method_2_code, exceptionTable := #[], attributes := #[] }
def k2m0 : Method := { name := "predicted", desc := "([D)I", sig := { parameters := [(.array .double)], returnType := some .int }, accessFlags := 9, code := some k2c0 }
/-- com/example/andesite/andesite/model/Losses -/
def k2 : Class := { plain "com/example/andesite/andesite/model/Losses" (some 0) with
  accessFlags := 33
  interfaces := #[]
  cf := some (fileOf pool2 8 #[] #[{ accessFlags := 9, nameIndex := 21, descriptorIndex := 22, attributes := #[] }] 33 2 #[] #[{ accessFlags := 18, nameIndex := 11, descriptorIndex := 12, attributes := #[] }, { accessFlags := 2, nameIndex := 15, descriptorIndex := 12, attributes := #[] }, { accessFlags := 2, nameIndex := 18, descriptorIndex := 12, attributes := #[] }, { accessFlags := 2, nameIndex := 25, descriptorIndex := 26, attributes := #[] }])
  fields := #[{ name := "classValues", type := .int, accessFlags := 18, slot := 0, constantValue := 0 }, { name := "rows", type := .int, accessFlags := 2, slot := 1, constantValue := 0 }, { name := "wrong", type := .int, accessFlags := 2, slot := 2, constantValue := 0 }, { name := "squaredError", type := .double, accessFlags := 2, slot := 3, constantValue := 0 }]
  methods := #[k2m0]
  instanceTypes := #[.int, .int, .int, .double]
  staticTypes := #[]
  resolved := Array.replicate 47 none
  statics := none }

def pool3 : Array CpInfo := pool [(1, u "java/lang/Cloneable"), (0, .class_ 1), (0, u "java/lang/Object"), (0, .class_ 3)] 3

/-- java/lang/Cloneable -/
def k3 : Class := { plain "java/lang/Cloneable" (some 0) with
  accessFlags := 1537
  interfaces := #[]
  cf := some (fileOf pool3 2 #[] #[] 1537 4 #[] #[])
  fields := #[]
  methods := #[]
  instanceTypes := #[]
  staticTypes := #[]
  resolved := Array.replicate 8 none
  statics := none }

def pool4 : Array CpInfo := pool [(1, u "java/io/Serializable"), (0, .class_ 1), (0, u "java/lang/Object"), (0, .class_ 3)] 3

/-- java/io/Serializable -/
def k4 : Class := { plain "java/io/Serializable" (some 0) with
  accessFlags := 1537
  interfaces := #[]
  cf := some (fileOf pool4 2 #[] #[] 1537 4 #[] #[])
  fields := #[]
  methods := #[]
  instanceTypes := #[]
  staticTypes := #[]
  resolved := Array.replicate 8 none
  statics := none }

/-- the primitive byte -/
def k5 : Class := { plain "byte" none with kind := .primitive 'B', accessFlags := 0x411 }
/-- [B -/
def k6 : Class := { plain "[B" (some 0) with kind := .array 5 .byte, interfaces := #[3, 4], accessFlags := 1041 }

/-- the primitive double -/
def k7 : Class := { plain "double" none with kind := .primitive 'D', accessFlags := 0x411 }
/-- [D -/
def k8 : Class := { plain "[D" (some 0) with kind := .array 7 .double, interfaces := #[3, 4], accessFlags := 1041 }

/-- the primitive int -/
def k9 : Class := { plain "int" none with kind := .primitive 'I', accessFlags := 0x411 }
/-- [I -/
def k10 : Class := { plain "[I" (some 0) with kind := .array 9 .int, interfaces := #[3, 4], accessFlags := 1041 }

def heap : Heap := #[]
def classes : Array Class := #[k0, k1, k2, k3, k4, k5, k6, k7, k8, k9, k10]
def interned : List (Array UInt16 × Addr) := []
def slotsUsed : Nat := 0
def theMethod : MethodId := ⟨1, 3⟩
def args0 : Array Value := #[.int 1, .int 2, .int 3, .int 4, .int 3]
def aboutOver (below : List Frame) : State where
  vm := { classes := classes, interned := interned.toArray }
  heap := heap
  slotsUsed := slotsUsed
  threads := #[{ frames := .invoking theMethod args0 :: below }]
def below0 : List Frame := [.native { method := ⟨0, 0⟩, args := #[] }]
def about1 : State := aboutOver below0
def p0 : Program := .bare "" "" ""
def e0 : Env := launch0.env 0 0 0
theorem w_frames : about1.frames = Frame.invoking theMethod args0 :: below0 := rfl
set_option maxRecDepth 65536 in
theorem w_args : argsFit about1.vm theMethod args0 = true := by decide +kernel
set_option maxRecDepth 65536 in
theorem w_heap : heapFits about1 = true := by decide +kernel
set_option maxRecDepth 65536 in
theorem w_runnable : about1.curStatus? = some .runnable := by decide +kernel
set_option maxRecDepth 65536 in
theorem w_alone : about1.alone = true := by decide +kernel
set_option maxRecDepth 65536 in
theorem w_named : about1.methodNamed? x = some theMethod := by decide +kernel
set_option maxRecDepth 65536 in
theorem w_hears : about1.hears theMethod below0 = true := by decide +kernel
set_option maxRecDepth 65536 in
theorem w_ripe : about1.ripe theMethod args0 below0 = true := by decide +kernel
theorem w_running : about1.status = .running := rfl
set_option maxRecDepth 65536 in
theorem w_room : about1.hasRoom e0.platform room_1 = true :=
  launch0.hasRoom_least _ room_1 (by decide +kernel) (by decide +kernel) (by decide +kernel) (by decide +kernel) (by decide +kernel) (by decide +kernel)
theorem allAtoms_all (ts : List Jvm.Cond) (a : Array Jvm.Value) (st : Jvm.State) : (allAtoms ts).before a st = ts.all (fun c => c.before a st) := by
  induction ts with
  | nil => rfl
  | cons c t ih =>
    show (Jvm.Cond.and c (allAtoms t)).before a st = _
    rw [Jvm.Cond.before_and, ih, List.all_cons]
def words1 : List Jvm.Cond := Jvm.Cond.code x code maxLocals ret :: tables_1
/-- a 'code' word, met by the world's own term for the bytes: nothing is compared byte by byte -/
theorem code_word {y : MethodName} {bytes : ByteArray} {mx : Nat} {rt : Option FieldType} {a : Array Value} {s : State} {m : MethodId} {meth : Method} {c : Code} (h1 : s.methodNamed? y = some m) (h2 : s.vm.method? m = some meth) (h3 : meth.code = some c) (h4 : c.code = bytes)
    (h5 : (c.maxLocals == mx && c.exceptionTable.isEmpty && decide (c.maxStack ≤ mostOperands) && decide (meth.sig.returnType = rt) && !meth.locks && decide (parseMethodDescriptor y.desc = some meth.sig)) = true) : (Jvm.Cond.code y bytes mx rt).before a s = true := by
  simp only [Bool.and_eq_true, beq_iff_eq, Bool.not_eq_true', decide_eq_true_eq] at h5
  obtain ⟨⟨⟨⟨⟨g1, g2⟩, g3⟩, g4⟩, g5⟩, g6⟩ := h5
  simp [Cond.before, Cond.holds, Cond.value, h1, h2, h3, h4, g1, g2, g3, g4, g5, g6]
def isCode : Jvm.Cond → Bool
  | .code _ _ _ _ => true
  | _ => false
theorem all_split {L : List Jvm.Cond} {P : Jvm.Cond → Bool} (h1 : L.all (fun c => isCode c || P c) = true) (h2 : ∀ c ∈ L.filter isCode, P c = true) : L.all P = true := by
  refine List.all_eq_true.mpr fun c hc => ?_
  have h := List.all_eq_true.mp h1 c hc
  rcases Bool.eq_false_or_eq_true (isCode c) with hi | hi
  · exact h2 c (List.mem_filter.mpr ⟨hc, hi⟩)
  · simpa [hi] using h
set_option maxRecDepth 65536 in
theorem w_c0 : (Jvm.Cond.code x code maxLocals ret).before args0 about1 = true := code_word (m := ⟨1, 3⟩) (meth := k1m3) (c := k1c3) (by decide +kernel) rfl rfl rfl (by decide +kernel)
set_option maxRecDepth 65536 in
theorem w_c1 : (Jvm.Cond.code ({ cls := "com/example/andesite/andesite/model/LossesPredictedPinLaw", name := "value", desc := "(I)D" } : Jvm.MethodName) method_2_code (1 : Nat) (Option.some Jvm.ClassFile.FieldType.double)).before args0 about1 = true := code_word (m := ⟨1, 1⟩) (meth := k1m1) (c := k1c1) (by decide +kernel) rfl rfl rfl (by decide +kernel)
set_option maxRecDepth 65536 in
theorem w_c2 : (Jvm.Cond.code ({ cls := "com/example/andesite/andesite/model/Losses", name := "predicted", desc := "([D)I" } : Jvm.MethodName) prog_65_method_2_code (3 : Nat) (Option.some Jvm.ClassFile.FieldType.int)).before args0 about1 = true := code_word (m := ⟨2, 0⟩) (meth := k2m0) (c := k2c0) (by decide +kernel) rfl rfl rfl (by decide +kernel)
set_option maxRecDepth 65536 in
theorem w_c3 : (Jvm.Cond.code ({ cls := "com/example/andesite/andesite/model/LossesPredictedPinLaw", name := "ok", desc := "([DIIID)Z" } : Jvm.MethodName) method_3_code (6 : Nat) (Option.some Jvm.ClassFile.FieldType.boolean)).before args0 about1 = true := code_word (m := ⟨1, 2⟩) (meth := k1m2) (c := k1c2) (by decide +kernel) rfl rfl rfl (by decide +kernel)
def codes1 : List Jvm.Cond := [Jvm.Cond.code x code maxLocals ret, Jvm.Cond.code ({ cls := "com/example/andesite/andesite/model/LossesPredictedPinLaw", name := "value", desc := "(I)D" } : Jvm.MethodName) method_2_code (1 : Nat) (Option.some Jvm.ClassFile.FieldType.double), Jvm.Cond.code ({ cls := "com/example/andesite/andesite/model/Losses", name := "predicted", desc := "([D)I" } : Jvm.MethodName) prog_65_method_2_code (3 : Nat) (Option.some Jvm.ClassFile.FieldType.int), Jvm.Cond.code ({ cls := "com/example/andesite/andesite/model/LossesPredictedPinLaw", name := "ok", desc := "([DIIID)Z" } : Jvm.MethodName) method_3_code (6 : Nat) (Option.some Jvm.ClassFile.FieldType.boolean)]
set_option maxRecDepth 65536 in
theorem codes_eq : words1.filter isCode = codes1 := rfl
theorem w_codes : ∀ c ∈ words1.filter isCode, c.before args0 about1 = true := by
  rw [codes_eq]
  intro c hc
  simp only [codes1, List.mem_cons, List.not_mem_nil, or_false] at hc
  rcases hc with rfl | rfl | rfl | rfl
  · exact w_c0
  · exact w_c1
  · exact w_c2
  · exact w_c3
set_option maxRecDepth 65536 in
theorem w_t1 : words1.all (fun c => isCode c || c.before args0 about1) = true := by decide +kernel
theorem w_tables : (allAtoms (Jvm.Cond.code x code maxLocals ret :: tables_1)).before args0 about1 = true := by
  rw [allAtoms_all]
  show words1.all (fun c => c.before args0 about1) = true
  refine all_split ?_ w_codes
  rw [w_t1]
set_option maxRecDepth 65536 in
theorem w_case : (Jvm.Cond.and given_1 narrow_1).before args0 about1 = true := by decide +kernel
theorem w_applies : (headSpec (Jvm.Cond.code x code maxLocals ret :: tables_1) room_1).applies x e0.platform about1 = true :=
  (Spec.applies_iff w_frames).mpr ⟨w_running, w_runnable, w_alone, w_named, w_hears, w_ripe, w_room, w_tables⟩
theorem atStart : AtStart classFile x code maxLocals ret World_1 tables_1 room_1 Calls_1 rest_1 Pre_1 launch0 p0 e0 about1 theMethod args0 below0 :=
  ⟨lists_1, trivial, launch0.admits_env _ _ _, launch0.least_env, fairChoices_fair.cas, fairChoices_fair.clock, w_frames, w_args, w_heap, w_applies, trivial, trivial, w_case⟩
end start1
theorem witness_1 : WitnessClaimed_1 := ⟨start1.p0, start1.e0, start1.about1, start1.theMethod, start1.args0, start1.below0, start1.atStart⟩
end Jvm.Pilot.@@N@@
