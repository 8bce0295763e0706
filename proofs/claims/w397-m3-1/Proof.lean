import JvmDerived
import JvmDerived.Pilot.@@N@@Statement
import JvmDerived.Pilot.@@N@@Code
set_option linter.unusedVariables false
set_option linter.unusedSimpArgs false
namespace Jvm.Pilot.@@N@@
open Jvm Jvm.ClassFile Sem Op Lib Jvm.Free Jvm.Stand Jvm.LawKit Jvm.RoadKit Bundle Jvm.Pilot.@@N@@.Jvm.D
/-! own helpers: the goal of a walk as one predicate, its steps, its calls -/
section OwnKit
variable {p : Program} {l : Launch} {e : Env} {R : Room} {s : State} {m : MethodId} {args : Array Value} {below : List Frame} {meth : Method} {c : Code} {T : State} {locs : List Loc} {cells slots : Nat} {Z : State} {a0 : Array Value} {h : Heap} {Q : Option Value → Heap → List Loc → Prop} {kc ks : Nat}
/-- from S the run ends, returns, and Q holds of what it returns, of the heap and of the places written -/
def OGoal (p : Program) (e : Env) (below : List Frame) (s : State) (Q : Option Value → Heap → List Loc → Prop) (kc ks : Nat) (S : State) : Prop :=
  ∃ s₂ o, Steps p.tables e below S s₂ ∧ s₂.status = .running ∧ Ended s₂ below o ∧ ∃ v L, o = .returned v ∧ Q v s₂.heap L ∧ FrameEnd s o s₂ L kc ks
theorem OGoal.mp {S S' : State} (k : ∀ t, Steps p.tables e below S' t → Steps p.tables e below S t) (g : OGoal p e below s Q kc ks S') : OGoal p e below s Q kc ks S := by
  obtain ⟨s₂, o, h1, h2⟩ := g
  exact ⟨s₂, o, k _ h1, h2⟩
theorem oRet (X : Stand p l e R s m args below meth c T locs cells slots) (hx : p.tables.exec = Jvm.exec) (hlk : meth.locks = false) {pc : Nat} {Ls : Array Slot} {w : Value} {t : FieldType} {i : Instr} {rest : List Value} (hret : meth.sig.returnType = some t) (hn : narrow t w = w)
    (hi : (i = .ireturn ∧ (t = .int ∨ t = .boolean ∨ t = .byte ∨ t = .char ∨ t = .short) ∧ ∃ z, w = .int z) ∨ (i = .lreturn ∧ t = .long ∧ ∃ z, w = .long z) ∨ (i = .dreturn ∧ t = .double ∧ ∃ z, w = .double z) ∨ (i = .freturn ∧ t = .float ∧ ∃ z, w = .float z) ∨ (i = .areturn ∧ t.isReference = true ∧ w.isRef = true))
    (hd : decode c.code pc = .ok (i, 1)) (hQ : Q (some w) T.heap locs) (hc : cells ≤ kc) (hs : slots ≤ ks) : OGoal p e below s Q kc ks (T.setTop (mkF m pc Ls (w :: rest))) := by
  obtain ⟨fs, hr, hrun, hended, hW, hsame⟩ := X.leave (v := some w) (fun q => by rw [hret] at q; cases q) hlk
  exact ⟨_, _, retOut X hx hret hn hi hd hr, hrun, hended, _, _, rfl, hQ, ⟨_, rfl⟩, hW, hsame.mono hc hs⟩
theorem oRetI (X : Stand p l e R s m args below meth c T locs cells slots) (hx : p.tables.exec = Jvm.exec) (hlk : meth.locks = false) {pc : Nat} {Ls : Array Slot} {z : Int32} {rest : List Value} (hret : meth.sig.returnType = some .int)
    (hd : decode c.code pc = .ok (.ireturn, 1)) (hQ : Q (some (.int z)) T.heap locs) (hc : cells ≤ kc) (hs : slots ≤ ks) : OGoal p e below s Q kc ks (T.setTop (mkF m pc Ls (.int z :: rest))) :=
  oRet X hx hlk hret rfl (Or.inl ⟨rfl, Or.inl rfl, _, rfl⟩) hd hQ hc hs
theorem oRetZ (X : Stand p l e R s m args below meth c T locs cells slots) (hx : p.tables.exec = Jvm.exec) (hlk : meth.locks = false) {pc : Nat} {Ls : Array Slot} {z : Int32} {rest : List Value} (hret : meth.sig.returnType = some .boolean) (hz : z = 0 ∨ z = 1)
    (hd : decode c.code pc = .ok (.ireturn, 1)) (hQ : Q (some (.int z)) T.heap locs) (hc : cells ≤ kc) (hs : slots ≤ ks) : OGoal p e below s Q kc ks (T.setTop (mkF m pc Ls (.int z :: rest))) :=
  oRet X hx hlk hret (by rcases hz with rfl | rfl <;> rfl) (Or.inl ⟨rfl, Or.inr (Or.inl rfl), _, rfl⟩) hd hQ hc hs
theorem oRetJ (X : Stand p l e R s m args below meth c T locs cells slots) (hx : p.tables.exec = Jvm.exec) (hlk : meth.locks = false) {pc : Nat} {Ls : Array Slot} {z : Int64} {rest : List Value} (hret : meth.sig.returnType = some .long)
    (hd : decode c.code pc = .ok (.lreturn, 1)) (hQ : Q (some (.long z)) T.heap locs) (hc : cells ≤ kc) (hs : slots ≤ ks) : OGoal p e below s Q kc ks (T.setTop (mkF m pc Ls (.long z :: rest))) :=
  oRet X hx hlk hret rfl (Or.inr (Or.inl ⟨rfl, rfl, _, rfl⟩)) hd hQ hc hs
theorem oRetD (X : Stand p l e R s m args below meth c T locs cells slots) (hx : p.tables.exec = Jvm.exec) (hlk : meth.locks = false) {pc : Nat} {Ls : Array Slot} {z : UInt64} {rest : List Value} (hret : meth.sig.returnType = some .double)
    (hd : decode c.code pc = .ok (.dreturn, 1)) (hQ : Q (some (.double z)) T.heap locs) (hc : cells ≤ kc) (hs : slots ≤ ks) : OGoal p e below s Q kc ks (T.setTop (mkF m pc Ls (.double z :: rest))) :=
  oRet X hx hlk hret rfl (Or.inr (Or.inr (Or.inl ⟨rfl, rfl, _, rfl⟩))) hd hQ hc hs
theorem oNarC {x : Int32} (h : 0 ≤ x.toInt ∧ x.toInt < 65536) : x.toUInt32.toUInt16.toUInt32.toInt32 = x := Int32.toInt_inj.mp (by have q := c_i2c x; omega)
theorem oNarB {x : Int32} (h : -128 ≤ x.toInt ∧ x.toInt < 128) : x.toInt8.toInt32 = x := Int32.toInt_inj.mp (by have q := c_i2b x; omega)
theorem oNarBB (x : Int32) : nar .byte x.toInt8.toInt32 = x.toInt8.toInt32 := oNarB ⟨(c_i2b x).2.1, (c_i2b x).2.2⟩
theorem oRetC (X : Stand p l e R s m args below meth c T locs cells slots) (hx : p.tables.exec = Jvm.exec) (hlk : meth.locks = false) {pc : Nat} {Ls : Array Slot} {z : Int32} {rest : List Value} (hret : meth.sig.returnType = some .char) (hz : 0 ≤ z.toInt ∧ z.toInt < 65536)
    (hd : decode c.code pc = .ok (.ireturn, 1)) (hQ : Q (some (.int z)) T.heap locs) (hc : cells ≤ kc) (hs : slots ≤ ks) : OGoal p e below s Q kc ks (T.setTop (mkF m pc Ls (.int z :: rest))) :=
  oRet X hx hlk hret (congrArg Value.int (oNarC hz)) (Or.inl ⟨rfl, Or.inr (Or.inr (Or.inr (Or.inl rfl))), _, rfl⟩) hd hQ hc hs
theorem oRetB (X : Stand p l e R s m args below meth c T locs cells slots) (hx : p.tables.exec = Jvm.exec) (hlk : meth.locks = false) {pc : Nat} {Ls : Array Slot} {z : Int32} {rest : List Value} (hret : meth.sig.returnType = some .byte) (hz : -128 ≤ z.toInt ∧ z.toInt < 128)
    (hd : decode c.code pc = .ok (.ireturn, 1)) (hQ : Q (some (.int z)) T.heap locs) (hc : cells ≤ kc) (hs : slots ≤ ks) : OGoal p e below s Q kc ks (T.setTop (mkF m pc Ls (.int z :: rest))) :=
  oRet X hx hlk hret (congrArg Value.int (oNarB hz)) (Or.inl ⟨rfl, Or.inr (Or.inr (Or.inl rfl)), _, rfl⟩) hd hQ hc hs
theorem oRetA (X : Stand p l e R s m args below meth c T locs cells slots) (hx : p.tables.exec = Jvm.exec) (hlk : meth.locks = false) {pc : Nat} {Ls : Array Slot} {w : Value} {t : FieldType} {rest : List Value} (hret : meth.sig.returnType = some t) (ht : t.isReference = true) (hw : w.isRef = true)
    (hd : decode c.code pc = .ok (.areturn, 1)) (hQ : Q (some w) T.heap locs) (hc : cells ≤ kc) (hs : slots ≤ ks) : OGoal p e below s Q kc ks (T.setTop (mkF m pc Ls (w :: rest))) :=
  oRet X hx hlk hret (by cases t <;> cases w <;> first | rfl | (cases ht; done) | (cases hw; done)) (Or.inr (Or.inr (Or.inr (Or.inr ⟨rfl, ht, hw⟩)))) hd hQ hc hs
theorem oRetV (X : Stand p l e R s m args below meth c T locs cells slots) (hx : p.tables.exec = Jvm.exec) (hlk : meth.locks = false) {pc : Nat} {Ls : Array Slot} (hret : meth.sig.returnType = none)
    (hd : decode c.code pc = .ok (.return_, 1)) (hQ : Q none T.heap locs) (hc : cells ≤ kc) (hs : slots ≤ ks) : OGoal p e below s Q kc ks (T.setTop (mkF m pc Ls [])) := by
  obtain ⟨fs, hr, hrun, hended, hW, hsame⟩ := X.leave (v := none) (fun _ => rfl) hlk
  exact ⟨_, _, X.returnOut hx hret hd hr, hrun, hended, _, _, rfl, hQ, ⟨_, rfl⟩, hW, hsame.mono hc hs⟩
/-- the contract of a method: called with as' over the heap h it returns, and Q holds; kc cells and ks slots are made at the most -/
def OConK (l : Launch) (Z : State) (y : MethodName) (bytes : ByteArray) (maxL : Nat) (ret : Option FieldType) (rm : Room) (kc ks : Nat) (as' : Array Value) (h : Heap) (Q : Option Value → Heap → List Loc → Prop) : Prop :=
  ∀ ws : List Jvm.Cond, MetFree l y (head1 (Jvm.Cond.code y bytes maxL ret :: ws) rm) (fun a U => a = as' ∧ Z.Warmed39 U.vm ∧ U.heap = h) (fun _ _ _ _ _ => True) (fun _ U o U' => ∃ v L, o = .returned v ∧ Q v U'.heap L ∧ FrameEnd U o U' L kc ks)
abbrev OCon (l : Launch) (Z : State) (y : MethodName) (bytes : ByteArray) (maxL : Nat) (ret : Option FieldType) (rm : Room) (as' : Array Value) (h : Heap) (Q : Option Value → Heap → List Loc → Prop) : Prop := OConK l Z y bytes maxL ret rm rm.cells rm.slots as' h Q
theorem OConK.intro {y : MethodName} {bytes : ByteArray} {maxL : Nat} {ret : Option FieldType} {rm : Room} {as' : Array Value} {Ls : Array Slot} (hpf : plainFor y = true) (ef : ∀ m, entryFrame m as' maxL = mkF m 0 Ls [])
    (H : ∀ p e s m below meth c s₁, p.tables.exec = Jvm.exec → c.code = bytes → c.maxLocals = maxL → s.vm.findClass y.cls = some m.cls → meth.name = y.name → meth.sig.returnType = ret → meth.locks = false → Z.Warmed39 s.vm →
      Stand p l e rm s m as' below meth c s₁ [] 0 0 → s₁.heap = h → OGoal p e below s Q kc ks (s₁.setTop (mkF m 0 Ls []))) : OConK l Z y bytes maxL ret rm kc ks as' h Q := by
  intro ws
  refine MetFree.of_bodySF hpf hisR ?_
  intro p e s m args below meth c s₁ Bd hml hP hK
  obtain ⟨rfl, hZ, hh⟩ := hP
  obtain ⟨s₂, o, h1, h2, h3, h4⟩ := H p e s m below meth c s₁ Bd.exec Bd.bytes hml (findClass_of_methodNamed Bd.named) (name_of_methodNamed Bd.named Bd.method).1 Bd.returns (BodyLoose.notSynchronized Bd) hZ (Stand.of_body Bd) (by rw [← hh, Bd.state]; rfl)
  exact ⟨s₂, o, castTop (ef m) h1, h2, h3, h4⟩
/-- weaker promise -/
theorem OConK.imp {y : MethodName} {bytes : ByteArray} {maxL : Nat} {ret : Option FieldType} {rm : Room} {as' : Array Value} {Q' : Option Value → Heap → List Loc → Prop} (H : OConK l Z y bytes maxL ret rm kc ks as' h Q) (k : ∀ v h' L, Q v h' L → Q' v h' L) : OConK l Z y bytes maxL ret rm kc ks as' h Q' := by
  intro ws p e ha hc hk s m args below hf happ hP hK
  obtain ⟨n, o, h1, h2, h3, v, L, h4, h5, h6⟩ := H ws p e ha hc hk s m args below hf happ hP hK
  exact ⟨n, o, h1, h2, h3, v, L, h4, k _ _ _ h5, h6⟩
theorem oCallS (X : Stand p l e R s m args below meth c T locs cells slots) (hx : p.tables.exec = Jvm.exec) (hZ : Z.Warmed39 s.vm) {own : String} {index : Nat} {y : MethodName} {bytes : ByteArray} {maxL : Nat} {ret : Option FieldType} {rm : Room} {as' : Array Value} {Qc : Option Value → Heap → List Loc → Prop}
    (hown : s.vm.findClass own = some m.cls) (w1 : (Jvm.Cond.methodLink own index y).before a0 Z = true) (w2 : (Jvm.Cond.static y).before a0 Z = true) (w3 : (Jvm.Cond.initialized y.cls).before a0 Z = true) (w4 : (Jvm.Cond.code y bytes maxL ret).before a0 Z = true)
    (hy : y.cls ≠ "java/lang/invoke/MethodHandle" ∧ y.cls ≠ "java/lang/invoke/VarHandle") (hM : OCon l Z y bytes maxL ret rm as' h Qc) (eT : T.heap = h) {pc : Nat} {Ls : Array Slot} {st : List Value} (argsL rest : List Value) (hst : st = argsL.reverse ++ rest) (has : argsL.toArray = as') (hsize : Ls.size = c.maxLocals)
    (hlen : ∀ sig, parseMethodDescriptor y.desc = some sig → argsL.length = sig.parameters.length) (W : Nat) (hW : (rest.map fun v => v.category).sum ≤ W) (hfr : rm.frames + 1 ≤ R.frames) (hlo : W + (maxL + 11) + rm.locals ≤ R.locals) (hce : cells + rm.cells ≤ R.cells) (hsl : slots + rm.slots ≤ R.slots)
    (hd : decode c.code pc = .ok (.invokestatic index, 3))
    (k : ∀ v T' Lc, Stand p l e R s m args below meth c T' (locs ++ Lc) (cells + rm.cells) (slots + rm.slots) → Qc v T'.heap Lc → OGoal p e below s Q kc ks (T'.setTop (mkF m (pc + 3) Ls (v.toList ++ rest)))) :
    OGoal p e below s Q kc ks (T.setTop (mkF m pc Ls st)) := by
  subst hst has
  obtain ⟨v, _, ⟨T', L', k', n'⟩, -, X', ⟨Lc, hQ, l', y', z'⟩, st⟩ := Jvm.LawKit.callS X hx (y := y) hown (mvT hZ w1) (mvT hZ w2) (mvT hZ w3) (mvT hZ w4) hy (backOf (W := W) (hM []) hZ w4 w3 hfr hlo) (g := mkF m pc Ls (argsL.reverse ++ rest)) rfl hsize (argsL := argsL) (rest := rest) hlen rfl (by show 2 * 0 + _ ≤ _; omega) hd (fun _ _ => ⟨rfl, eT, hce, hsl⟩)
  dsimp only [Pt.U, Pt.locs, Pt.cells, Pt.slots] at X' l' y' z' st hQ
  subst l' y' z'
  exact OGoal.mp st (k v T' Lc X' hQ)
theorem oCallV (X : Stand p l e R s m args below meth c T locs cells slots) (hx : p.tables.exec = Jvm.exec) (hZ : Z.Warmed39 s.vm) {own C : String} {index : Nat} {y z : MethodName} {bytes : ByteArray} {maxL : Nat} {ret : Option FieldType} {rm : Room} {as' : Array Value} {Qc : Option Value → Heap → List Loc → Prop}
    (hown : s.vm.findClass own = some m.cls) (w1 : (Jvm.Cond.methodLink own index y).before a0 Z = true) (w2 : (Jvm.Cond.declares y).before a0 Z = true) (w5 : (Jvm.Cond.selects C y z).before a0 Z = true) (w6 : (Jvm.Cond.instanceMethod z).before a0 Z = true) (w3 : (Jvm.Cond.initialized z.cls).before a0 Z = true) (w4 : (Jvm.Cond.code z bytes maxL ret).before a0 Z = true)
    (hy : y.cls ≠ "java/lang/invoke/MethodHandle" ∧ y.cls ≠ "java/lang/invoke/VarHandle") (hM : OCon l Z z bytes maxL ret rm as' h Qc) (eT : T.heap = h) {a : Addr} (E : Exa Z h a C) {pc : Nat} {Ls : Array Slot} {st : List Value} (argsL rest : List Value) (hst : st = argsL.reverse ++ .ref a :: rest) (has : (.ref a :: argsL).toArray = as') (hsize : Ls.size = c.maxLocals)
    (hnf : NotFace s y) (hlen : ∀ sig, parseMethodDescriptor y.desc = some sig → argsL.length = sig.parameters.length) (W : Nat) (hW : (rest.map fun v => v.category).sum ≤ W) (hfr : rm.frames + 1 ≤ R.frames) (hlo : W + (maxL + 11) + rm.locals ≤ R.locals) (hce : cells + rm.cells ≤ R.cells) (hsl : slots + rm.slots ≤ R.slots)
    (hd : decode c.code pc = .ok (.invokevirtual index, 3))
    (k : ∀ v T' Lc, Stand p l e R s m args below meth c T' (locs ++ Lc) (cells + rm.cells) (slots + rm.slots) → Qc v T'.heap Lc → OGoal p e below s Q kc ks (T'.setTop (mkF m (pc + 3) Ls (v.toList ++ rest)))) :
    OGoal p e below s Q kc ks (T.setTop (mkF m pc Ls st)) := by
  subst hst has
  obtain ⟨cq, kq, qa, qb, qc⟩ := isOf hZ eT E
  obtain ⟨v, _, ⟨T', L', k', n'⟩, -, X', ⟨Lc, hQ, l', y', z'⟩, st⟩ := X.virtualBack hx (y := y) (z := z) hown (mvT hZ w1) (mvT hZ w2) hnf (mvT hZ w5) (mvT hZ w6) hy (backOf (W := W) (hM []) hZ w4 w3 hfr hlo) qa qc (g := mkF m pc Ls (argsL.reverse ++ .ref a :: rest)) rfl hsize (Steps.refl _) (argsL := argsL) (rest := rest) hlen rfl (by show 2 * 0 + _ ≤ _; omega) hd (fun _ _ => ⟨rfl, eT, hce, hsl⟩)
  dsimp only [Pt.U, Pt.locs, Pt.cells, Pt.slots] at X' l' y' z' st hQ
  subst l' y' z'
  exact OGoal.mp (fun t q => st.trans q) (k v T' Lc X' hQ)
theorem oCallN (X : Stand p l e R s m args below meth c T locs cells slots) (hx : p.tables.exec = Jvm.exec) (hZ : Z.Warmed39 s.vm) {own : String} {index : Nat} {y : MethodName} {bytes : ByteArray} {maxL : Nat} {rm : Room} {as' : Array Value} {Qc : Option Value → Heap → List Loc → Prop}
    (hy1 : y.name = "<init>") (hown : s.vm.findClass own = some m.cls) (w1 : (Jvm.Cond.methodLink own index y).before a0 Z = true) (w6 : (Jvm.Cond.instanceMethod y).before a0 Z = true) (w3 : (Jvm.Cond.initialized y.cls).before a0 Z = true) (w4 : (Jvm.Cond.code y bytes maxL none).before a0 Z = true)
    (hy : y.cls ≠ "java/lang/invoke/MethodHandle" ∧ y.cls ≠ "java/lang/invoke/VarHandle") (hM : OCon l Z y bytes maxL none rm as' h Qc) (eT : T.heap = h) {a : Addr} {pc : Nat} {Ls : Array Slot} {st : List Value} (argsL rest : List Value) (hst : st = argsL.reverse ++ .ref a :: rest) (has : (.ref a :: argsL).toArray = as') (hsize : Ls.size = c.maxLocals)
    (hlen : ∀ sig, parseMethodDescriptor y.desc = some sig → argsL.length = sig.parameters.length) (W : Nat) (hW : (rest.map fun v => v.category).sum ≤ W) (hfr : rm.frames + 1 ≤ R.frames) (hlo : W + (maxL + 11) + rm.locals ≤ R.locals) (hce : cells + rm.cells ≤ R.cells) (hsl : slots + rm.slots ≤ R.slots)
    (hd : decode c.code pc = .ok (.invokespecial index, 3))
    (k : ∀ v T' Lc, Stand p l e R s m args below meth c T' (locs ++ Lc) (cells + rm.cells) (slots + rm.slots) → Qc v T'.heap Lc → OGoal p e below s Q kc ks (T'.setTop (mkF m (pc + 3) Ls (v.toList ++ rest)))) :
    OGoal p e below s Q kc ks (T.setTop (mkF m pc Ls st)) := by
  subst hst has
  obtain ⟨v, _, ⟨T', L', k', n'⟩, -, X', ⟨Lc, hQ, l', y', z'⟩, st⟩ := X.specialBack hx (y := y) hy1 hown (mvT hZ w1) (mvT hZ w6) (mvT hZ w4) hy (backOf (W := W) (hM []) hZ w4 w3 hfr hlo) (g := mkF m pc Ls (argsL.reverse ++ .ref a :: rest)) rfl hsize (Steps.refl _) (a := a) (argsL := argsL) (rest := rest) hlen rfl (by show 2 * 0 + _ ≤ _; omega) hd (fun _ _ => ⟨rfl, eT, hce, hsl⟩)
  dsimp only [Pt.U, Pt.locs, Pt.cells, Pt.slots] at X' l' y' z' st hQ
  subst l' y' z'
  exact OGoal.mp (fun t q => st.trans q) (k v T' Lc X' hQ)
theorem oNotFace {s : State} {C : String} {k : Nat} (h : (Jvm.Cond.instantiable C k).before args s = true) : ∃ c kc, s.vm.findClass C = some c ∧ s.vm.classes[c]? = some kc ∧ kc.isInterface = false := by
  obtain ⟨c, kc, h1, h2, -, h3, -, -⟩ := Cond.instantiable_spec h
  exact ⟨c, kc, h1, h2, (Bool.or_eq_false_iff.mp h3).1⟩
theorem oCallP (X : Stand p l e R s m args below meth c T locs cells slots) (hx : p.tables.exec = Jvm.exec) (hZ : Z.Warmed39 s.vm) {own C : String} {index : Nat} {y : MethodName} {bytes : ByteArray} {maxL : Nat} {ret : Option FieldType} {rm : Room} {as' : Array Value} {Qc : Option Value → Heap → List Loc → Prop}
    (hown : s.vm.findClass own = some m.cls) (w1 : (Jvm.Cond.methodLink own index y).before a0 Z = true) {kk : Nat} (w5 : (Jvm.Cond.instantiable y.cls kk).before a0 Z = true) (w6 : (Jvm.Cond.instanceMethod y).before a0 Z = true) (w7 : (Jvm.Cond.privateMethod y).before a0 Z = true) (w3 : (Jvm.Cond.initialized y.cls).before a0 Z = true) (w4 : (Jvm.Cond.code y bytes maxL ret).before a0 Z = true)
    (hy : y.cls ≠ "java/lang/invoke/MethodHandle" ∧ y.cls ≠ "java/lang/invoke/VarHandle") (hM : OCon l Z y bytes maxL ret rm as' h Qc) (eT : T.heap = h) {a : Addr} (E : Exa Z h a C) {pc : Nat} {Ls : Array Slot} {st : List Value} (argsL rest : List Value) (hst : st = argsL.reverse ++ .ref a :: rest) (has : (.ref a :: argsL).toArray = as') (hsize : Ls.size = c.maxLocals)
    (hlen : ∀ sig, parseMethodDescriptor y.desc = some sig → argsL.length = sig.parameters.length) (W : Nat) (hW : (rest.map fun v => v.category).sum ≤ W) (hfr : rm.frames + 1 ≤ R.frames) (hlo : W + (maxL + 11) + rm.locals ≤ R.locals) (hce : cells + rm.cells ≤ R.cells) (hsl : slots + rm.slots ≤ R.slots)
    (hd : decode c.code pc = .ok (.invokevirtual index, 3))
    (k : ∀ v T' Lc, Stand p l e R s m args below meth c T' (locs ++ Lc) (cells + rm.cells) (slots + rm.slots) → Qc v T'.heap Lc → OGoal p e below s Q kc ks (T'.setTop (mkF m (pc + 3) Ls (v.toList ++ rest)))) :
    OGoal p e below s Q kc ks (T.setTop (mkF m pc Ls st)) := by
  subst hst has
  obtain ⟨cq, q1, q2⟩ := E.cell
  obtain ⟨c1, k1, hc1, hk1, hi1⟩ := oNotFace (args := #[]) (mvT hZ w5)
  have hpr : s.PrivateAt y := Cond.privateMethod_at (mvP hZ w7 (args := #[]))
  have hse := selects_self_of_private (args := args) hc1 hk1 hi1 hpr (mvT hZ w6) hy
  obtain ⟨v, _, ⟨T', L', k', n'⟩, -, X', ⟨Lc, hQ, l', y', z'⟩, st⟩ := X.privateBack hx (y := y) hown (mvT hZ w1) (mvT hZ w6) hse hpr (mvT hZ w4) hy (backOf (W := W) (hM []) hZ w4 w3 hfr hlo) (g := mkF m pc Ls (argsL.reverse ++ .ref a :: rest)) rfl hsize (Steps.refl _) (a := a) (by rw [eT]; exact q1) q2 (argsL := argsL) (rest := rest) hlen rfl (by show 2 * 0 + _ ≤ _; omega) hd (fun _ _ => ⟨rfl, eT, hce, hsl⟩)
  dsimp only [Pt.U, Pt.locs, Pt.cells, Pt.slots] at X' l' y' z' st hQ
  subst l' y' z'
  exact OGoal.mp (fun t q => st.trans q) (k v T' Lc X' hQ)
theorem oLrem {g : JFrame} {target : State} (X : Stand p l e R s m args below meth c T locs cells slots) (hx : p.tables.exec = Jvm.exec) (hg : g.method = m) {x y : Int64} {rest : List Value} (hd : decode c.code g.pc = .ok (.lrem, 1)) (hs : g.stack = .long y :: .long x :: rest) (hy : y ≠ 0)
    (hr : Steps p.tables e below (T.setTop { g with pc := g.pc + 1, stack := .long (x % y) :: rest }) target) : Steps p.tables e below (T.setTop g) target := XT.lrem X.here hx hg hd hs hy (by rw [lrem_mod]; exact hr)
theorem oLt {x y : Int32} (h : x < y) : x.toInt < y.toInt := Int32.lt_iff_toInt_lt.mp h
theorem oNlt {x y : Int32} (h : ¬ x < y) : y.toInt ≤ x.toInt := Int.not_lt.mp fun q => h (Int32.lt_iff_toInt_lt.mpr q)
theorem oEq {x y : Int32} (h : x = y) : x.toInt = y.toInt := congrArg _ h
theorem oNe {x y : Int32} (h : ¬ x = y) : x.toInt ≠ y.toInt := fun q => h (Int32.toInt_inj.mp q)
theorem oLtL {x y : Int64} (h : x < y) : x.toInt < y.toInt := Int64.lt_iff_toInt_lt.mp h
theorem oNltL {x y : Int64} (h : ¬ x < y) : y.toInt ≤ x.toInt := Int.not_lt.mp fun q => h (Int64.lt_iff_toInt_lt.mpr q)
theorem oEqL {x y : Int64} (h : x = y) : x.toInt = y.toInt := congrArg _ h
theorem oNeL {x y : Int64} (h : ¬ x = y) : x.toInt ≠ y.toInt := fun q => h (Int64.toInt_inj.mp q)
theorem mLt {x y : Int32} (h : x.toInt < y.toInt) : x < y := Int32.lt_iff_toInt_lt.mpr h
theorem mNlt {x y : Int32} (h : y.toInt ≤ x.toInt) : ¬ x < y := fun q => absurd (oLt q) (Int.not_lt.mpr h)
theorem mEq {x y : Int32} (h : x.toInt = y.toInt) : x = y := Int32.toInt_inj.mp h
theorem mNe {x y : Int32} (h : x.toInt ≠ y.toInt) : ¬ x = y := fun q => h (congrArg _ q)
theorem mLtL {x y : Int64} (h : x.toInt < y.toInt) : x < y := Int64.lt_iff_toInt_lt.mpr h
theorem mNltL {x y : Int64} (h : y.toInt ≤ x.toInt) : ¬ x < y := fun q => absurd (oLtL q) (Int.not_lt.mpr h)
theorem mEqL {x y : Int64} (h : x.toInt = y.toInt) : x = y := Int64.toInt_inj.mp h
theorem mNeL {x y : Int64} (h : x.toInt ≠ y.toInt) : ¬ x = y := fun q => h (congrArg _ q)
theorem oRemL (x y : Int64) : 0 ≤ x.toInt → 0 < y.toInt → 0 ≤ (x % y).toInt ∧ (x % y).toInt < y.toInt := by
  intro h1 h2
  rw [Int64.toInt_mod, Int.tmod_eq_emod_of_nonneg h1]
  exact ⟨Int.emod_nonneg _ (by omega), Int.emod_lt_of_pos _ h2⟩
theorem oRemI (x y : Int32) : 0 ≤ x.toInt → 0 < y.toInt → 0 ≤ (x % y).toInt ∧ (x % y).toInt < y.toInt := by
  intro h1 h2
  rw [Int32.toInt_mod, Int.tmod_eq_emod_of_nonneg h1]
  exact ⟨Int.emod_nonneg _ (by omega), Int.emod_lt_of_pos _ h2⟩
/-- an array of kind ty, of length z, whose i-th component is f i -/
def OArr (Z : State) (h : Heap) (a : Addr) (ty : FieldType) (z : Int32) (f : Nat → Value) : Prop := ∃ c : Cell, Arr Z h a c ty ∧ c.slots.size = z.toNatClampNeg ∧ ¬ z < 0 ∧ ∀ i, i < c.slots.size → c.slots[i]? = some (f i)
section OArrs
variable {h' : Heap} {a b : Addr} {ty : FieldType} {z : Int32} {f : Nat → Value} {sl : Nat} {v : Value}
theorem OArr.lt (F : OArr Z h a ty z f) : a < h.size := by obtain ⟨c, A, -⟩ := F; exact A.lt
theorem OArr.ext (F : OArr Z h a ty z f) (E : Ext h h') : OArr Z h' a ty z f := by obtain ⟨c, A, r⟩ := F; exact ⟨c, A.ext E, r⟩
theorem OArr.other (F : OArr Z h b ty z f) (W : Wr h h' a sl v) (q : b ≠ a) : OArr Z h' b ty z f := by obtain ⟨c, A, r⟩ := F; exact ⟨c, A.other W q, r⟩
theorem OArr.keep {ws : List Addr} (F : OArr Z h a ty z f) (K : Keep h h' ws) (q : a ∉ ws) : OArr Z h' a ty z f := by obtain ⟨c, A, r⟩ := F; exact ⟨c, ⟨K.2.1 a c A.1 q, A.2⟩, r⟩
theorem OArr.imp {g : Nat → Value} (F : OArr Z h a ty z f) (k : ∀ i, i < z.toNatClampNeg → f i = g i) : OArr Z h a ty z g := by
  obtain ⟨c, A, S, r, G⟩ := F
  exact ⟨c, A, S, r, fun i hi => by rw [G i hi, k i (by rw [← S]; exact hi)]⟩
theorem OArr.new {k : ClassId} (A : Arr Z h a (newA k ty z) ty) (q : ¬ z < 0) : OArr Z h a ty z (fun _ => defaultValue ty) :=
  ⟨_, A, sz_new _ _ _, q, fun i hi => by simp only [newA, Array.size_replicate] at hi; simp [newA, hi]⟩
theorem OArr.set (F : OArr Z h a ty z f) (W : Wr h h' a sl v) : OArr Z h' a ty z (fun i => if i = sl then v else f i) := by
  obtain ⟨c, A, S, r, G⟩ := F
  refine ⟨_, A.same W, by rw [sz_set]; exact S, r, fun i hi => ?_⟩
  rw [sz_set] at hi
  show (c.setSlot sl v).slots[i]? = some (if i = sl then v else f i)
  by_cases q : i = sl
  · subst q; simp [Cell.setSlot, hi]
  · rw [if_neg q, ← G i hi]
    simp [Cell.setSlot, Array.getElem?_setIfInBounds, Ne.symm q]
theorem oNeA {C : String} {k : Nat} (E : Exa Z h a C) (wi : (Jvm.Cond.instantiable C k).before a0 Z = true) (F : OArr Z h b ty z f) : a ≠ b := by
  obtain ⟨c, A, -⟩ := F; exact ne_arr E wi A
theorem oIn {j : Int32} {n : Nat} (S : n = z.toNatClampNeg) (h1 : 0 ≤ j.toInt) (h2 : j.toInt < z.toInt) : ¬ (j < 0 ∨ n ≤ j.toNatClampNeg) := by
  intro q
  have e0 : (0 : Int32).toInt = 0 := by decide
  have e1 : j.toNatClampNeg = j.toInt.toNat := rfl
  have e2 : z.toNatClampNeg = z.toInt.toNat := rfl
  rcases q with q | q
  · have := oLt q; omega
  · rw [S, e1, e2] at q; omega
theorem oLen (X : Stand p l e R s m args below meth c T locs cells slots) (hx : p.tables.exec = Jvm.exec) (hZ : Z.Warmed39 s.vm) (eT : T.heap = h) (F : OArr Z h a ty z f) {g : JFrame} (hg : g.method = m) {rest : List Value} (hs : g.stack = .ref a :: rest) (hd : decode c.code g.pc = .ok (.arraylength, 1)) {target : State}
    (k : Steps p.tables e below (T.setTop { g with pc := g.pc + 1, stack := .int z :: rest }) target) : Steps p.tables e below (T.setTop g) target := by
  obtain ⟨cl, A, S, r, -⟩ := F
  refine X.arraylength hx (by rw [eT]; exact A.1) (State.isArrayOf_alike hZ.alike A.2.1) (g := g) hg hs hd _ ?_
  rw [len_of S r]; exact k
theorem oInd (F : OArr Z h a ty z f) {j : Int32} (h1 : 0 ≤ j.toInt) (h2 : j.toInt < z.toInt) : ∃ cl, Arr Z h a cl ty ∧ ¬ (j < 0 ∨ cl.slots.size ≤ j.toNatClampNeg) ∧ cl.slots[j.toNatClampNeg]? = some (f j.toNatClampNeg) := by
  obtain ⟨cl, A, S, r, G⟩ := F
  have q := oIn S h1 h2
  exact ⟨cl, A, q, G _ (Nat.lt_of_not_le fun w => q (Or.inr w))⟩
theorem oLdI (X : Stand p l e R s m args below meth c T locs cells slots) (hx : p.tables.exec = Jvm.exec) (hZ : Z.Warmed39 s.vm) (eT : T.heap = h) (F : OArr Z h a .int z f) {j x : Int32} (h1 : 0 ≤ j.toInt) (h2 : j.toInt < z.toInt) (hv : f j.toNatClampNeg = .int x) {g : JFrame} (hg : g.method = m) {rest : List Value} (hs : g.stack = .int j :: .ref a :: rest) (hd : decode c.code g.pc = .ok (.iaload, 1)) {target : State}
    (k : Steps p.tables e below (T.setTop { g with pc := g.pc + 1, stack := .int x :: rest }) target) : Steps p.tables e below (T.setTop g) target := by
  obtain ⟨cl, A, q, G⟩ := oInd F h1 h2
  rw [hv] at G
  exact X.iaload hx (j := j) (v := .int x) (by rw [eT]; exact A.1) (State.isArrayOf_alike hZ.alike A.2.1) A.2.2 q G (g := g) hg hs hd _ k
theorem oLdD (X : Stand p l e R s m args below meth c T locs cells slots) (hx : p.tables.exec = Jvm.exec) (hZ : Z.Warmed39 s.vm) (eT : T.heap = h) (F : OArr Z h a .double z f) {j : Int32} {x : UInt64} (h1 : 0 ≤ j.toInt) (h2 : j.toInt < z.toInt) (hv : f j.toNatClampNeg = .double x) {g : JFrame} (hg : g.method = m) {rest : List Value} (hs : g.stack = .int j :: .ref a :: rest) (hd : decode c.code g.pc = .ok (.daload, 1)) {target : State}
    (k : Steps p.tables e below (T.setTop { g with pc := g.pc + 1, stack := .double x :: rest }) target) : Steps p.tables e below (T.setTop g) target := by
  obtain ⟨cl, A, q, G⟩ := oInd F h1 h2
  rw [hv] at G
  exact X.daload hx (j := j) (v := .double x) (by rw [eT]; exact A.1) (State.isArrayOf_alike hZ.alike A.2.1) A.2.2 q G (g := g) hg hs hd _ k
theorem oLdR (X : Stand p l e R s m args below meth c T locs cells slots) (hx : p.tables.exec = Jvm.exec) (hZ : Z.Warmed39 s.vm) (eT : T.heap = h) (F : OArr Z h a ty z f) (hty : ty.isReference = true) {j : Int32} {x : Value} (h1 : 0 ≤ j.toInt) (h2 : j.toInt < z.toInt) (hv : f j.toNatClampNeg = x) {g : JFrame} (hg : g.method = m) {rest : List Value} (hs : g.stack = .int j :: .ref a :: rest) (hd : decode c.code g.pc = .ok (.aaload, 1)) {target : State}
    (k : Steps p.tables e below (T.setTop { g with pc := g.pc + 1, stack := x :: rest }) target) : Steps p.tables e below (T.setTop g) target := by
  obtain ⟨cl, A, q, G⟩ := oInd F h1 h2
  rw [hv] at G
  exact X.aaload hx (j := j) (v := x) (by rw [eT]; exact A.1) (State.isArrayOf_alike hZ.alike A.2.1) hty A.2.2 q G (g := g) hg hs hd _ k
theorem OArr.of_arv {kc : ClassId} {vs : List Value} {d : Value} (F : Arv Z h a kc ty z vs d) : OArr Z h a ty z (fun i => vs.getD i d) := by
  obtain ⟨c, A, -, S, r, H, -⟩ := F
  exact ⟨c, A, S, r, H⟩
theorem oKext (K : Keep h h' []) : Ext h h' := ⟨K.1, fun a c q => K.2.1 a c q (fun z => nomatch z)⟩
theorem oLdC (X : Stand p l e R s m args below meth c T locs cells slots) (hx : p.tables.exec = Jvm.exec) (hZ : Z.Warmed39 s.vm) (eT : T.heap = h) (F : OArr Z h a .char z f) {j x : Int32} (h1 : 0 ≤ j.toInt) (h2 : j.toInt < z.toInt) (hv : f j.toNatClampNeg = .int x) {g : JFrame} (hg : g.method = m) {rest : List Value} (hs : g.stack = .int j :: .ref a :: rest) (hd : decode c.code g.pc = .ok (.caload, 1)) {target : State}
    (k : Steps p.tables e below (T.setTop { g with pc := g.pc + 1, stack := .int x :: rest }) target) : Steps p.tables e below (T.setTop g) target := by
  obtain ⟨cl, A, q, G⟩ := oInd F h1 h2
  rw [hv] at G
  exact X.caload hx (j := j) (v := .int x) (by rw [eT]; exact A.1) (State.isArrayOf_alike hZ.alike A.2.1) A.2.2 q G (g := g) hg hs hd _ k
theorem oLdB (X : Stand p l e R s m args below meth c T locs cells slots) (hx : p.tables.exec = Jvm.exec) (hZ : Z.Warmed39 s.vm) (eT : T.heap = h) (F : OArr Z h a .byte z f) {j x : Int32} (h1 : 0 ≤ j.toInt) (h2 : j.toInt < z.toInt) (hv : f j.toNatClampNeg = .int x) {g : JFrame} (hg : g.method = m) {rest : List Value} (hs : g.stack = .int j :: .ref a :: rest) (hd : decode c.code g.pc = .ok (.baload, 1)) {target : State}
    (k : Steps p.tables e below (T.setTop { g with pc := g.pc + 1, stack := .int x :: rest }) target) : Steps p.tables e below (T.setTop g) target := by
  obtain ⟨cl, A, q, G⟩ := oInd F h1 h2
  rw [hv] at G
  exact X.baloadBytes hx (j := j) (v := .int x) (by rw [eT]; exact A.1) (State.isArrayOf_alike hZ.alike A.2.1) A.2.2 q G (g := g) hg hs hd _ k
theorem oLdZ (X : Stand p l e R s m args below meth c T locs cells slots) (hx : p.tables.exec = Jvm.exec) (hZ : Z.Warmed39 s.vm) (eT : T.heap = h) (F : OArr Z h a .boolean z f) {j x : Int32} (h1 : 0 ≤ j.toInt) (h2 : j.toInt < z.toInt) (hv : f j.toNatClampNeg = .int x) {g : JFrame} (hg : g.method = m) {rest : List Value} (hs : g.stack = .int j :: .ref a :: rest) (hd : decode c.code g.pc = .ok (.baload, 1)) {target : State}
    (k : Steps p.tables e below (T.setTop { g with pc := g.pc + 1, stack := .int x :: rest }) target) : Steps p.tables e below (T.setTop g) target := by
  obtain ⟨cl, A, q, G⟩ := oInd F h1 h2
  rw [hv] at G
  exact X.baloadBooleans hx (j := j) (v := .int x) (by rw [eT]; exact A.1) (State.isArrayOf_alike hZ.alike A.2.1) A.2.2 q G (g := g) hg hs hd _ k
theorem oStC (X : Stand p l e R s m args below meth c T locs cells slots) (hx : p.tables.exec = Jvm.exec) (hZ : Z.Warmed39 s.vm) (eT : T.heap = h) (F : OArr Z h a .char z f) {j x : Int32} (h1 : 0 ≤ j.toInt) (h2 : j.toInt < z.toInt) (hn : nar .char x = x) {g : JFrame} (hg : g.method = m) {rest : List Value} (hs : g.stack = .int x :: .int j :: .ref a :: rest) (hd : decode c.code g.pc = .ok (.castore, 1)) :
    ∃ T' h', Stand p l e R s m args below meth c T' (locs ++ [⟨a, j.toNatClampNeg⟩]) cells slots ∧ T'.heap = h' ∧ Wr h h' a j.toNatClampNeg (.int x) ∧ ∀ target, Steps p.tables e below (T'.setTop { g with pc := g.pc + 1, stack := rest }) target → Steps p.tables e below (T.setTop g) target := by
  obtain ⟨cl, A, q, G⟩ := oInd F h1 h2
  have r := stC X hx hZ eT A q hg hs hd
  rw [hn] at r; exact r
theorem oStB (X : Stand p l e R s m args below meth c T locs cells slots) (hx : p.tables.exec = Jvm.exec) (hZ : Z.Warmed39 s.vm) (eT : T.heap = h) (F : OArr Z h a .byte z f) {j x : Int32} (h1 : 0 ≤ j.toInt) (h2 : j.toInt < z.toInt) (hn : nar .byte x = x) {g : JFrame} (hg : g.method = m) {rest : List Value} (hs : g.stack = .int x :: .int j :: .ref a :: rest) (hd : decode c.code g.pc = .ok (.bastore, 1)) :
    ∃ T' h', Stand p l e R s m args below meth c T' (locs ++ [⟨a, j.toNatClampNeg⟩]) cells slots ∧ T'.heap = h' ∧ Wr h h' a j.toNatClampNeg (.int x) ∧ ∀ target, Steps p.tables e below (T'.setTop { g with pc := g.pc + 1, stack := rest }) target → Steps p.tables e below (T.setTop g) target := by
  obtain ⟨cl, A, q, G⟩ := oInd F h1 h2
  have r := stB X hx hZ eT A q hg hs hd
  rw [hn] at r; exact r
theorem oStZ (X : Stand p l e R s m args below meth c T locs cells slots) (hx : p.tables.exec = Jvm.exec) (hZ : Z.Warmed39 s.vm) (eT : T.heap = h) (F : OArr Z h a .boolean z f) {j x : Int32} (h1 : 0 ≤ j.toInt) (h2 : j.toInt < z.toInt) (hn : nar .boolean x = x) {g : JFrame} (hg : g.method = m) {rest : List Value} (hs : g.stack = .int x :: .int j :: .ref a :: rest) (hd : decode c.code g.pc = .ok (.bastore, 1)) :
    ∃ T' h', Stand p l e R s m args below meth c T' (locs ++ [⟨a, j.toNatClampNeg⟩]) cells slots ∧ T'.heap = h' ∧ Wr h h' a j.toNatClampNeg (.int x) ∧ ∀ target, Steps p.tables e below (T'.setTop { g with pc := g.pc + 1, stack := rest }) target → Steps p.tables e below (T.setTop g) target := by
  obtain ⟨cl, A, q, G⟩ := oInd F h1 h2
  have r := stZ X hx hZ eT A q hg hs hd
  rw [hn] at r; exact r
theorem oStI (X : Stand p l e R s m args below meth c T locs cells slots) (hx : p.tables.exec = Jvm.exec) (hZ : Z.Warmed39 s.vm) (eT : T.heap = h) (F : OArr Z h a .int z f) {j x : Int32} (h1 : 0 ≤ j.toInt) (h2 : j.toInt < z.toInt) {g : JFrame} (hg : g.method = m) {rest : List Value} (hs : g.stack = .int x :: .int j :: .ref a :: rest) (hd : decode c.code g.pc = .ok (.iastore, 1)) :
    ∃ T' h', Stand p l e R s m args below meth c T' (locs ++ [⟨a, j.toNatClampNeg⟩]) cells slots ∧ T'.heap = h' ∧ Wr h h' a j.toNatClampNeg (.int x) ∧ ∀ target, Steps p.tables e below (T'.setTop { g with pc := g.pc + 1, stack := rest }) target → Steps p.tables e below (T.setTop g) target := by
  obtain ⟨cl, A, q, G⟩ := oInd F h1 h2
  exact stI X hx hZ eT A q hg hs hd
theorem oStD (X : Stand p l e R s m args below meth c T locs cells slots) (hx : p.tables.exec = Jvm.exec) (hZ : Z.Warmed39 s.vm) (eT : T.heap = h) (F : OArr Z h a .double z f) {j : Int32} {x : UInt64} (h1 : 0 ≤ j.toInt) (h2 : j.toInt < z.toInt) {g : JFrame} (hg : g.method = m) {rest : List Value} (hs : g.stack = .double x :: .int j :: .ref a :: rest) (hd : decode c.code g.pc = .ok (.dastore, 1)) :
    ∃ T' h', Stand p l e R s m args below meth c T' (locs ++ [⟨a, j.toNatClampNeg⟩]) cells slots ∧ T'.heap = h' ∧ Wr h h' a j.toNatClampNeg (.double x) ∧ ∀ target, Steps p.tables e below (T'.setTop { g with pc := g.pc + 1, stack := rest }) target → Steps p.tables e below (T.setTop g) target := by
  obtain ⟨cl, A, q, G⟩ := oInd F h1 h2
  exact stD X hx hZ eT A q hg hs hd
theorem oClone (X : Stand p l e R s m args below meth c T locs cells slots) (hx : p.tables.exec = Jvm.exec) (hZ : Z.Warmed39 s.vm) {own ad : String} {index : Nat} (hown : s.vm.findClass own = some m.cls)
    (w1 : (Jvm.Cond.methodLink own index ⟨ad, "clone", "()Ljava/lang/Object;"⟩).before a0 Z = true) (w2 : (Jvm.Cond.sameMethod ad "java/lang/Object" "clone" "()Ljava/lang/Object;").before a0 Z = true) (w3 : (Jvm.Cond.native ⟨"java/lang/Object", "clone", "()Ljava/lang/Object;"⟩).before a0 Z = true)
    (w4 : (Jvm.Cond.instanceMethod ⟨"java/lang/Object", "clone", "()Ljava/lang/Object;"⟩).before a0 Z = true) (w5 : (Jvm.Cond.selects ad ⟨ad, "clone", "()Ljava/lang/Object;"⟩ ⟨"java/lang/Object", "clone", "()Ljava/lang/Object;"⟩).before a0 Z = true) (w6 : (Jvm.Cond.castable ad "java/lang/Cloneable").before a0 Z = true)
    (eT : T.heap = h) (F : OArr Z h a ty z f) (E : Exa Z h a ad) (hfit : ∀ i, i < z.toNatClampNeg → fits ty (f i) = true) {g : JFrame} (hg : g.method = m) (hsize : g.locals.size = c.maxLocals) {rest : List Value} (hst : g.stack = .ref a :: rest) (hd : decode c.code g.pc = .ok (.invokevirtual index, 3))
    (hf : 1 ≤ R.frames) {W cap : Nat} (hW : 2 * g.monitorRoom + (rest.map fun v => v.category).sum ≤ W) (hl : W + 14 ≤ R.locals) (hcap : z.toNatClampNeg ≤ cap) (hc : cells + 1 ≤ R.cells) (hsl : slots + cap ≤ R.slots) :
    ∃ T' h', Stand p l e R s m args below meth c T' locs (cells + 1) (slots + cap) ∧ T'.heap = h' ∧ Ext h h' ∧ OArr Z h' h.size ty z f ∧ Exa Z h' h.size ad ∧
      ∀ target, Steps p.tables e below (T'.setTop { g with pc := g.pc + 3, stack := .ref h.size :: rest }) target → Steps p.tables e below (T.setTop g) target := by
  obtain ⟨cl, A, S, r, G⟩ := F
  have FC : FitC Z cl := fitC_of A fun i hi v hv => by
    rw [G i hi] at hv; cases hv; exact hfit i (by rw [← S]; exact hi)
  obtain ⟨T', h', X', e', ex, A', E', st⟩ := cloneA X hx hZ hown w1 w2 w3 w4 w5 w6 eT A E FC hg hsize hst hd hf hW hl (by rw [S]; exact hcap) hc hsl
  exact ⟨T', h', X', e', ex, ⟨cloneOf cl, A', S, r, G⟩, E', st⟩
theorem oCopy (X : Stand p l e R s m args below meth c T locs cells slots) (hx : p.tables.exec = Jvm.exec) (hZ : Z.Warmed39 s.vm) {own : String} {index : Nat} (hown : s.vm.findClass own = some m.cls)
    (w1 : (Jvm.Cond.methodLink own index arraycopyName).before a0 Z = true) (w2 : (Jvm.Cond.native arraycopyName).before a0 Z = true) (w3 : (Jvm.Cond.static arraycopyName).before a0 Z = true) (w4 : (Jvm.Cond.initialized "java/lang/System").before a0 Z = true)
    (eT : T.heap = h) {za zb : Int32} {fb : Nat → Value} (Fa : OArr Z h a ty za f) (Fb : OArr Z h b ty zb fb) (hty : refKind ty = false) (hfit : ∀ i, i < za.toNatClampNeg → fits ty (f i) = true)
    {sp dp n : Int32} (h1 : 0 ≤ sp.toInt) (h2 : 0 ≤ dp.toInt) (h3 : 0 ≤ n.toInt) (h4 : sp.toInt + n.toInt ≤ za.toInt) (h5 : dp.toInt + n.toInt ≤ zb.toInt)
    {g : JFrame} (hg : g.method = m) (hsize : g.locals.size = c.maxLocals) {rest : List Value} (hst : g.stack = .int n :: .int dp :: .ref b :: .int sp :: .ref a :: rest) (hd : decode c.code g.pc = .ok (.invokestatic index, 3))
    (hf : 1 ≤ R.frames) (hl : 2 * g.monitorRoom + (rest.map fun v => v.category).sum + (nativeFrameWords "java/lang/System" "arraycopy" 5 + 11) ≤ R.locals) :
    ∃ T' h' L, Stand p l e R s m args below meth c T' (locs ++ L) cells slots ∧ T'.heap = h' ∧ Keep h h' [b] ∧ OArr Z h' b ty zb (fun i => if dp.toNatClampNeg ≤ i ∧ i < dp.toNatClampNeg + n.toNatClampNeg then f (sp.toNatClampNeg + (i - dp.toNatClampNeg)) else fb i) ∧ (∀ y ∈ L, y.base = b) ∧
      ∀ target, Steps p.tables e below (T'.setTop { g with pc := g.pc + 3, stack := rest }) target → Steps p.tables e below (T.setTop g) target := by
  obtain ⟨ca, Aa, Sa, ra, Ga⟩ := Fa
  obtain ⟨cb, Ab, Sb, rb, Gb⟩ := Fb
  subst eT
  obtain ⟨hsa, ka, hka, compa, hkinda⟩ := State.isArrayOf_alike hZ.alike Aa.2.1
  obtain ⟨hsb, kb, hkb, compb, hkindb⟩ := State.isArrayOf_alike hZ.alike Ab.2.1
  have e0 : (0 : Int32).toInt = 0 := by decide
  have ea : (ca.slots.size : Int) = za.toInt := by
    have := oNlt ra
    rw [Sa]; show (za.toInt.toNat : Int) = _; omega
  have eb : (cb.slots.size : Int) = zb.toInt := by
    have := oNlt rb
    rw [Sb]; show (zb.toInt.toNat : Int) = _; omega
  have es : (sp.toNatClampNeg : Int) = sp.toInt := by show (sp.toInt.toNat : Int) = _; omega
  have ed : (dp.toNatClampNeg : Int) = dp.toInt := by show (dp.toInt.toNat : Int) = _; omega
  have en : (n.toNatClampNeg : Int) = n.toInt := by show (n.toInt.toNat : Int) = _; omega
  have hv : ∀ i, i < n.toNatClampNeg → ca.slots.getD (sp.toNatClampNeg + i) .null = f (sp.toNatClampNeg + i) := fun i hi => by
    rw [Array.getD_eq_getD_getElem?, Ga _ (by omega)]; rfl
  obtain ⟨vm', X', st⟩ := X.arraycopy hx hown (mvT hZ w1) (mvT hZ w2) (mvT hZ w3) (mvT hZ w4) (src := a) (dst := b) (srcPos := sp) (destPos := dp) (n := n) Aa.1 Ab.1 hsa hsb Aa.2.2 Ab.2.2 hka hkb hkinda hkindb (by simp [hty]) (mNlt (by omega)) (mNlt (by omega)) (mNlt (by omega)) (by omega) (by omega)
    (fun vm₁ _ i hi => by
      have q := hfit (sp.toNatClampNeg + i) (by rw [← Sa]; omega)
      rw [hv i hi]
      refine ⟨q, ?_⟩
      cases hq : f (sp.toNatClampNeg + i) with
      | ref y => rw [hq] at q; cases ty <;> first | (cases hty; done) | (cases q; done)
      | _ => trivial) hg hsize hst hd hf hl
  obtain ⟨f1, f2, f3, -, -⟩ := Cell.storeRun_facts cb dp.toNatClampNeg (ca.stretch sp.toNatClampNeg n.toNatClampNeg)
  have hlen : (ca.stretch sp.toNatClampNeg n.toNatClampNeg).length = n.toNatClampNeg := Cell.stretch_length ..
  have hself : ((T.setVm vm').setCell b (copied ca cb sp dp n)).heap[b]? = some (copied ca cb sp dp n) := State.heap_setCell_self (show (T.setVm vm').heap[b]? = some cb from Ab.1)
  refine ⟨_, _, _, X', rfl, ⟨?_, ?_, ?_⟩, ⟨copied ca cb sp dp n, ⟨hself, ?_, ?_⟩, ?_, rb, ?_⟩, ?_, st⟩
  · exact Nat.le_of_eq (by simp [State.setCell, State.setVm])
  · intro x cx hx' hn
    rw [State.heap_setCell_other (fun q => hn (by rw [q]; exact List.mem_singleton.mpr rfl))]; exact hx'
  · intro x cx hx'
    by_cases q : b = x
    · subst q; rw [Ab.1] at hx'; cases hx'; exact ⟨_, hself, f1, f2, f3⟩
    · exact ⟨cx, by rw [State.heap_setCell_other q]; exact hx', rfl, rfl, rfl⟩
  · obtain ⟨u1, k1, u2, comp, u3⟩ := Ab.2.1
    exact ⟨fun k => by show (cb.storeRun _ _).vm ≠ _; rw [f2]; exact u1 k, k1, by show Z.vm.classes[(cb.storeRun _ _).cls]? = _; rw [f1]; exact u2, comp, u3⟩
  · show (cb.storeRun _ _).vm ≠ _
    rw [f2]; exact Ab.2.2
  · show (cb.storeRun _ _).slots.size = _
    rw [f3]; exact Sb
  · intro i hi
    have hi' : i < cb.slots.size := by
      have hi : i < (cb.storeRun dp.toNatClampNeg (ca.stretch sp.toNatClampNeg n.toNatClampNeg)).slots.size := hi
      rw [f3] at hi; exact hi
    show (cb.storeRun dp.toNatClampNeg (ca.stretch sp.toNatClampNeg n.toNatClampNeg)).slots[i]? = _
    rw [Cell.storeRun_get _ _ _ _ (by rw [hlen]; omega), hlen]
    dsimp only
    by_cases q : dp.toNatClampNeg ≤ i ∧ i < dp.toNatClampNeg + n.toNatClampNeg
    · rw [if_pos q, if_pos q, ← hv _ (by omega)]
      simp [Cell.stretch, show i - dp.toNatClampNeg < n.toNatClampNeg by omega]
    · rw [if_neg q, if_neg q]; exact Gb i hi'
  · intro y hy
    obtain ⟨q, _, rfl⟩ := List.mem_map.mp hy; rfl
end OArrs
/-- from a case's equation to the value -/
theorem oEqv {f s : State} {o : Option Outcome} {idx : List Nat} {a b : Term} (h : (Jvm.Cond.eq a b).value args f o s idx = some true) : ∃ x, a.eval args f o idx s = some x ∧ b.eval args f o idx s = some x := by
  obtain ⟨x, y, h1, h2, -, -⟩ := cmp_v (Or.inl h)
  cases x <;> cases y <;> simp [Cond.value, h1, h2] at h <;> first | (subst h; exact ⟨_, h1, h2⟩) | exact ⟨_, h1, h2⟩
theorem oFeq {s : State} {t u : Term} {x : Addr} {C n d : String} {w : Value} (ht : t.eval args s none [] s = some (.ref x)) (h : (Jvm.Cond.eq (.field t C n d) u).value args s none s [] = some true) (hu : u.eval args s none [] s = some w) : s.fieldOf? x C n d = some w := by
  obtain ⟨v, h1, h2⟩ := oEqv h
  rw [fld_at ht] at h1
  rw [h1, ← h2, hu]
theorem oNot {d : Jvm.Cond} {f s : State} {o : Option Outcome} {idx : List Nat} (h : (Jvm.Cond.not d).value args f o s idx = some true) (h2 : d.value args f o s idx = some true) : False := by
  rw [Cond.value, h2] at h
  cases h
end OwnKit
def Q_fill (Z : State) (d : Addr) (x : UInt64) (n : Int32) (h0 : Heap) (n0 : Nat) (v : Option Value) (h : Heap) (L : List Loc) : Prop := v = none ∧ Fr n0 L ∧ Keep h0 h [d] ∧ OArr Z h d .double n (fun _ => .double x)
theorem own_d_jdk_65_method_113_code_0 : decode jdk_65_method_113_code 0 = .ok (.iconst 0, 1) := by decide +kernel
theorem own_d_jdk_65_method_113_code_1 : decode jdk_65_method_113_code 1 = .ok (.istore_n 3, 1) := by decide +kernel
theorem own_d_jdk_65_method_113_code_2 : decode jdk_65_method_113_code 2 = .ok (.aload_n 0, 1) := by decide +kernel
theorem own_d_jdk_65_method_113_code_3 : decode jdk_65_method_113_code 3 = .ok (.arraylength, 1) := by decide +kernel
theorem own_d_jdk_65_method_113_code_4 : decode jdk_65_method_113_code 4 = .ok (.istore 4, 2) := by decide +kernel
theorem own_d_jdk_65_method_113_code_6 : decode jdk_65_method_113_code 6 = .ok (.iload_n 3, 1) := by decide +kernel
theorem own_d_jdk_65_method_113_code_7 : decode jdk_65_method_113_code 7 = .ok (.iload 4, 2) := by decide +kernel
theorem own_d_jdk_65_method_113_code_9 : decode jdk_65_method_113_code 9 = .ok (.if_icmp .ge 13, 3) := by decide +kernel
theorem own_d_jdk_65_method_113_code_22 : decode jdk_65_method_113_code 22 = .ok (.return_, 1) := by decide +kernel
theorem own_d_jdk_65_method_113_code_12 : decode jdk_65_method_113_code 12 = .ok (.aload_n 0, 1) := by decide +kernel
theorem own_d_jdk_65_method_113_code_13 : decode jdk_65_method_113_code 13 = .ok (.iload_n 3, 1) := by decide +kernel
theorem own_d_jdk_65_method_113_code_14 : decode jdk_65_method_113_code 14 = .ok (.dload_n 1, 1) := by decide +kernel
theorem own_d_jdk_65_method_113_code_15 : decode jdk_65_method_113_code 15 = .ok (.dastore, 1) := by decide +kernel
theorem own_d_jdk_65_method_113_code_16 : decode jdk_65_method_113_code 16 = .ok (.iinc 3 1, 3) := by decide +kernel
theorem own_d_jdk_65_method_113_code_19 : decode jdk_65_method_113_code 19 = .ok (.goto (-13), 3) := by decide +kernel
theorem own_pn_java_util_Arrays : plainName "java/util/Arrays" = true := by first | (simp [plainName, overriddenIn]; done) | decide +kernel
theorem own_ef_rmF (x0 : Addr) (x1 : UInt64) (m : MethodId) : entryFrame m #[(.ref x0), (.double x1)] 5 = mkF m 0 #[.val (.ref x0), .val (.double x1), .second, .unset, .unset] [] := by first | (simp [entryFrame, mkF, argsToLocals, Value.category]; done) | rfl
set_option maxRecDepth 65536 in
set_option maxHeartbeats 40000000 in
theorem rmF (l : Launch) (Z : State) (a0 : Array Value) (hw : ∀ d ∈ tables_1, d.before a0 Z = true) (d : Addr) (x : UInt64) (h0 : Heap) (n0 : Nat) (Z0 : n0 ≤ h0.size) (n : Int32) (f : Nat → Value) (F : OArr Z h0 d .double n f) (hn : 0 ≤ n.toInt) (ab : n0 ≤ d) :
    OCon l Z (⟨"java/util/Arrays", "fill", "([DD)V"⟩ : MethodName) jdk_65_method_113_code 5 none ({ frames := 0, cells := 0, slots := 0, locals := 0 } : Room) #[(.ref d), (.double x)] h0 (Q_fill Z d x n h0 n0) := by
  refine OConK.intro (y := (⟨"java/util/Arrays", "fill", "([DD)V"⟩ : MethodName)) (plainFor_of_name own_pn_java_util_Arrays) (own_ef_rmF d x) ?_
  intro p e s m below meth c s₁ hx hby hml hown hnm hret hlk hZ X0 e0
  show OGoal p e below s _ _ _ (s₁.setTop (mkF m 0 #[.val (.ref d), .val (.double x), .second, .unset, .unset] []))
  refine OGoal.mp (S' := (s₁.setTop (mkF m 1 #[.val (.ref d), .val (.double x), .second, .unset, .unset] [(.int (0 : Int32))]))) (fun _ k => XS.iconst X0.here hx rfl (hb hby own_d_jdk_65_method_113_code_0) k) ?_
  refine OGoal.mp (S' := (s₁.setTop (mkF m 2 #[.val (.ref d), .val (.double x), .second, .val (.int (0 : Int32)), .unset] []))) (fun _ k => XS.istoreN X0.here hx rfl (hb hby own_d_jdk_65_method_113_code_1) rfl (l' := #[.val (.ref d), .val (.double x), .second, .val (.int (0 : Int32)), .unset]) rfl k) ?_
  refine OGoal.mp (S' := (s₁.setTop (mkF m 3 #[.val (.ref d), .val (.double x), .second, .val (.int (0 : Int32)), .unset] [(.ref d)]))) (fun _ k => XS.aloadN X0.here hx rfl (hb hby own_d_jdk_65_method_113_code_2) rfl rfl k) ?_
  refine OGoal.mp (S' := (s₁.setTop (mkF m 4 #[.val (.ref d), .val (.double x), .second, .val (.int (0 : Int32)), .unset] [(.int n)]))) (fun _ k => oLen X0 hx hZ e0 F (g := mkF m 3 #[.val (.ref d), .val (.double x), .second, .val (.int (0 : Int32)), .unset] [(.ref d)]) rfl rfl (hb hby own_d_jdk_65_method_113_code_3) k) ?_
  refine OGoal.mp (S' := (s₁.setTop (mkF m 6 #[.val (.ref d), .val (.double x), .second, .val (.int (0 : Int32)), .val (.int n)] []))) (fun _ k => XS.istore X0.here hx rfl (hb hby own_d_jdk_65_method_113_code_4) rfl (l' := #[.val (.ref d), .val (.double x), .second, .val (.int (0 : Int32)), .val (.int n)]) rfl k) ?_
  have loop : ∀ (k : Nat) (i : Int32) (T : State) (locs : List Loc) (h : Heap) (f : Nat → Value), Stand p l e ({ frames := 0, cells := 0, slots := 0, locals := 0 } : Room) s m #[(.ref d), (.double x)] below meth c T locs 0 0 → T.heap = h → Fr n0 locs → Keep h0 h [d] → OArr Z h d .double n f → (∀ j, j < i.toNatClampNeg → f j = .double x) → 0 ≤ i.toInt → i.toInt + k = n.toInt → OGoal p e below s (Q_fill Z d x n h0 n0) 0 0 (T.setTop (mkF m 6 #[.val (.ref d), .val (.double x), .second, .val (.int i), .val (.int n)] [])) := by
    intro k
    induction k with
    | zero =>
      intro i T locs h f X eT N K F hf hi hk
      have := rng32 n
      have := rng32 i
      refine OGoal.mp (S' := (T.setTop (mkF m 7 #[.val (.ref d), .val (.double x), .second, .val (.int i), .val (.int n)] [(.int i)]))) (fun _ k => XS.iloadN X.here hx rfl (hb hby own_d_jdk_65_method_113_code_6) rfl k) ?_
      refine OGoal.mp (S' := (T.setTop (mkF m 9 #[.val (.ref d), .val (.double x), .second, .val (.int i), .val (.int n)] [(.int n), (.int i)]))) (fun _ k => XS.iload X.here hx rfl (hb hby own_d_jdk_65_method_113_code_7) rfl k) ?_
      refine OGoal.mp (S' := (T.setTop (mkF m 22 #[.val (.ref d), .val (.double x), .second, .val (.int i), .val (.int n)] []))) (fun _ k => XS.icmpYes X.here hx rfl (pc0 := 9) (pc' := 22) rfl (hb hby own_d_jdk_65_method_113_code_9) rfl (XT.ii_ge_t (mNlt (by omega))) (by decide) (by decide) k) ?_
      refine oRetV X hx hlk hret (hb hby own_d_jdk_65_method_113_code_22) ?_ (by decide) (by decide)
      rw [eT]
      exact ⟨rfl, N, K, F.imp (fun j q => hf j (by have e1 : n.toNatClampNeg = n.toInt.toNat := rfl; have e2 : i.toNatClampNeg = i.toInt.toNat := rfl; omega))⟩
    | succ k ih =>
      intro i T locs h f X eT N K F hf hi hk
      have := rng32 n
      have := rng32 i
      refine OGoal.mp (S' := (T.setTop (mkF m 7 #[.val (.ref d), .val (.double x), .second, .val (.int i), .val (.int n)] [(.int i)]))) (fun _ k => XS.iloadN X.here hx rfl (hb hby own_d_jdk_65_method_113_code_6) rfl k) ?_
      refine OGoal.mp (S' := (T.setTop (mkF m 9 #[.val (.ref d), .val (.double x), .second, .val (.int i), .val (.int n)] [(.int n), (.int i)]))) (fun _ k => XS.iload X.here hx rfl (hb hby own_d_jdk_65_method_113_code_7) rfl k) ?_
      refine OGoal.mp (S' := (T.setTop (mkF m 12 #[.val (.ref d), .val (.double x), .second, .val (.int i), .val (.int n)] []))) (fun _ k => XS.icmpNo X.here hx rfl (hb hby own_d_jdk_65_method_113_code_9) rfl (XT.ii_ge_f (mLt (by omega))) k) ?_
      refine OGoal.mp (S' := (T.setTop (mkF m 13 #[.val (.ref d), .val (.double x), .second, .val (.int i), .val (.int n)] [(.ref d)]))) (fun _ k => XS.aloadN X.here hx rfl (hb hby own_d_jdk_65_method_113_code_12) rfl rfl k) ?_
      refine OGoal.mp (S' := (T.setTop (mkF m 14 #[.val (.ref d), .val (.double x), .second, .val (.int i), .val (.int n)] [(.int i), (.ref d)]))) (fun _ k => XS.iloadN X.here hx rfl (hb hby own_d_jdk_65_method_113_code_13) rfl k) ?_
      refine OGoal.mp (S' := (T.setTop (mkF m 15 #[.val (.ref d), .val (.double x), .second, .val (.int i), .val (.int n)] [(.double x), (.int i), (.ref d)]))) (fun _ k => XS.dloadN X.here hx rfl (hb hby own_d_jdk_65_method_113_code_14) rfl k) ?_
      obtain ⟨T1, h5, X2, e3, W6, st4⟩ := oStD X hx hZ eT F hi (by omega) (g := mkF m 15 #[.val (.ref d), .val (.double x), .second, .val (.int i), .val (.int n)] [(.double x), (.int i), (.ref d)]) rfl rfl (hb hby own_d_jdk_65_method_113_code_15)
      have N7 := Fr.snoc X2 N ab
      have K8 : Keep h0 h5 [d] := K.wr W6 (Or.inl (by simp))
      have F9 : OArr Z h5 d .double n (fun jj => if jj = (i).toNatClampNeg then (.double x) else f jj : Nat → Value) := F.set W6
      have Z10 : n0 ≤ h5.size := Nat.le_trans (Nat.le_trans Z0 K.1) (Keep.of_wr W6).1
      refine OGoal.mp (S' := (T1.setTop (mkF m 16 #[.val (.ref d), .val (.double x), .second, .val (.int i), .val (.int n)] []))) (fun _ k => st4 _ k) ?_
      refine OGoal.mp (S' := (T1.setTop (mkF m 19 #[.val (.ref d), .val (.double x), .second, .val (.int (i + (1 : Int32))), .val (.int n)] []))) (fun _ k => XT.iincV X2.here hx rfl (1 : Int32) (hb hby own_d_jdk_65_method_113_code_16) rfl rfl (l' := #[.val (.ref d), .val (.double x), .second, .val (.int (i + (1 : Int32))), .val (.int n)]) rfl k) ?_
      refine OGoal.mp (S' := (T1.setTop (mkF m 6 #[.val (.ref d), .val (.double x), .second, .val (.int (i + (1 : Int32))), .val (.int n)] []))) (fun _ k => XS.goto X2.here hx rfl (pc0 := 19) (pc' := 6) rfl (hb hby own_d_jdk_65_method_113_code_19) (by decide) (by decide) k) ?_
      have e1 : ((i + (1 : Int32))).toInt = i.toInt + 1 := by rw [XT.add32 (by rw [show (1 : Int32).toInt = 1 by decide]; exact ⟨by omega, by omega⟩)]; rfl
      refine ih ((i + (1 : Int32))) T1 _ _ _ X2 e3 N7 K8 F9 (fun j q => ?_) (by omega) (by omega)
      have e2 : ((i + (1 : Int32))).toNatClampNeg = i.toNatClampNeg + 1 := by show ((i + (1 : Int32))).toInt.toNat = i.toInt.toNat + 1; omega
      rw [e2] at q
      try dsimp only
      split
      · rfl
      · exact hf j (by omega)
  exact loop n.toInt.toNat 0 s₁ [] h0 f X0 e0 (Fr.nil n0) (Keep.refl _ _) F (fun j q => absurd q (Nat.not_lt_zero _)) (by decide) (by have q0 : (0 : Int32).toInt = 0 := (by decide); omega)
def Q_ntz (h0 : Heap) (n0 : Nat) (v : Option Value) (h : Heap) (L : List Loc) : Prop := ∃ z : Int32, v = some (.int z) ∧ Fr n0 L ∧ h = h0
theorem own_d_jdk_33_method_48_code_74 : decode jdk_33_method_48_code 74 = .ok (.iload_n 1, 1) := by decide +kernel
theorem own_d_jdk_33_method_48_code_75 : decode jdk_33_method_48_code 75 = .ok (.iload_n 0, 1) := by decide +kernel
theorem own_d_jdk_33_method_48_code_76 : decode jdk_33_method_48_code 76 = .ok (.iconst 1, 1) := by decide +kernel
theorem own_d_jdk_33_method_48_code_77 : decode jdk_33_method_48_code 77 = .ok (.iushr, 1) := by decide +kernel
theorem own_d_jdk_33_method_48_code_78 : decode jdk_33_method_48_code 78 = .ok (.iadd, 1) := by decide +kernel
theorem own_d_jdk_33_method_48_code_79 : decode jdk_33_method_48_code 79 = .ok (.ireturn, 1) := by decide +kernel
theorem own_d_jdk_33_method_48_code_62 : decode jdk_33_method_48_code 62 = .ok (.iload_n 0, 1) := by decide +kernel
theorem own_d_jdk_33_method_48_code_63 : decode jdk_33_method_48_code 63 = .ok (.iconst 4, 1) := by decide +kernel
theorem own_d_jdk_33_method_48_code_64 : decode jdk_33_method_48_code 64 = .ok (.if_icmp .le 10, 3) := by decide +kernel
theorem own_d_jdk_33_method_48_code_67 : decode jdk_33_method_48_code 67 = .ok (.iinc 1 2, 3) := by decide +kernel
theorem own_d_jdk_33_method_48_code_70 : decode jdk_33_method_48_code 70 = .ok (.iload_n 0, 1) := by decide +kernel
theorem own_d_jdk_33_method_48_code_71 : decode jdk_33_method_48_code 71 = .ok (.iconst 2, 1) := by decide +kernel
theorem own_d_jdk_33_method_48_code_72 : decode jdk_33_method_48_code 72 = .ok (.iushr, 1) := by decide +kernel
theorem own_d_jdk_33_method_48_code_73 : decode jdk_33_method_48_code 73 = .ok (.istore_n 0, 1) := by decide +kernel
theorem own_d_jdk_33_method_48_code_49 : decode jdk_33_method_48_code 49 = .ok (.iload_n 0, 1) := by decide +kernel
theorem own_d_jdk_33_method_48_code_50 : decode jdk_33_method_48_code 50 = .ok (.bipush 16, 2) := by decide +kernel
theorem own_d_jdk_33_method_48_code_52 : decode jdk_33_method_48_code 52 = .ok (.if_icmp .le 10, 3) := by decide +kernel
theorem own_d_jdk_33_method_48_code_55 : decode jdk_33_method_48_code 55 = .ok (.iinc 1 4, 3) := by decide +kernel
theorem own_d_jdk_33_method_48_code_58 : decode jdk_33_method_48_code 58 = .ok (.iload_n 0, 1) := by decide +kernel
theorem own_d_jdk_33_method_48_code_59 : decode jdk_33_method_48_code 59 = .ok (.iconst 4, 1) := by decide +kernel
theorem own_d_jdk_33_method_48_code_60 : decode jdk_33_method_48_code 60 = .ok (.iushr, 1) := by decide +kernel
theorem own_d_jdk_33_method_48_code_61 : decode jdk_33_method_48_code 61 = .ok (.istore_n 0, 1) := by decide +kernel
theorem own_d_jdk_33_method_48_code_34 : decode jdk_33_method_48_code 34 = .ok (.iload_n 0, 1) := by decide +kernel
theorem own_d_jdk_33_method_48_code_35 : decode jdk_33_method_48_code 35 = .ok (.sipush 256, 3) := by decide +kernel
theorem own_d_jdk_33_method_48_code_38 : decode jdk_33_method_48_code 38 = .ok (.if_icmp .le 11, 3) := by decide +kernel
theorem own_d_jdk_33_method_48_code_41 : decode jdk_33_method_48_code 41 = .ok (.iinc 1 8, 3) := by decide +kernel
theorem own_d_jdk_33_method_48_code_44 : decode jdk_33_method_48_code 44 = .ok (.iload_n 0, 1) := by decide +kernel
theorem own_d_jdk_33_method_48_code_45 : decode jdk_33_method_48_code 45 = .ok (.bipush 8, 2) := by decide +kernel
theorem own_d_jdk_33_method_48_code_47 : decode jdk_33_method_48_code 47 = .ok (.iushr, 1) := by decide +kernel
theorem own_d_jdk_33_method_48_code_48 : decode jdk_33_method_48_code 48 = .ok (.istore_n 0, 1) := by decide +kernel
theorem own_d_jdk_33_method_48_code_0 : decode jdk_33_method_48_code 0 = .ok (.iload_n 0, 1) := by decide +kernel
theorem own_d_jdk_33_method_48_code_1 : decode jdk_33_method_48_code 1 = .ok (.iconst (-1), 1) := by decide +kernel
theorem own_d_jdk_33_method_48_code_2 : decode jdk_33_method_48_code 2 = .ok (.ixor, 1) := by decide +kernel
theorem own_d_jdk_33_method_48_code_3 : decode jdk_33_method_48_code 3 = .ok (.iload_n 0, 1) := by decide +kernel
theorem own_d_jdk_33_method_48_code_4 : decode jdk_33_method_48_code 4 = .ok (.iconst 1, 1) := by decide +kernel
theorem own_d_jdk_33_method_48_code_5 : decode jdk_33_method_48_code 5 = .ok (.isub, 1) := by decide +kernel
theorem own_d_jdk_33_method_48_code_6 : decode jdk_33_method_48_code 6 = .ok (.iand, 1) := by decide +kernel
theorem own_d_jdk_33_method_48_code_7 : decode jdk_33_method_48_code 7 = .ok (.istore_n 0, 1) := by decide +kernel
theorem own_d_jdk_33_method_48_code_8 : decode jdk_33_method_48_code 8 = .ok (.iload_n 0, 1) := by decide +kernel
theorem own_d_jdk_33_method_48_code_9 : decode jdk_33_method_48_code 9 = .ok (.ifCond .gt 8, 3) := by decide +kernel
theorem own_d_jdk_33_method_48_code_17 : decode jdk_33_method_48_code 17 = .ok (.iconst 1, 1) := by decide +kernel
theorem own_d_jdk_33_method_48_code_18 : decode jdk_33_method_48_code 18 = .ok (.istore_n 1, 1) := by decide +kernel
theorem own_d_jdk_33_method_48_code_19 : decode jdk_33_method_48_code 19 = .ok (.iload_n 0, 1) := by decide +kernel
theorem own_d_jdk_33_method_48_code_20 : decode jdk_33_method_48_code 20 = .ok (.ldc_w 264, 3) := by decide +kernel
theorem own_d_jdk_33_method_48_code_23 : decode jdk_33_method_48_code 23 = .ok (.if_icmp .le 11, 3) := by decide +kernel
theorem own_d_jdk_33_method_48_code_26 : decode jdk_33_method_48_code 26 = .ok (.iinc 1 16, 3) := by decide +kernel
theorem own_d_jdk_33_method_48_code_29 : decode jdk_33_method_48_code 29 = .ok (.iload_n 0, 1) := by decide +kernel
theorem own_d_jdk_33_method_48_code_30 : decode jdk_33_method_48_code 30 = .ok (.bipush 16, 2) := by decide +kernel
theorem own_d_jdk_33_method_48_code_32 : decode jdk_33_method_48_code 32 = .ok (.iushr, 1) := by decide +kernel
theorem own_d_jdk_33_method_48_code_33 : decode jdk_33_method_48_code 33 = .ok (.istore_n 0, 1) := by decide +kernel
theorem own_d_jdk_33_method_48_code_12 : decode jdk_33_method_48_code 12 = .ok (.iload_n 0, 1) := by decide +kernel
theorem own_d_jdk_33_method_48_code_13 : decode jdk_33_method_48_code 13 = .ok (.bipush 32, 2) := by decide +kernel
theorem own_d_jdk_33_method_48_code_15 : decode jdk_33_method_48_code 15 = .ok (.iand, 1) := by decide +kernel
theorem own_d_jdk_33_method_48_code_16 : decode jdk_33_method_48_code 16 = .ok (.ireturn, 1) := by decide +kernel
theorem own_pn_java_lang_Integer : plainName "java/lang/Integer" = true := by first | (simp [plainName, overriddenIn]; done) | decide +kernel
theorem own_ef_rmZ (x0 : Int32) (m : MethodId) : entryFrame m #[(.int x0)] 2 = mkF m 0 #[.val (.int x0), .unset] [] := by first | (simp [entryFrame, mkF, argsToLocals, Value.category]; done) | rfl
set_option maxRecDepth 65536 in
set_option maxHeartbeats 40000000 in
theorem rmZ (l : Launch) (Z : State) (a0 : Array Value) (hw : ∀ d ∈ tables_1, d.before a0 Z = true) (q : Int32) (h0 : Heap) (n0 : Nat) (Z0 : n0 ≤ h0.size)  :
    OCon l Z (⟨"java/lang/Integer", "numberOfTrailingZeros", "(I)I"⟩ : MethodName) jdk_33_method_48_code 2 (some .int) ({ frames := 0, cells := 0, slots := 0, locals := 0 } : Room) #[(.int q)] h0 (Q_ntz h0 n0) := by
  refine OConK.intro (y := (⟨"java/lang/Integer", "numberOfTrailingZeros", "(I)I"⟩ : MethodName)) (plainFor_of_name own_pn_java_lang_Integer) (own_ef_rmZ q) ?_
  intro p e s m below meth c s₁ hx hby hml hown hnm hret hlk hZ X0 e0
  have j74 : ∀ x y : Int32, OGoal p e below s (Q_ntz h0 n0) 0 0 (s₁.setTop (mkF m 74 #[.val (.int x), .val (.int y)] [])) := by
    intro x y
    refine OGoal.mp (S' := (s₁.setTop (mkF m 75 #[.val (.int x), .val (.int y)] [(.int y)]))) (fun _ k => XS.iloadN X0.here hx rfl (hb hby own_d_jdk_33_method_48_code_74) rfl k) ?_
    refine OGoal.mp (S' := (s₁.setTop (mkF m 76 #[.val (.int x), .val (.int y)] [(.int x), (.int y)]))) (fun _ k => XS.iloadN X0.here hx rfl (hb hby own_d_jdk_33_method_48_code_75) rfl k) ?_
    refine OGoal.mp (S' := (s₁.setTop (mkF m 77 #[.val (.int x), .val (.int y)] [(.int (1 : Int32)), (.int x), (.int y)]))) (fun _ k => XS.iconst X0.here hx rfl (hb hby own_d_jdk_33_method_48_code_76) k) ?_
    refine OGoal.mp (S' := (s₁.setTop (mkF m 78 #[.val (.int x), .val (.int y)] [(.int (XT.ushr x (1 : Int32))), (.int y)]))) (fun _ k => XT.iushr X0.here hx rfl (hb hby own_d_jdk_33_method_48_code_77) rfl k) ?_
    refine OGoal.mp (S' := (s₁.setTop (mkF m 79 #[.val (.int x), .val (.int y)] [(.int (y + (XT.ushr x (1 : Int32))))]))) (fun _ k => XS.iadd X0.here hx rfl (hb hby own_d_jdk_33_method_48_code_78) rfl k) ?_
    refine oRetI X0 hx hlk hret (hb hby own_d_jdk_33_method_48_code_79) ?_ (by decide) (by decide)
    exact ⟨_, rfl, Fr.nil n0, e0⟩
  have j62 : ∀ x y : Int32, OGoal p e below s (Q_ntz h0 n0) 0 0 (s₁.setTop (mkF m 62 #[.val (.int x), .val (.int y)] [])) := by
    intro x y
    refine OGoal.mp (S' := (s₁.setTop (mkF m 63 #[.val (.int x), .val (.int y)] [(.int x)]))) (fun _ k => XS.iloadN X0.here hx rfl (hb hby own_d_jdk_33_method_48_code_62) rfl k) ?_
    refine OGoal.mp (S' := (s₁.setTop (mkF m 64 #[.val (.int x), .val (.int y)] [(.int (4 : Int32)), (.int x)]))) (fun _ k => XS.iconst X0.here hx rfl (hb hby own_d_jdk_33_method_48_code_63) k) ?_
    by_cases hc1 : (4 : Int32) < x
    · refine OGoal.mp (S' := (s₁.setTop (mkF m 67 #[.val (.int x), .val (.int y)] []))) (fun _ k => XS.icmpNo X0.here hx rfl (hb hby own_d_jdk_33_method_48_code_64) rfl (XT.ii_le_f hc1) k) ?_
      refine OGoal.mp (S' := (s₁.setTop (mkF m 70 #[.val (.int x), .val (.int (y + (2 : Int32)))] []))) (fun _ k => XT.iincV X0.here hx rfl (2 : Int32) (hb hby own_d_jdk_33_method_48_code_67) rfl rfl (l' := #[.val (.int x), .val (.int (y + (2 : Int32)))]) rfl k) ?_
      refine OGoal.mp (S' := (s₁.setTop (mkF m 71 #[.val (.int x), .val (.int (y + (2 : Int32)))] [(.int x)]))) (fun _ k => XS.iloadN X0.here hx rfl (hb hby own_d_jdk_33_method_48_code_70) rfl k) ?_
      refine OGoal.mp (S' := (s₁.setTop (mkF m 72 #[.val (.int x), .val (.int (y + (2 : Int32)))] [(.int (2 : Int32)), (.int x)]))) (fun _ k => XS.iconst X0.here hx rfl (hb hby own_d_jdk_33_method_48_code_71) k) ?_
      refine OGoal.mp (S' := (s₁.setTop (mkF m 73 #[.val (.int x), .val (.int (y + (2 : Int32)))] [(.int (XT.ushr x (2 : Int32)))]))) (fun _ k => XT.iushr X0.here hx rfl (hb hby own_d_jdk_33_method_48_code_72) rfl k) ?_
      refine OGoal.mp (S' := (s₁.setTop (mkF m 74 #[.val (.int (XT.ushr x (2 : Int32))), .val (.int (y + (2 : Int32)))] []))) (fun _ k => XS.istoreN X0.here hx rfl (hb hby own_d_jdk_33_method_48_code_73) rfl (l' := #[.val (.int (XT.ushr x (2 : Int32))), .val (.int (y + (2 : Int32)))]) rfl k) ?_
      exact j74 _ _
    · refine OGoal.mp (S' := (s₁.setTop (mkF m 74 #[.val (.int x), .val (.int y)] []))) (fun _ k => XS.icmpYes X0.here hx rfl (pc0 := 64) (pc' := 74) rfl (hb hby own_d_jdk_33_method_48_code_64) rfl (XT.ii_le_t hc1) (by decide) (by decide) k) ?_
      exact j74 _ _
  have j49 : ∀ x y : Int32, OGoal p e below s (Q_ntz h0 n0) 0 0 (s₁.setTop (mkF m 49 #[.val (.int x), .val (.int y)] [])) := by
    intro x y
    refine OGoal.mp (S' := (s₁.setTop (mkF m 50 #[.val (.int x), .val (.int y)] [(.int x)]))) (fun _ k => XS.iloadN X0.here hx rfl (hb hby own_d_jdk_33_method_48_code_49) rfl k) ?_
    refine OGoal.mp (S' := (s₁.setTop (mkF m 52 #[.val (.int x), .val (.int y)] [(.int (16 : Int32)), (.int x)]))) (fun _ k => XS.bipush X0.here hx rfl (hb hby own_d_jdk_33_method_48_code_50) k) ?_
    by_cases hc2 : (16 : Int32) < x
    · refine OGoal.mp (S' := (s₁.setTop (mkF m 55 #[.val (.int x), .val (.int y)] []))) (fun _ k => XS.icmpNo X0.here hx rfl (hb hby own_d_jdk_33_method_48_code_52) rfl (XT.ii_le_f hc2) k) ?_
      refine OGoal.mp (S' := (s₁.setTop (mkF m 58 #[.val (.int x), .val (.int (y + (4 : Int32)))] []))) (fun _ k => XT.iincV X0.here hx rfl (4 : Int32) (hb hby own_d_jdk_33_method_48_code_55) rfl rfl (l' := #[.val (.int x), .val (.int (y + (4 : Int32)))]) rfl k) ?_
      refine OGoal.mp (S' := (s₁.setTop (mkF m 59 #[.val (.int x), .val (.int (y + (4 : Int32)))] [(.int x)]))) (fun _ k => XS.iloadN X0.here hx rfl (hb hby own_d_jdk_33_method_48_code_58) rfl k) ?_
      refine OGoal.mp (S' := (s₁.setTop (mkF m 60 #[.val (.int x), .val (.int (y + (4 : Int32)))] [(.int (4 : Int32)), (.int x)]))) (fun _ k => XS.iconst X0.here hx rfl (hb hby own_d_jdk_33_method_48_code_59) k) ?_
      refine OGoal.mp (S' := (s₁.setTop (mkF m 61 #[.val (.int x), .val (.int (y + (4 : Int32)))] [(.int (XT.ushr x (4 : Int32)))]))) (fun _ k => XT.iushr X0.here hx rfl (hb hby own_d_jdk_33_method_48_code_60) rfl k) ?_
      refine OGoal.mp (S' := (s₁.setTop (mkF m 62 #[.val (.int (XT.ushr x (4 : Int32))), .val (.int (y + (4 : Int32)))] []))) (fun _ k => XS.istoreN X0.here hx rfl (hb hby own_d_jdk_33_method_48_code_61) rfl (l' := #[.val (.int (XT.ushr x (4 : Int32))), .val (.int (y + (4 : Int32)))]) rfl k) ?_
      exact j62 _ _
    · refine OGoal.mp (S' := (s₁.setTop (mkF m 62 #[.val (.int x), .val (.int y)] []))) (fun _ k => XS.icmpYes X0.here hx rfl (pc0 := 52) (pc' := 62) rfl (hb hby own_d_jdk_33_method_48_code_52) rfl (XT.ii_le_t hc2) (by decide) (by decide) k) ?_
      exact j62 _ _
  have j34 : ∀ x y : Int32, OGoal p e below s (Q_ntz h0 n0) 0 0 (s₁.setTop (mkF m 34 #[.val (.int x), .val (.int y)] [])) := by
    intro x y
    refine OGoal.mp (S' := (s₁.setTop (mkF m 35 #[.val (.int x), .val (.int y)] [(.int x)]))) (fun _ k => XS.iloadN X0.here hx rfl (hb hby own_d_jdk_33_method_48_code_34) rfl k) ?_
    refine OGoal.mp (S' := (s₁.setTop (mkF m 38 #[.val (.int x), .val (.int y)] [(.int (256 : Int32)), (.int x)]))) (fun _ k => XS.sipush X0.here hx rfl (hb hby own_d_jdk_33_method_48_code_35) k) ?_
    by_cases hc3 : (256 : Int32) < x
    · refine OGoal.mp (S' := (s₁.setTop (mkF m 41 #[.val (.int x), .val (.int y)] []))) (fun _ k => XS.icmpNo X0.here hx rfl (hb hby own_d_jdk_33_method_48_code_38) rfl (XT.ii_le_f hc3) k) ?_
      refine OGoal.mp (S' := (s₁.setTop (mkF m 44 #[.val (.int x), .val (.int (y + (8 : Int32)))] []))) (fun _ k => XT.iincV X0.here hx rfl (8 : Int32) (hb hby own_d_jdk_33_method_48_code_41) rfl rfl (l' := #[.val (.int x), .val (.int (y + (8 : Int32)))]) rfl k) ?_
      refine OGoal.mp (S' := (s₁.setTop (mkF m 45 #[.val (.int x), .val (.int (y + (8 : Int32)))] [(.int x)]))) (fun _ k => XS.iloadN X0.here hx rfl (hb hby own_d_jdk_33_method_48_code_44) rfl k) ?_
      refine OGoal.mp (S' := (s₁.setTop (mkF m 47 #[.val (.int x), .val (.int (y + (8 : Int32)))] [(.int (8 : Int32)), (.int x)]))) (fun _ k => XS.bipush X0.here hx rfl (hb hby own_d_jdk_33_method_48_code_45) k) ?_
      refine OGoal.mp (S' := (s₁.setTop (mkF m 48 #[.val (.int x), .val (.int (y + (8 : Int32)))] [(.int (XT.ushr x (8 : Int32)))]))) (fun _ k => XT.iushr X0.here hx rfl (hb hby own_d_jdk_33_method_48_code_47) rfl k) ?_
      refine OGoal.mp (S' := (s₁.setTop (mkF m 49 #[.val (.int (XT.ushr x (8 : Int32))), .val (.int (y + (8 : Int32)))] []))) (fun _ k => XS.istoreN X0.here hx rfl (hb hby own_d_jdk_33_method_48_code_48) rfl (l' := #[.val (.int (XT.ushr x (8 : Int32))), .val (.int (y + (8 : Int32)))]) rfl k) ?_
      exact j49 _ _
    · refine OGoal.mp (S' := (s₁.setTop (mkF m 49 #[.val (.int x), .val (.int y)] []))) (fun _ k => XS.icmpYes X0.here hx rfl (pc0 := 38) (pc' := 49) rfl (hb hby own_d_jdk_33_method_48_code_38) rfl (XT.ii_le_t hc3) (by decide) (by decide) k) ?_
      exact j49 _ _
  show OGoal p e below s _ _ _ (s₁.setTop (mkF m 0 #[.val (.int q), .unset] []))
  refine OGoal.mp (S' := (s₁.setTop (mkF m 1 #[.val (.int q), .unset] [(.int q)]))) (fun _ k => XS.iloadN X0.here hx rfl (hb hby own_d_jdk_33_method_48_code_0) rfl k) ?_
  refine OGoal.mp (S' := (s₁.setTop (mkF m 2 #[.val (.int q), .unset] [(.int (-1 : Int32)), (.int q)]))) (fun _ k => XS.iconst X0.here hx rfl (hb hby own_d_jdk_33_method_48_code_1) k) ?_
  refine OGoal.mp (S' := (s₁.setTop (mkF m 3 #[.val (.int q), .unset] [(.int (q ^^^ (-1 : Int32)))]))) (fun _ k => XT.ixor X0.here hx rfl (hb hby own_d_jdk_33_method_48_code_2) rfl k) ?_
  refine OGoal.mp (S' := (s₁.setTop (mkF m 4 #[.val (.int q), .unset] [(.int q), (.int (q ^^^ (-1 : Int32)))]))) (fun _ k => XS.iloadN X0.here hx rfl (hb hby own_d_jdk_33_method_48_code_3) rfl k) ?_
  refine OGoal.mp (S' := (s₁.setTop (mkF m 5 #[.val (.int q), .unset] [(.int (1 : Int32)), (.int q), (.int (q ^^^ (-1 : Int32)))]))) (fun _ k => XS.iconst X0.here hx rfl (hb hby own_d_jdk_33_method_48_code_4) k) ?_
  refine OGoal.mp (S' := (s₁.setTop (mkF m 6 #[.val (.int q), .unset] [(.int (q - (1 : Int32))), (.int (q ^^^ (-1 : Int32)))]))) (fun _ k => XS.isub X0.here hx rfl (hb hby own_d_jdk_33_method_48_code_5) rfl k) ?_
  refine OGoal.mp (S' := (s₁.setTop (mkF m 7 #[.val (.int q), .unset] [(.int ((q ^^^ (-1 : Int32)) &&& (q - (1 : Int32))))]))) (fun _ k => XS.iand X0.here hx rfl (hb hby own_d_jdk_33_method_48_code_6) rfl k) ?_
  refine OGoal.mp (S' := (s₁.setTop (mkF m 8 #[.val (.int ((q ^^^ (-1 : Int32)) &&& (q - (1 : Int32)))), .unset] []))) (fun _ k => XS.istoreN X0.here hx rfl (hb hby own_d_jdk_33_method_48_code_7) rfl (l' := #[.val (.int ((q ^^^ (-1 : Int32)) &&& (q - (1 : Int32)))), .unset]) rfl k) ?_
  refine OGoal.mp (S' := (s₁.setTop (mkF m 9 #[.val (.int ((q ^^^ (-1 : Int32)) &&& (q - (1 : Int32)))), .unset] [(.int ((q ^^^ (-1 : Int32)) &&& (q - (1 : Int32))))]))) (fun _ k => XS.iloadN X0.here hx rfl (hb hby own_d_jdk_33_method_48_code_8) rfl k) ?_
  by_cases hc4 : 0 < ((q ^^^ (-1 : Int32)) &&& (q - (1 : Int32)))
  · refine OGoal.mp (S' := (s₁.setTop (mkF m 17 #[.val (.int ((q ^^^ (-1 : Int32)) &&& (q - (1 : Int32)))), .unset] []))) (fun _ k => XS.ifYes X0.here hx rfl (pc0 := 9) (pc' := 17) rfl (hb hby own_d_jdk_33_method_48_code_9) rfl (XT.i0_gt_t hc4) (by decide) (by decide) k) ?_
    refine OGoal.mp (S' := (s₁.setTop (mkF m 18 #[.val (.int ((q ^^^ (-1 : Int32)) &&& (q - (1 : Int32)))), .unset] [(.int (1 : Int32))]))) (fun _ k => XS.iconst X0.here hx rfl (hb hby own_d_jdk_33_method_48_code_17) k) ?_
    refine OGoal.mp (S' := (s₁.setTop (mkF m 19 #[.val (.int ((q ^^^ (-1 : Int32)) &&& (q - (1 : Int32)))), .val (.int (1 : Int32))] []))) (fun _ k => XS.istoreN X0.here hx rfl (hb hby own_d_jdk_33_method_48_code_18) rfl (l' := #[.val (.int ((q ^^^ (-1 : Int32)) &&& (q - (1 : Int32)))), .val (.int (1 : Int32))]) rfl k) ?_
    refine OGoal.mp (S' := (s₁.setTop (mkF m 20 #[.val (.int ((q ^^^ (-1 : Int32)) &&& (q - (1 : Int32)))), .val (.int (1 : Int32))] [(.int ((q ^^^ (-1 : Int32)) &&& (q - (1 : Int32))))]))) (fun _ k => XS.iloadN X0.here hx rfl (hb hby own_d_jdk_33_method_48_code_19) rfl k) ?_
    refine OGoal.mp (S' := (s₁.setTop (mkF m 23 #[.val (.int ((q ^^^ (-1 : Int32)) &&& (q - (1 : Int32)))), .val (.int (1 : Int32))] [(.int (65536 : Int32)), (.int ((q ^^^ (-1 : Int32)) &&& (q - (1 : Int32))))]))) (fun _ k => Stand.ldcWI X0 hx hown (mvT hZ (hw _ (List.mem_of_getElem? (i := 30) rfl))) rfl (hb hby own_d_jdk_33_method_48_code_20) k) ?_
    by_cases hc5 : (65536 : Int32) < ((q ^^^ (-1 : Int32)) &&& (q - (1 : Int32)))
    · refine OGoal.mp (S' := (s₁.setTop (mkF m 26 #[.val (.int ((q ^^^ (-1 : Int32)) &&& (q - (1 : Int32)))), .val (.int (1 : Int32))] []))) (fun _ k => XS.icmpNo X0.here hx rfl (hb hby own_d_jdk_33_method_48_code_23) rfl (XT.ii_le_f hc5) k) ?_
      refine OGoal.mp (S' := (s₁.setTop (mkF m 29 #[.val (.int ((q ^^^ (-1 : Int32)) &&& (q - (1 : Int32)))), .val (.int ((1 : Int32) + (16 : Int32)))] []))) (fun _ k => XT.iincV X0.here hx rfl (16 : Int32) (hb hby own_d_jdk_33_method_48_code_26) rfl rfl (l' := #[.val (.int ((q ^^^ (-1 : Int32)) &&& (q - (1 : Int32)))), .val (.int ((1 : Int32) + (16 : Int32)))]) rfl k) ?_
      refine OGoal.mp (S' := (s₁.setTop (mkF m 30 #[.val (.int ((q ^^^ (-1 : Int32)) &&& (q - (1 : Int32)))), .val (.int ((1 : Int32) + (16 : Int32)))] [(.int ((q ^^^ (-1 : Int32)) &&& (q - (1 : Int32))))]))) (fun _ k => XS.iloadN X0.here hx rfl (hb hby own_d_jdk_33_method_48_code_29) rfl k) ?_
      refine OGoal.mp (S' := (s₁.setTop (mkF m 32 #[.val (.int ((q ^^^ (-1 : Int32)) &&& (q - (1 : Int32)))), .val (.int ((1 : Int32) + (16 : Int32)))] [(.int (16 : Int32)), (.int ((q ^^^ (-1 : Int32)) &&& (q - (1 : Int32))))]))) (fun _ k => XS.bipush X0.here hx rfl (hb hby own_d_jdk_33_method_48_code_30) k) ?_
      refine OGoal.mp (S' := (s₁.setTop (mkF m 33 #[.val (.int ((q ^^^ (-1 : Int32)) &&& (q - (1 : Int32)))), .val (.int ((1 : Int32) + (16 : Int32)))] [(.int (XT.ushr ((q ^^^ (-1 : Int32)) &&& (q - (1 : Int32))) (16 : Int32)))]))) (fun _ k => XT.iushr X0.here hx rfl (hb hby own_d_jdk_33_method_48_code_32) rfl k) ?_
      refine OGoal.mp (S' := (s₁.setTop (mkF m 34 #[.val (.int (XT.ushr ((q ^^^ (-1 : Int32)) &&& (q - (1 : Int32))) (16 : Int32))), .val (.int ((1 : Int32) + (16 : Int32)))] []))) (fun _ k => XS.istoreN X0.here hx rfl (hb hby own_d_jdk_33_method_48_code_33) rfl (l' := #[.val (.int (XT.ushr ((q ^^^ (-1 : Int32)) &&& (q - (1 : Int32))) (16 : Int32))), .val (.int ((1 : Int32) + (16 : Int32)))]) rfl k) ?_
      exact j34 _ _
    · refine OGoal.mp (S' := (s₁.setTop (mkF m 34 #[.val (.int ((q ^^^ (-1 : Int32)) &&& (q - (1 : Int32)))), .val (.int (1 : Int32))] []))) (fun _ k => XS.icmpYes X0.here hx rfl (pc0 := 23) (pc' := 34) rfl (hb hby own_d_jdk_33_method_48_code_23) rfl (XT.ii_le_t hc5) (by decide) (by decide) k) ?_
      exact j34 _ _
  · refine OGoal.mp (S' := (s₁.setTop (mkF m 12 #[.val (.int ((q ^^^ (-1 : Int32)) &&& (q - (1 : Int32)))), .unset] []))) (fun _ k => XS.ifNo X0.here hx rfl (hb hby own_d_jdk_33_method_48_code_9) rfl (XT.i0_gt_f hc4) k) ?_
    refine OGoal.mp (S' := (s₁.setTop (mkF m 13 #[.val (.int ((q ^^^ (-1 : Int32)) &&& (q - (1 : Int32)))), .unset] [(.int ((q ^^^ (-1 : Int32)) &&& (q - (1 : Int32))))]))) (fun _ k => XS.iloadN X0.here hx rfl (hb hby own_d_jdk_33_method_48_code_12) rfl k) ?_
    refine OGoal.mp (S' := (s₁.setTop (mkF m 15 #[.val (.int ((q ^^^ (-1 : Int32)) &&& (q - (1 : Int32)))), .unset] [(.int (32 : Int32)), (.int ((q ^^^ (-1 : Int32)) &&& (q - (1 : Int32))))]))) (fun _ k => XS.bipush X0.here hx rfl (hb hby own_d_jdk_33_method_48_code_13) k) ?_
    refine OGoal.mp (S' := (s₁.setTop (mkF m 16 #[.val (.int ((q ^^^ (-1 : Int32)) &&& (q - (1 : Int32)))), .unset] [(.int (((q ^^^ (-1 : Int32)) &&& (q - (1 : Int32))) &&& (32 : Int32)))]))) (fun _ k => XS.iand X0.here hx rfl (hb hby own_d_jdk_33_method_48_code_15) rfl k) ?_
    refine oRetI X0 hx hlk hret (hb hby own_d_jdk_33_method_48_code_16) ?_ (by decide) (by decide)
    exact ⟨_, rfl, Fr.nil n0, e0⟩
theorem own_d_jdk_117_method_6_code_0 : decode jdk_117_method_6_code 0 = .ok (.dload_n 0, 1) := by decide +kernel
theorem own_d_jdk_117_method_6_code_1 : decode jdk_117_method_6_code 1 = .ok (.dload_n 0, 1) := by decide +kernel
theorem own_d_jdk_117_method_6_code_2 : decode jdk_117_method_6_code 2 = .ok (.dcmp .l, 1) := by decide +kernel
theorem own_d_jdk_117_method_6_code_3 : decode jdk_117_method_6_code 3 = .ok (.ifCond .eq 7, 3) := by decide +kernel
theorem own_d_jdk_117_method_6_code_6 : decode jdk_117_method_6_code 6 = .ok (.iconst 1, 1) := by decide +kernel
theorem own_d_jdk_117_method_6_code_7 : decode jdk_117_method_6_code 7 = .ok (.goto 4, 3) := by decide +kernel
theorem own_d_jdk_117_method_6_code_11 : decode jdk_117_method_6_code 11 = .ok (.ireturn, 1) := by decide +kernel
theorem own_pn_java_lang_Double : plainName "java/lang/Double" = true := by first | (simp [plainName, overriddenIn]; done) | decide +kernel
theorem own_ef_rmN (x0 : UInt64) (m : MethodId) : entryFrame m #[(.double x0)] 2 = mkF m 0 #[.val (.double x0), .second] [] := by first | (simp [entryFrame, mkF, argsToLocals, Value.category]; done) | rfl
set_option maxRecDepth 65536 in
set_option maxHeartbeats 40000000 in
theorem rmN (l : Launch) (Z : State) (a0 : Array Value) (hw : ∀ d ∈ tables_1, d.before a0 Z = true)  (h0 : Heap) (n0 : Nat) (Z0 : n0 ≤ h0.size)  :
    OCon l Z (⟨"java/lang/Double", "isNaN", "(D)Z"⟩ : MethodName) jdk_117_method_6_code 2 (some .boolean) ({ frames := 0, cells := 0, slots := 0, locals := 0 } : Room) #[(.double (9221120237041090560 : UInt64))] h0 (fun v h L => v = some (.int (1 : Int32)) ∧ Fr n0 L ∧ h = h0) := by
  refine OConK.intro (y := (⟨"java/lang/Double", "isNaN", "(D)Z"⟩ : MethodName)) (plainFor_of_name own_pn_java_lang_Double) (own_ef_rmN (9221120237041090560 : UInt64)) ?_
  intro p e s m below meth c s₁ hx hby hml hown hnm hret hlk hZ X0 e0
  show OGoal p e below s _ _ _ (s₁.setTop (mkF m 0 #[.val (.double (9221120237041090560 : UInt64)), .second] []))
  refine OGoal.mp (S' := (s₁.setTop (mkF m 1 #[.val (.double (9221120237041090560 : UInt64)), .second] [(.double (9221120237041090560 : UInt64))]))) (fun _ k => XS.dloadN X0.here hx rfl (hb hby own_d_jdk_117_method_6_code_0) rfl k) ?_
  refine OGoal.mp (S' := (s₁.setTop (mkF m 2 #[.val (.double (9221120237041090560 : UInt64)), .second] [(.double (9221120237041090560 : UInt64)), (.double (9221120237041090560 : UInt64))]))) (fun _ k => XS.dloadN X0.here hx rfl (hb hby own_d_jdk_117_method_6_code_1) rfl k) ?_
  refine OGoal.mp (S' := (s₁.setTop (mkF m 3 #[.val (.double (9221120237041090560 : UInt64)), .second] [(.int (-1 : Int32))]))) (fun _ k => XS.dcmpS (g := mkF m 2 #[.val (.double (9221120237041090560 : UInt64)), .second] [(.double (9221120237041090560 : UInt64)), (.double (9221120237041090560 : UInt64))]) (o := .l) (x := (9221120237041090560 : UInt64)) (y := (9221120237041090560 : UInt64)) (v := (-1 : Int32)) (rest := []) X0.here hx rfl (hb hby own_d_jdk_117_method_6_code_2) rfl (by decide +kernel) k) ?_
  refine OGoal.mp (S' := (s₁.setTop (mkF m 6 #[.val (.double (9221120237041090560 : UInt64)), .second] []))) (fun _ k => XS.ifNo X0.here hx rfl (hb hby own_d_jdk_117_method_6_code_3) rfl (XT.i0_eq_f (by decide)) k) ?_
  refine OGoal.mp (S' := (s₁.setTop (mkF m 7 #[.val (.double (9221120237041090560 : UInt64)), .second] [(.int (1 : Int32))]))) (fun _ k => XS.iconst X0.here hx rfl (hb hby own_d_jdk_117_method_6_code_6) k) ?_
  refine OGoal.mp (S' := (s₁.setTop (mkF m 11 #[.val (.double (9221120237041090560 : UInt64)), .second] [(.int (1 : Int32))]))) (fun _ k => XS.goto X0.here hx rfl (pc0 := 7) (pc' := 11) rfl (hb hby own_d_jdk_117_method_6_code_7) (by decide) (by decide) k) ?_
  refine oRetZ X0 hx hlk hret (Or.inr rfl) (hb hby own_d_jdk_117_method_6_code_11) ?_ (by decide) (by decide)
  exact ⟨rfl, (Fr.nil n0), e0⟩
def Q_vc (Z : State) (a : Addr) (cv n us : Int32) (h0 : Heap) (n0 : Nat) (v : Option Value) (h : Heap) (L : List Loc) : Prop := ∃ (d c : Addr) (sh : Int32), v = none ∧ Fr n0 L ∧ Exa Z h a "com/example/andesite/andesite/data/ValueCounts" ∧ Fld Z h a "com/example/andesite/andesite/data/ValueCounts" "classValues" "I" (.int cv) ∧ Fld Z h a "com/example/andesite/andesite/data/ValueCounts" "slotValues" "[D" (.ref d) ∧ Fld Z h a "com/example/andesite/andesite/data/ValueCounts" "slotCounts" "[J" (.ref c) ∧ Fld Z h a "com/example/andesite/andesite/data/ValueCounts" "shift" "I" (.int sh) ∧ Fld Z h a "com/example/andesite/andesite/data/ValueCounts" "used" "I" (.int us) ∧ OArr Z h d .double n (fun _ => .double (9221120237041090560 : UInt64)) ∧ Keep h0 h [a]
theorem own_d_prog_52_method_8_code_0 : decode prog_52_method_8_code 0 = .ok (.aload_n 0, 1) := by decide +kernel
theorem own_d_prog_52_method_8_code_1 : decode prog_52_method_8_code 1 = .ok (.iload_n 1, 1) := by decide +kernel
theorem own_d_prog_52_method_8_code_2 : decode prog_52_method_8_code 2 = .ok (.newarray .double, 2) := by decide +kernel
theorem own_d_prog_52_method_8_code_4 : decode prog_52_method_8_code 4 = .ok (.putfield 23, 3) := by decide +kernel
theorem own_d_prog_52_method_8_code_7 : decode prog_52_method_8_code 7 = .ok (.aload_n 0, 1) := by decide +kernel
theorem own_d_prog_52_method_8_code_8 : decode prog_52_method_8_code 8 = .ok (.getfield 23, 3) := by decide +kernel
theorem own_d_prog_52_method_8_code_11 : decode prog_52_method_8_code 11 = .ok (.ldc2_w 76, 3) := by decide +kernel
theorem own_d_prog_52_method_8_code_14 : decode prog_52_method_8_code 14 = .ok (.invokestatic 78, 3) := by decide +kernel
theorem own_pd___DD_V : parseMethodDescriptor "([DD)V" = some ⟨[(.array .double), .double], none⟩ := by decide +kernel
theorem own_d_prog_52_method_8_code_17 : decode prog_52_method_8_code 17 = .ok (.aload_n 0, 1) := by decide +kernel
theorem own_d_prog_52_method_8_code_18 : decode prog_52_method_8_code 18 = .ok (.iload_n 1, 1) := by decide +kernel
theorem own_d_prog_52_method_8_code_19 : decode prog_52_method_8_code 19 = .ok (.aload_n 0, 1) := by decide +kernel
theorem own_d_prog_52_method_8_code_20 : decode prog_52_method_8_code 20 = .ok (.getfield 9, 3) := by decide +kernel
theorem own_d_prog_52_method_8_code_23 : decode prog_52_method_8_code 23 = .ok (.imul, 1) := by decide +kernel
theorem own_d_prog_52_method_8_code_24 : decode prog_52_method_8_code 24 = .ok (.newarray .long, 2) := by decide +kernel
theorem own_d_prog_52_method_8_code_26 : decode prog_52_method_8_code 26 = .ok (.putfield 36, 3) := by decide +kernel
theorem own_d_prog_52_method_8_code_29 : decode prog_52_method_8_code 29 = .ok (.aload_n 0, 1) := by decide +kernel
theorem own_d_prog_52_method_8_code_30 : decode prog_52_method_8_code 30 = .ok (.bipush 64, 2) := by decide +kernel
theorem own_d_prog_52_method_8_code_32 : decode prog_52_method_8_code 32 = .ok (.iload_n 1, 1) := by decide +kernel
theorem own_d_prog_52_method_8_code_33 : decode prog_52_method_8_code 33 = .ok (.invokestatic 82, 3) := by decide +kernel
theorem own_pd__I_I : parseMethodDescriptor "(I)I" = some ⟨[.int], some .int⟩ := by decide +kernel
theorem own_d_prog_52_method_8_code_36 : decode prog_52_method_8_code 36 = .ok (.isub, 1) := by decide +kernel
theorem own_d_prog_52_method_8_code_37 : decode prog_52_method_8_code 37 = .ok (.putfield 86, 3) := by decide +kernel
theorem own_d_prog_52_method_8_code_40 : decode prog_52_method_8_code 40 = .ok (.return_, 1) := by decide +kernel
theorem own_pn_com_example_andesite_andesite_data_ValueCounts : plainName "com/example/andesite/andesite/data/ValueCounts" = true := by first | (simp [plainName, overriddenIn]; done) | decide +kernel
theorem own_ef_rmA16 (x0 : Addr) (x1 : Int32) (m : MethodId) : entryFrame m #[(.ref x0), (.int x1)] 2 = mkF m 0 #[.val (.ref x0), .val (.int x1)] [] := by first | (simp [entryFrame, mkF, argsToLocals, Value.category]; done) | rfl
set_option maxRecDepth 65536 in
set_option maxHeartbeats 40000000 in
theorem rmA16 (l : Launch) (Z : State) (a0 : Array Value) (hw : ∀ d ∈ tables_1, d.before a0 Z = true) (a : Addr) (h0 : Heap) (n0 : Nat) (Z0 : n0 ≤ h0.size) (cv us sh : Int32) (u1 u2 : Value) (E : Exa Z h0 a "com/example/andesite/andesite/data/ValueCounts") (Fc : Fld Z h0 a "com/example/andesite/andesite/data/ValueCounts" "classValues" "I" (.int cv)) (Fv : Fld Z h0 a "com/example/andesite/andesite/data/ValueCounts" "slotValues" "[D" u1) (Fn : Fld Z h0 a "com/example/andesite/andesite/data/ValueCounts" "slotCounts" "[J" u2) (Fs : Fld Z h0 a "com/example/andesite/andesite/data/ValueCounts" "shift" "I" (.int sh)) (Fu : Fld Z h0 a "com/example/andesite/andesite/data/ValueCounts" "used" "I" (.int us)) (ab : n0 ≤ a) (hs0 : 0 ≤ ((16 : Int32) * cv).toInt) (hs1 : ((16 : Int32) * cv).toInt ≤ 4080) :
    OCon l Z (⟨"com/example/andesite/andesite/data/ValueCounts", "allocate", "(I)V"⟩ : MethodName) prog_52_method_8_code 2 none ({ frames := 1, cells := 2, slots := 4096, locals := 16 } : Room) #[(.ref a), (.int (16 : Int32))] h0 (Q_vc Z a cv (16 : Int32) us h0 n0) := by
  refine OConK.intro (y := (⟨"com/example/andesite/andesite/data/ValueCounts", "allocate", "(I)V"⟩ : MethodName)) (plainFor_of_name own_pn_com_example_andesite_andesite_data_ValueCounts) (own_ef_rmA16 a (16 : Int32)) ?_
  intro p e s m below meth c s₁ hx hby hml hown hnm hret hlk hZ X0 e0
  show OGoal p e below s _ _ _ (s₁.setTop (mkF m 0 #[.val (.ref a), .val (.int (16 : Int32))] []))
  refine OGoal.mp (S' := (s₁.setTop (mkF m 1 #[.val (.ref a), .val (.int (16 : Int32))] [(.ref a)]))) (fun _ k => XS.aloadN X0.here hx rfl (hb hby own_d_prog_52_method_8_code_0) rfl rfl k) ?_
  refine OGoal.mp (S' := (s₁.setTop (mkF m 2 #[.val (.ref a), .val (.int (16 : Int32))] [(.int (16 : Int32)), (.ref a)]))) (fun _ k => XS.iloadN X0.here hx rfl (hb hby own_d_prog_52_method_8_code_1) rfl k) ?_
  obtain ⟨T1, h5, c8, X2, e3, E6, A7, XA11, st4⟩ := newPE X0 hx hZ (hw _ (List.mem_of_getElem? (i := 15) rfl)) e0 (g := mkF m 2 #[.val (.ref a), .val (.int (16 : Int32))] [(.int (16 : Int32)), (.ref a)]) rfl (hb hby own_d_prog_52_method_8_code_2) rfl (by decide) (cap := 16) (by decide) (by decide) (by decide) (by decide) (ad := "[D") (by rfl)
  obtain ⟨a9, g10⟩ : ∃ z, z = h0.size := ⟨_, rfl⟩
  rw [← g10] at A7 XA11 st4
  have lt12 : a < a9 := by rw [g10]; exact E.lt
  have fr13 : h0.size ≤ a9 := by rw [g10]; exact (Keep.refl h0 [a]).1
  have K14 : Keep h0 h5 [a] := (Keep.refl h0 [a]).ext E6
  have F15 := E.ext E6
  have F16 := Fc.ext E6
  have F17 := Fv.ext E6
  have F18 := Fn.ext E6
  have F19 := Fs.ext E6
  have F20 := Fu.ext E6
  have F21 : OArr Z h5 a9 .double (16 : Int32) (fun _ => .double 0 : Nat → Value) := OArr.new A7 (by decide)
  have Z22 : n0 ≤ h5.size := Nat.le_trans Z0 E6.1
  have ab23 : n0 ≤ a9 := Nat.le_trans Z0 (Nat.le_of_eq g10.symm)
  refine OGoal.mp (S' := (T1.setTop (mkF m 4 #[.val (.ref a), .val (.int (16 : Int32))] [(.ref a9), (.ref a)]))) (fun _ k => st4 _ k) ?_
  obtain ⟨T24, h28, X25, e26, W29, st27⟩ := putF X2 hx hZ hown (host := "") (Or.inl (hw _ (List.mem_of_getElem? (i := 16) rfl))) Via.refl e3 F17 F15 (Or.inl (hw _ (List.mem_of_getElem? (i := 17) rfl))) (hw _ (List.mem_of_getElem? (i := 1) rfl)) (ty := (.array .double)) (by decide) rfl rfl (g := mkF m 4 #[.val (.ref a), .val (.int (16 : Int32))] [(.ref a9), (.ref a)]) rfl rfl (hb hby own_d_prog_52_method_8_code_4)
  have N30 := Fr.snoc X25 (Fr.nil n0) ab
  have Z31 : n0 ≤ h28.size := Nat.le_trans Z22 (Keep.of_wr W29).1
  have K32 : Keep h0 h28 [a] := K14.wr W29 (Or.inl (by simp))
  have F33 := F15.wr W29
  have F34 := F16.other W29 (Or.inr (slot_ne (a0 := a0) (C := "com/example/andesite/andesite/data/ValueCounts") (t := .int) (t' := (.array .double)) (Or.inr (hw _ (List.mem_of_getElem? (i := 10) rfl))) (Or.inl (hw _ (List.mem_of_getElem? (i := 17) rfl))) (by decide) (by decide) (by decide)))
  have F35 := F17.same W29
  have F36 := F18.other W29 (Or.inr (slot_ne (a0 := a0) (C := "com/example/andesite/andesite/data/ValueCounts") (t := (.array .long)) (t' := (.array .double)) (Or.inl (hw _ (List.mem_of_getElem? (i := 25) rfl))) (Or.inl (hw _ (List.mem_of_getElem? (i := 17) rfl))) (by decide) (by decide) (by decide)))
  have F37 := F19.other W29 (Or.inr (slot_ne (a0 := a0) (C := "com/example/andesite/andesite/data/ValueCounts") (t := .int) (t' := (.array .double)) (Or.inl (hw _ (List.mem_of_getElem? (i := 32) rfl))) (Or.inl (hw _ (List.mem_of_getElem? (i := 17) rfl))) (by decide) (by decide) (by decide)))
  have F38 := F20.other W29 (Or.inr (slot_ne (a0 := a0) (C := "com/example/andesite/andesite/data/ValueCounts") (t := .int) (t' := (.array .double)) (Or.inl (hw _ (List.mem_of_getElem? (i := 47) rfl))) (Or.inl (hw _ (List.mem_of_getElem? (i := 17) rfl))) (by decide) (by decide) (by decide)))
  have F39 := F21.other W29 (Nat.ne_of_gt lt12)
  have F40 := XA11.wr W29
  refine OGoal.mp (S' := (T24.setTop (mkF m 7 #[.val (.ref a), .val (.int (16 : Int32))] []))) (fun _ k => st27 _ k) ?_
  refine OGoal.mp (S' := (T24.setTop (mkF m 8 #[.val (.ref a), .val (.int (16 : Int32))] [(.ref a)]))) (fun _ k => XS.aloadN X25.here hx rfl (hb hby own_d_prog_52_method_8_code_7) rfl rfl k) ?_
  obtain ⟨T41, X42, e43, st44⟩ := getF X25 hx hZ hown (host := "") (Or.inl (hw _ (List.mem_of_getElem? (i := 16) rfl))) Via.refl e26 F35 (g := mkF m 8 #[.val (.ref a), .val (.int (16 : Int32))] [(.ref a)]) rfl rfl (hb hby own_d_prog_52_method_8_code_8)
  refine OGoal.mp (S' := (T41.setTop (mkF m 11 #[.val (.ref a), .val (.int (16 : Int32))] [(.ref a9)]))) (fun _ k => st44 _ k) ?_
  refine OGoal.mp (S' := (T41.setTop (mkF m 14 #[.val (.ref a), .val (.int (16 : Int32))] [(.double (9221120237041090560 : UInt64)), (.ref a9)]))) (fun _ k => X42.ldc2DoubleC hx hown (mvT hZ (hw _ (List.mem_of_getElem? (i := 18) rfl))) (g := mkF m 11 #[.val (.ref a), .val (.int (16 : Int32))] [(.ref a9)]) rfl (hb hby own_d_prog_52_method_8_code_11) _ k) ?_
  refine oCallS (y := (⟨"java/util/Arrays", "fill", "([DD)V"⟩ : MethodName)) X42 hx hZ hown (hw _ (List.mem_of_getElem? (i := 19) rfl)) (hw _ (List.mem_of_getElem? (i := 20) rfl)) (hw _ (List.mem_of_getElem? (i := 21) rfl)) (hw _ (List.mem_of_getElem? (i := 22) rfl)) (by decide) (rmF l Z a0 hw a9 (9221120237041090560 : UInt64) h28 n0 Z31 (16 : Int32) _ F39 (by decide) ab23) e43 [(.ref a9), (.double (9221120237041090560 : UInt64))] [] rfl rfl (by rw [hml]; rfl) (lenOf own_pd___DD_V rfl) 0 (Nat.le_of_eq rfl) (by decide) (by decide) (by decide) (by decide) (hb hby own_d_prog_52_method_8_code_14) ?_
  intro v45 T46 L47 X48 q49
  obtain ⟨rfl, N50, K51, A52⟩ := q49
  have N53 := Fr.app N30 N50
  have F54 := F33.keep K51
  have F55 := F34.keep K51 (ninS (Nat.ne_of_lt lt12) nin0)
  have F56 := F35.keep K51 (ninS (Nat.ne_of_lt lt12) nin0)
  have F57 := F36.keep K51 (ninS (Nat.ne_of_lt lt12) nin0)
  have F58 := F37.keep K51 (ninS (Nat.ne_of_lt lt12) nin0)
  have F59 := F38.keep K51 (ninS (Nat.ne_of_lt lt12) nin0)
  have F61 := F40.keep K51
  have Z62 : n0 ≤ T46.heap.size := Nat.le_trans Z31 K51.1
  have K63 : Keep h0 T46.heap [a] := K32.trans K51 (allS (Or.inr fr13) all0)
  show OGoal p e below s _ _ _ (T46.setTop (mkF m 17 #[.val (.ref a), .val (.int (16 : Int32))] []))
  refine OGoal.mp (S' := (T46.setTop (mkF m 18 #[.val (.ref a), .val (.int (16 : Int32))] [(.ref a)]))) (fun _ k => XS.aloadN X48.here hx rfl (hb hby own_d_prog_52_method_8_code_17) rfl rfl k) ?_
  refine OGoal.mp (S' := (T46.setTop (mkF m 19 #[.val (.ref a), .val (.int (16 : Int32))] [(.int (16 : Int32)), (.ref a)]))) (fun _ k => XS.iloadN X48.here hx rfl (hb hby own_d_prog_52_method_8_code_18) rfl k) ?_
  refine OGoal.mp (S' := (T46.setTop (mkF m 20 #[.val (.ref a), .val (.int (16 : Int32))] [(.ref a), (.int (16 : Int32)), (.ref a)]))) (fun _ k => XS.aloadN X48.here hx rfl (hb hby own_d_prog_52_method_8_code_19) rfl rfl k) ?_
  obtain ⟨T64, X65, e66, st67⟩ := getF X48 hx hZ hown (host := "") (Or.inl (hw _ (List.mem_of_getElem? (i := 9) rfl))) Via.refl rfl F55 (g := mkF m 20 #[.val (.ref a), .val (.int (16 : Int32))] [(.ref a), (.int (16 : Int32)), (.ref a)]) rfl rfl (hb hby own_d_prog_52_method_8_code_20)
  refine OGoal.mp (S' := (T64.setTop (mkF m 23 #[.val (.ref a), .val (.int (16 : Int32))] [(.int cv), (.int (16 : Int32)), (.ref a)]))) (fun _ k => st67 _ k) ?_
  refine OGoal.mp (S' := (T64.setTop (mkF m 24 #[.val (.ref a), .val (.int (16 : Int32))] [(.int ((16 : Int32) * cv)), (.ref a)]))) (fun _ k => XS.imul X65.here hx rfl (hb hby own_d_prog_52_method_8_code_23) rfl k) ?_
  obtain ⟨u68, hu68⟩ : ∃ z : Int32, z = ((16 : Int32) * cv) := ⟨_, rfl⟩
  rw [← hu68]
  rw [← hu68] at hs0 hs1
  have l69 : (0 : Int32).toInt = 0 := by decide
  obtain ⟨T70, h74, c77, X71, e72, E75, A76, XA80, st73⟩ := newPE X65 hx hZ (hw _ (List.mem_of_getElem? (i := 23) rfl)) e66 (g := mkF m 24 #[.val (.ref a), .val (.int (16 : Int32))] [(.int u68), (.ref a)]) rfl (hb hby own_d_prog_52_method_8_code_24) rfl (mNlt (by omega)) (cap := 4080) (by show (u68).toInt.toNat ≤ _; omega) (by decide) (by decide) (by decide) (ad := "[J") (by rfl)
  obtain ⟨a78, g79⟩ : ∃ z, z = T46.heap.size := ⟨_, rfl⟩
  rw [← g79] at A76 XA80 st73
  have lt81 : a < a78 := by rw [g79]; exact F54.lt
  have lt82 : a9 < a78 := by rw [g79]; exact A52.lt
  have fr83 : h0.size ≤ a78 := by rw [g79]; exact K63.1
  have K84 : Keep h0 h74 [a] := K63.ext E75
  have F85 := F54.ext E75
  have F86 := F55.ext E75
  have F87 := F56.ext E75
  have F88 := F57.ext E75
  have F89 := F58.ext E75
  have F90 := F59.ext E75
  have F91 := A52.ext E75
  have F92 := F61.ext E75
  have F93 : OArr Z h74 a78 .long u68 (fun _ => .long 0 : Nat → Value) := OArr.new A76 (mNlt (by omega))
  have Z94 : n0 ≤ h74.size := Nat.le_trans Z62 E75.1
  have ab95 : n0 ≤ a78 := Nat.le_trans Z62 (Nat.le_of_eq g79.symm)
  refine OGoal.mp (S' := (T70.setTop (mkF m 26 #[.val (.ref a), .val (.int (16 : Int32))] [(.ref a78), (.ref a)]))) (fun _ k => st73 _ k) ?_
  obtain ⟨T96, h100, X97, e98, W101, st99⟩ := putF X71 hx hZ hown (host := "") (Or.inl (hw _ (List.mem_of_getElem? (i := 24) rfl))) Via.refl e72 F88 F85 (Or.inl (hw _ (List.mem_of_getElem? (i := 25) rfl))) (hw _ (List.mem_of_getElem? (i := 1) rfl)) (ty := (.array .long)) (by decide) rfl rfl (g := mkF m 26 #[.val (.ref a), .val (.int (16 : Int32))] [(.ref a78), (.ref a)]) rfl rfl (hb hby own_d_prog_52_method_8_code_26)
  have N102 := Fr.snoc X97 N53 ab
  have Z103 : n0 ≤ h100.size := Nat.le_trans Z94 (Keep.of_wr W101).1
  have K104 : Keep h0 h100 [a] := K84.wr W101 (Or.inl (by simp))
  have F105 := F85.wr W101
  have F106 := F86.other W101 (Or.inr (slot_ne (a0 := a0) (C := "com/example/andesite/andesite/data/ValueCounts") (t := .int) (t' := (.array .long)) (Or.inr (hw _ (List.mem_of_getElem? (i := 10) rfl))) (Or.inl (hw _ (List.mem_of_getElem? (i := 25) rfl))) (by decide) (by decide) (by decide)))
  have F107 := F87.other W101 (Or.inr (slot_ne (a0 := a0) (C := "com/example/andesite/andesite/data/ValueCounts") (t := (.array .double)) (t' := (.array .long)) (Or.inl (hw _ (List.mem_of_getElem? (i := 17) rfl))) (Or.inl (hw _ (List.mem_of_getElem? (i := 25) rfl))) (by decide) (by decide) (by decide)))
  have F108 := F88.same W101
  have F109 := F89.other W101 (Or.inr (slot_ne (a0 := a0) (C := "com/example/andesite/andesite/data/ValueCounts") (t := .int) (t' := (.array .long)) (Or.inl (hw _ (List.mem_of_getElem? (i := 32) rfl))) (Or.inl (hw _ (List.mem_of_getElem? (i := 25) rfl))) (by decide) (by decide) (by decide)))
  have F110 := F90.other W101 (Or.inr (slot_ne (a0 := a0) (C := "com/example/andesite/andesite/data/ValueCounts") (t := .int) (t' := (.array .long)) (Or.inl (hw _ (List.mem_of_getElem? (i := 47) rfl))) (Or.inl (hw _ (List.mem_of_getElem? (i := 25) rfl))) (by decide) (by decide) (by decide)))
  have F111 := F91.other W101 (Nat.ne_of_gt lt12)
  have F112 := F92.wr W101
  have F113 := F93.other W101 (Nat.ne_of_gt lt81)
  have F114 := XA80.wr W101
  refine OGoal.mp (S' := (T96.setTop (mkF m 29 #[.val (.ref a), .val (.int (16 : Int32))] []))) (fun _ k => st99 _ k) ?_
  refine OGoal.mp (S' := (T96.setTop (mkF m 30 #[.val (.ref a), .val (.int (16 : Int32))] [(.ref a)]))) (fun _ k => XS.aloadN X97.here hx rfl (hb hby own_d_prog_52_method_8_code_29) rfl rfl k) ?_
  refine OGoal.mp (S' := (T96.setTop (mkF m 32 #[.val (.ref a), .val (.int (16 : Int32))] [(.int (64 : Int32)), (.ref a)]))) (fun _ k => XS.bipush X97.here hx rfl (hb hby own_d_prog_52_method_8_code_30) k) ?_
  refine OGoal.mp (S' := (T96.setTop (mkF m 33 #[.val (.ref a), .val (.int (16 : Int32))] [(.int (16 : Int32)), (.int (64 : Int32)), (.ref a)]))) (fun _ k => XS.iloadN X97.here hx rfl (hb hby own_d_prog_52_method_8_code_32) rfl k) ?_
  refine oCallS (y := (⟨"java/lang/Integer", "numberOfTrailingZeros", "(I)I"⟩ : MethodName)) X97 hx hZ hown (hw _ (List.mem_of_getElem? (i := 26) rfl)) (hw _ (List.mem_of_getElem? (i := 27) rfl)) (hw _ (List.mem_of_getElem? (i := 28) rfl)) (hw _ (List.mem_of_getElem? (i := 29) rfl)) (by decide) (rmZ l Z a0 hw (16 : Int32) h100 n0 Z103) e98 [(.int (16 : Int32))] [(.int (64 : Int32)), (.ref a)] rfl rfl (by rw [hml]; rfl) (lenOf own_pd__I_I rfl) 2 (Nat.le_of_eq rfl) (by decide) (by decide) (by decide) (by decide) (hb hby own_d_prog_52_method_8_code_33) ?_
  intro v116 T117 L118 X119 q120
  obtain ⟨z115, rfl, N121, e122⟩ := q120
  have N123 := Fr.app N102 N121
  show OGoal p e below s _ _ _ (T117.setTop (mkF m 36 #[.val (.ref a), .val (.int (16 : Int32))] [(.int z115), (.int (64 : Int32)), (.ref a)]))
  refine OGoal.mp (S' := (T117.setTop (mkF m 37 #[.val (.ref a), .val (.int (16 : Int32))] [(.int ((64 : Int32) - z115)), (.ref a)]))) (fun _ k => XS.isub X119.here hx rfl (hb hby own_d_prog_52_method_8_code_36) rfl k) ?_
  obtain ⟨T124, h128, X125, e126, W129, st127⟩ := putF X119 hx hZ hown (host := "") (Or.inl (hw _ (List.mem_of_getElem? (i := 31) rfl))) Via.refl e122 F109 F105 (Or.inl (hw _ (List.mem_of_getElem? (i := 32) rfl))) (hw _ (List.mem_of_getElem? (i := 1) rfl)) (ty := .int) (by decide) rfl rfl (g := mkF m 37 #[.val (.ref a), .val (.int (16 : Int32))] [(.int ((64 : Int32) - z115)), (.ref a)]) rfl rfl (hb hby own_d_prog_52_method_8_code_37)
  have N130 := Fr.snoc X125 N123 ab
  have Z131 : n0 ≤ h128.size := Nat.le_trans Z103 (Keep.of_wr W129).1
  have K132 : Keep h0 h128 [a] := K104.wr W129 (Or.inl (by simp))
  have F133 := F105.wr W129
  have F134 := F106.other W129 (Or.inr (slot_ne (a0 := a0) (C := "com/example/andesite/andesite/data/ValueCounts") (t := .int) (t' := .int) (Or.inr (hw _ (List.mem_of_getElem? (i := 10) rfl))) (Or.inl (hw _ (List.mem_of_getElem? (i := 32) rfl))) (by decide) (by decide) (by decide)))
  have F135 := F107.other W129 (Or.inr (slot_ne (a0 := a0) (C := "com/example/andesite/andesite/data/ValueCounts") (t := (.array .double)) (t' := .int) (Or.inl (hw _ (List.mem_of_getElem? (i := 17) rfl))) (Or.inl (hw _ (List.mem_of_getElem? (i := 32) rfl))) (by decide) (by decide) (by decide)))
  have F136 := F108.other W129 (Or.inr (slot_ne (a0 := a0) (C := "com/example/andesite/andesite/data/ValueCounts") (t := (.array .long)) (t' := .int) (Or.inl (hw _ (List.mem_of_getElem? (i := 25) rfl))) (Or.inl (hw _ (List.mem_of_getElem? (i := 32) rfl))) (by decide) (by decide) (by decide)))
  have F137 := F109.same W129
  have F138 := F110.other W129 (Or.inr (slot_ne (a0 := a0) (C := "com/example/andesite/andesite/data/ValueCounts") (t := .int) (t' := .int) (Or.inl (hw _ (List.mem_of_getElem? (i := 47) rfl))) (Or.inl (hw _ (List.mem_of_getElem? (i := 32) rfl))) (by decide) (by decide) (by decide)))
  have F139 := F111.other W129 (Nat.ne_of_gt lt12)
  have F140 := F112.wr W129
  have F141 := F113.other W129 (Nat.ne_of_gt lt81)
  have F142 := F114.wr W129
  refine OGoal.mp (S' := (T124.setTop (mkF m 40 #[.val (.ref a), .val (.int (16 : Int32))] []))) (fun _ k => st127 _ k) ?_
  refine oRetV X125 hx hlk hret (hb hby own_d_prog_52_method_8_code_40) ?_ (by decide) (by decide)
  rw [e126]
  exact ⟨_, _, _, rfl, N130, F133, F134, F135, F136, F137, F138, F139, K132⟩
theorem own_ef_rmA32 (x0 : Addr) (x1 : Int32) (m : MethodId) : entryFrame m #[(.ref x0), (.int x1)] 2 = mkF m 0 #[.val (.ref x0), .val (.int x1)] [] := by first | (simp [entryFrame, mkF, argsToLocals, Value.category]; done) | rfl
set_option maxRecDepth 65536 in
set_option maxHeartbeats 40000000 in
theorem rmA32 (l : Launch) (Z : State) (a0 : Array Value) (hw : ∀ d ∈ tables_1, d.before a0 Z = true) (a : Addr) (h0 : Heap) (n0 : Nat) (Z0 : n0 ≤ h0.size) (cv us sh : Int32) (u1 u2 : Value) (E : Exa Z h0 a "com/example/andesite/andesite/data/ValueCounts") (Fc : Fld Z h0 a "com/example/andesite/andesite/data/ValueCounts" "classValues" "I" (.int cv)) (Fv : Fld Z h0 a "com/example/andesite/andesite/data/ValueCounts" "slotValues" "[D" u1) (Fn : Fld Z h0 a "com/example/andesite/andesite/data/ValueCounts" "slotCounts" "[J" u2) (Fs : Fld Z h0 a "com/example/andesite/andesite/data/ValueCounts" "shift" "I" (.int sh)) (Fu : Fld Z h0 a "com/example/andesite/andesite/data/ValueCounts" "used" "I" (.int us)) (ab : n0 ≤ a) (hs0 : 0 ≤ ((32 : Int32) * cv).toInt) (hs1 : ((32 : Int32) * cv).toInt ≤ 8160) :
    OCon l Z (⟨"com/example/andesite/andesite/data/ValueCounts", "allocate", "(I)V"⟩ : MethodName) prog_52_method_8_code 2 none ({ frames := 1, cells := 2, slots := 8192, locals := 16 } : Room) #[(.ref a), (.int (32 : Int32))] h0 (Q_vc Z a cv (32 : Int32) us h0 n0) := by
  refine OConK.intro (y := (⟨"com/example/andesite/andesite/data/ValueCounts", "allocate", "(I)V"⟩ : MethodName)) (plainFor_of_name own_pn_com_example_andesite_andesite_data_ValueCounts) (own_ef_rmA32 a (32 : Int32)) ?_
  intro p e s m below meth c s₁ hx hby hml hown hnm hret hlk hZ X0 e0
  show OGoal p e below s _ _ _ (s₁.setTop (mkF m 0 #[.val (.ref a), .val (.int (32 : Int32))] []))
  refine OGoal.mp (S' := (s₁.setTop (mkF m 1 #[.val (.ref a), .val (.int (32 : Int32))] [(.ref a)]))) (fun _ k => XS.aloadN X0.here hx rfl (hb hby own_d_prog_52_method_8_code_0) rfl rfl k) ?_
  refine OGoal.mp (S' := (s₁.setTop (mkF m 2 #[.val (.ref a), .val (.int (32 : Int32))] [(.int (32 : Int32)), (.ref a)]))) (fun _ k => XS.iloadN X0.here hx rfl (hb hby own_d_prog_52_method_8_code_1) rfl k) ?_
  obtain ⟨T1, h5, c8, X2, e3, E6, A7, XA11, st4⟩ := newPE X0 hx hZ (hw _ (List.mem_of_getElem? (i := 15) rfl)) e0 (g := mkF m 2 #[.val (.ref a), .val (.int (32 : Int32))] [(.int (32 : Int32)), (.ref a)]) rfl (hb hby own_d_prog_52_method_8_code_2) rfl (by decide) (cap := 32) (by decide) (by decide) (by decide) (by decide) (ad := "[D") (by rfl)
  obtain ⟨a9, g10⟩ : ∃ z, z = h0.size := ⟨_, rfl⟩
  rw [← g10] at A7 XA11 st4
  have lt12 : a < a9 := by rw [g10]; exact E.lt
  have fr13 : h0.size ≤ a9 := by rw [g10]; exact (Keep.refl h0 [a]).1
  have K14 : Keep h0 h5 [a] := (Keep.refl h0 [a]).ext E6
  have F15 := E.ext E6
  have F16 := Fc.ext E6
  have F17 := Fv.ext E6
  have F18 := Fn.ext E6
  have F19 := Fs.ext E6
  have F20 := Fu.ext E6
  have F21 : OArr Z h5 a9 .double (32 : Int32) (fun _ => .double 0 : Nat → Value) := OArr.new A7 (by decide)
  have Z22 : n0 ≤ h5.size := Nat.le_trans Z0 E6.1
  have ab23 : n0 ≤ a9 := Nat.le_trans Z0 (Nat.le_of_eq g10.symm)
  refine OGoal.mp (S' := (T1.setTop (mkF m 4 #[.val (.ref a), .val (.int (32 : Int32))] [(.ref a9), (.ref a)]))) (fun _ k => st4 _ k) ?_
  obtain ⟨T24, h28, X25, e26, W29, st27⟩ := putF X2 hx hZ hown (host := "") (Or.inl (hw _ (List.mem_of_getElem? (i := 16) rfl))) Via.refl e3 F17 F15 (Or.inl (hw _ (List.mem_of_getElem? (i := 17) rfl))) (hw _ (List.mem_of_getElem? (i := 1) rfl)) (ty := (.array .double)) (by decide) rfl rfl (g := mkF m 4 #[.val (.ref a), .val (.int (32 : Int32))] [(.ref a9), (.ref a)]) rfl rfl (hb hby own_d_prog_52_method_8_code_4)
  have N30 := Fr.snoc X25 (Fr.nil n0) ab
  have Z31 : n0 ≤ h28.size := Nat.le_trans Z22 (Keep.of_wr W29).1
  have K32 : Keep h0 h28 [a] := K14.wr W29 (Or.inl (by simp))
  have F33 := F15.wr W29
  have F34 := F16.other W29 (Or.inr (slot_ne (a0 := a0) (C := "com/example/andesite/andesite/data/ValueCounts") (t := .int) (t' := (.array .double)) (Or.inr (hw _ (List.mem_of_getElem? (i := 10) rfl))) (Or.inl (hw _ (List.mem_of_getElem? (i := 17) rfl))) (by decide) (by decide) (by decide)))
  have F35 := F17.same W29
  have F36 := F18.other W29 (Or.inr (slot_ne (a0 := a0) (C := "com/example/andesite/andesite/data/ValueCounts") (t := (.array .long)) (t' := (.array .double)) (Or.inl (hw _ (List.mem_of_getElem? (i := 25) rfl))) (Or.inl (hw _ (List.mem_of_getElem? (i := 17) rfl))) (by decide) (by decide) (by decide)))
  have F37 := F19.other W29 (Or.inr (slot_ne (a0 := a0) (C := "com/example/andesite/andesite/data/ValueCounts") (t := .int) (t' := (.array .double)) (Or.inl (hw _ (List.mem_of_getElem? (i := 32) rfl))) (Or.inl (hw _ (List.mem_of_getElem? (i := 17) rfl))) (by decide) (by decide) (by decide)))
  have F38 := F20.other W29 (Or.inr (slot_ne (a0 := a0) (C := "com/example/andesite/andesite/data/ValueCounts") (t := .int) (t' := (.array .double)) (Or.inl (hw _ (List.mem_of_getElem? (i := 47) rfl))) (Or.inl (hw _ (List.mem_of_getElem? (i := 17) rfl))) (by decide) (by decide) (by decide)))
  have F39 := F21.other W29 (Nat.ne_of_gt lt12)
  have F40 := XA11.wr W29
  refine OGoal.mp (S' := (T24.setTop (mkF m 7 #[.val (.ref a), .val (.int (32 : Int32))] []))) (fun _ k => st27 _ k) ?_
  refine OGoal.mp (S' := (T24.setTop (mkF m 8 #[.val (.ref a), .val (.int (32 : Int32))] [(.ref a)]))) (fun _ k => XS.aloadN X25.here hx rfl (hb hby own_d_prog_52_method_8_code_7) rfl rfl k) ?_
  obtain ⟨T41, X42, e43, st44⟩ := getF X25 hx hZ hown (host := "") (Or.inl (hw _ (List.mem_of_getElem? (i := 16) rfl))) Via.refl e26 F35 (g := mkF m 8 #[.val (.ref a), .val (.int (32 : Int32))] [(.ref a)]) rfl rfl (hb hby own_d_prog_52_method_8_code_8)
  refine OGoal.mp (S' := (T41.setTop (mkF m 11 #[.val (.ref a), .val (.int (32 : Int32))] [(.ref a9)]))) (fun _ k => st44 _ k) ?_
  refine OGoal.mp (S' := (T41.setTop (mkF m 14 #[.val (.ref a), .val (.int (32 : Int32))] [(.double (9221120237041090560 : UInt64)), (.ref a9)]))) (fun _ k => X42.ldc2DoubleC hx hown (mvT hZ (hw _ (List.mem_of_getElem? (i := 18) rfl))) (g := mkF m 11 #[.val (.ref a), .val (.int (32 : Int32))] [(.ref a9)]) rfl (hb hby own_d_prog_52_method_8_code_11) _ k) ?_
  refine oCallS (y := (⟨"java/util/Arrays", "fill", "([DD)V"⟩ : MethodName)) X42 hx hZ hown (hw _ (List.mem_of_getElem? (i := 19) rfl)) (hw _ (List.mem_of_getElem? (i := 20) rfl)) (hw _ (List.mem_of_getElem? (i := 21) rfl)) (hw _ (List.mem_of_getElem? (i := 22) rfl)) (by decide) (rmF l Z a0 hw a9 (9221120237041090560 : UInt64) h28 n0 Z31 (32 : Int32) _ F39 (by decide) ab23) e43 [(.ref a9), (.double (9221120237041090560 : UInt64))] [] rfl rfl (by rw [hml]; rfl) (lenOf own_pd___DD_V rfl) 0 (Nat.le_of_eq rfl) (by decide) (by decide) (by decide) (by decide) (hb hby own_d_prog_52_method_8_code_14) ?_
  intro v45 T46 L47 X48 q49
  obtain ⟨rfl, N50, K51, A52⟩ := q49
  have N53 := Fr.app N30 N50
  have F54 := F33.keep K51
  have F55 := F34.keep K51 (ninS (Nat.ne_of_lt lt12) nin0)
  have F56 := F35.keep K51 (ninS (Nat.ne_of_lt lt12) nin0)
  have F57 := F36.keep K51 (ninS (Nat.ne_of_lt lt12) nin0)
  have F58 := F37.keep K51 (ninS (Nat.ne_of_lt lt12) nin0)
  have F59 := F38.keep K51 (ninS (Nat.ne_of_lt lt12) nin0)
  have F61 := F40.keep K51
  have Z62 : n0 ≤ T46.heap.size := Nat.le_trans Z31 K51.1
  have K63 : Keep h0 T46.heap [a] := K32.trans K51 (allS (Or.inr fr13) all0)
  show OGoal p e below s _ _ _ (T46.setTop (mkF m 17 #[.val (.ref a), .val (.int (32 : Int32))] []))
  refine OGoal.mp (S' := (T46.setTop (mkF m 18 #[.val (.ref a), .val (.int (32 : Int32))] [(.ref a)]))) (fun _ k => XS.aloadN X48.here hx rfl (hb hby own_d_prog_52_method_8_code_17) rfl rfl k) ?_
  refine OGoal.mp (S' := (T46.setTop (mkF m 19 #[.val (.ref a), .val (.int (32 : Int32))] [(.int (32 : Int32)), (.ref a)]))) (fun _ k => XS.iloadN X48.here hx rfl (hb hby own_d_prog_52_method_8_code_18) rfl k) ?_
  refine OGoal.mp (S' := (T46.setTop (mkF m 20 #[.val (.ref a), .val (.int (32 : Int32))] [(.ref a), (.int (32 : Int32)), (.ref a)]))) (fun _ k => XS.aloadN X48.here hx rfl (hb hby own_d_prog_52_method_8_code_19) rfl rfl k) ?_
  obtain ⟨T64, X65, e66, st67⟩ := getF X48 hx hZ hown (host := "") (Or.inl (hw _ (List.mem_of_getElem? (i := 9) rfl))) Via.refl rfl F55 (g := mkF m 20 #[.val (.ref a), .val (.int (32 : Int32))] [(.ref a), (.int (32 : Int32)), (.ref a)]) rfl rfl (hb hby own_d_prog_52_method_8_code_20)
  refine OGoal.mp (S' := (T64.setTop (mkF m 23 #[.val (.ref a), .val (.int (32 : Int32))] [(.int cv), (.int (32 : Int32)), (.ref a)]))) (fun _ k => st67 _ k) ?_
  refine OGoal.mp (S' := (T64.setTop (mkF m 24 #[.val (.ref a), .val (.int (32 : Int32))] [(.int ((32 : Int32) * cv)), (.ref a)]))) (fun _ k => XS.imul X65.here hx rfl (hb hby own_d_prog_52_method_8_code_23) rfl k) ?_
  obtain ⟨u68, hu68⟩ : ∃ z : Int32, z = ((32 : Int32) * cv) := ⟨_, rfl⟩
  rw [← hu68]
  rw [← hu68] at hs0 hs1
  have l69 : (0 : Int32).toInt = 0 := by decide
  obtain ⟨T70, h74, c77, X71, e72, E75, A76, XA80, st73⟩ := newPE X65 hx hZ (hw _ (List.mem_of_getElem? (i := 23) rfl)) e66 (g := mkF m 24 #[.val (.ref a), .val (.int (32 : Int32))] [(.int u68), (.ref a)]) rfl (hb hby own_d_prog_52_method_8_code_24) rfl (mNlt (by omega)) (cap := 8160) (by show (u68).toInt.toNat ≤ _; omega) (by decide) (by decide) (by decide) (ad := "[J") (by rfl)
  obtain ⟨a78, g79⟩ : ∃ z, z = T46.heap.size := ⟨_, rfl⟩
  rw [← g79] at A76 XA80 st73
  have lt81 : a < a78 := by rw [g79]; exact F54.lt
  have lt82 : a9 < a78 := by rw [g79]; exact A52.lt
  have fr83 : h0.size ≤ a78 := by rw [g79]; exact K63.1
  have K84 : Keep h0 h74 [a] := K63.ext E75
  have F85 := F54.ext E75
  have F86 := F55.ext E75
  have F87 := F56.ext E75
  have F88 := F57.ext E75
  have F89 := F58.ext E75
  have F90 := F59.ext E75
  have F91 := A52.ext E75
  have F92 := F61.ext E75
  have F93 : OArr Z h74 a78 .long u68 (fun _ => .long 0 : Nat → Value) := OArr.new A76 (mNlt (by omega))
  have Z94 : n0 ≤ h74.size := Nat.le_trans Z62 E75.1
  have ab95 : n0 ≤ a78 := Nat.le_trans Z62 (Nat.le_of_eq g79.symm)
  refine OGoal.mp (S' := (T70.setTop (mkF m 26 #[.val (.ref a), .val (.int (32 : Int32))] [(.ref a78), (.ref a)]))) (fun _ k => st73 _ k) ?_
  obtain ⟨T96, h100, X97, e98, W101, st99⟩ := putF X71 hx hZ hown (host := "") (Or.inl (hw _ (List.mem_of_getElem? (i := 24) rfl))) Via.refl e72 F88 F85 (Or.inl (hw _ (List.mem_of_getElem? (i := 25) rfl))) (hw _ (List.mem_of_getElem? (i := 1) rfl)) (ty := (.array .long)) (by decide) rfl rfl (g := mkF m 26 #[.val (.ref a), .val (.int (32 : Int32))] [(.ref a78), (.ref a)]) rfl rfl (hb hby own_d_prog_52_method_8_code_26)
  have N102 := Fr.snoc X97 N53 ab
  have Z103 : n0 ≤ h100.size := Nat.le_trans Z94 (Keep.of_wr W101).1
  have K104 : Keep h0 h100 [a] := K84.wr W101 (Or.inl (by simp))
  have F105 := F85.wr W101
  have F106 := F86.other W101 (Or.inr (slot_ne (a0 := a0) (C := "com/example/andesite/andesite/data/ValueCounts") (t := .int) (t' := (.array .long)) (Or.inr (hw _ (List.mem_of_getElem? (i := 10) rfl))) (Or.inl (hw _ (List.mem_of_getElem? (i := 25) rfl))) (by decide) (by decide) (by decide)))
  have F107 := F87.other W101 (Or.inr (slot_ne (a0 := a0) (C := "com/example/andesite/andesite/data/ValueCounts") (t := (.array .double)) (t' := (.array .long)) (Or.inl (hw _ (List.mem_of_getElem? (i := 17) rfl))) (Or.inl (hw _ (List.mem_of_getElem? (i := 25) rfl))) (by decide) (by decide) (by decide)))
  have F108 := F88.same W101
  have F109 := F89.other W101 (Or.inr (slot_ne (a0 := a0) (C := "com/example/andesite/andesite/data/ValueCounts") (t := .int) (t' := (.array .long)) (Or.inl (hw _ (List.mem_of_getElem? (i := 32) rfl))) (Or.inl (hw _ (List.mem_of_getElem? (i := 25) rfl))) (by decide) (by decide) (by decide)))
  have F110 := F90.other W101 (Or.inr (slot_ne (a0 := a0) (C := "com/example/andesite/andesite/data/ValueCounts") (t := .int) (t' := (.array .long)) (Or.inl (hw _ (List.mem_of_getElem? (i := 47) rfl))) (Or.inl (hw _ (List.mem_of_getElem? (i := 25) rfl))) (by decide) (by decide) (by decide)))
  have F111 := F91.other W101 (Nat.ne_of_gt lt12)
  have F112 := F92.wr W101
  have F113 := F93.other W101 (Nat.ne_of_gt lt81)
  have F114 := XA80.wr W101
  refine OGoal.mp (S' := (T96.setTop (mkF m 29 #[.val (.ref a), .val (.int (32 : Int32))] []))) (fun _ k => st99 _ k) ?_
  refine OGoal.mp (S' := (T96.setTop (mkF m 30 #[.val (.ref a), .val (.int (32 : Int32))] [(.ref a)]))) (fun _ k => XS.aloadN X97.here hx rfl (hb hby own_d_prog_52_method_8_code_29) rfl rfl k) ?_
  refine OGoal.mp (S' := (T96.setTop (mkF m 32 #[.val (.ref a), .val (.int (32 : Int32))] [(.int (64 : Int32)), (.ref a)]))) (fun _ k => XS.bipush X97.here hx rfl (hb hby own_d_prog_52_method_8_code_30) k) ?_
  refine OGoal.mp (S' := (T96.setTop (mkF m 33 #[.val (.ref a), .val (.int (32 : Int32))] [(.int (32 : Int32)), (.int (64 : Int32)), (.ref a)]))) (fun _ k => XS.iloadN X97.here hx rfl (hb hby own_d_prog_52_method_8_code_32) rfl k) ?_
  refine oCallS (y := (⟨"java/lang/Integer", "numberOfTrailingZeros", "(I)I"⟩ : MethodName)) X97 hx hZ hown (hw _ (List.mem_of_getElem? (i := 26) rfl)) (hw _ (List.mem_of_getElem? (i := 27) rfl)) (hw _ (List.mem_of_getElem? (i := 28) rfl)) (hw _ (List.mem_of_getElem? (i := 29) rfl)) (by decide) (rmZ l Z a0 hw (32 : Int32) h100 n0 Z103) e98 [(.int (32 : Int32))] [(.int (64 : Int32)), (.ref a)] rfl rfl (by rw [hml]; rfl) (lenOf own_pd__I_I rfl) 2 (Nat.le_of_eq rfl) (by decide) (by decide) (by decide) (by decide) (hb hby own_d_prog_52_method_8_code_33) ?_
  intro v116 T117 L118 X119 q120
  obtain ⟨z115, rfl, N121, e122⟩ := q120
  have N123 := Fr.app N102 N121
  show OGoal p e below s _ _ _ (T117.setTop (mkF m 36 #[.val (.ref a), .val (.int (32 : Int32))] [(.int z115), (.int (64 : Int32)), (.ref a)]))
  refine OGoal.mp (S' := (T117.setTop (mkF m 37 #[.val (.ref a), .val (.int (32 : Int32))] [(.int ((64 : Int32) - z115)), (.ref a)]))) (fun _ k => XS.isub X119.here hx rfl (hb hby own_d_prog_52_method_8_code_36) rfl k) ?_
  obtain ⟨T124, h128, X125, e126, W129, st127⟩ := putF X119 hx hZ hown (host := "") (Or.inl (hw _ (List.mem_of_getElem? (i := 31) rfl))) Via.refl e122 F109 F105 (Or.inl (hw _ (List.mem_of_getElem? (i := 32) rfl))) (hw _ (List.mem_of_getElem? (i := 1) rfl)) (ty := .int) (by decide) rfl rfl (g := mkF m 37 #[.val (.ref a), .val (.int (32 : Int32))] [(.int ((64 : Int32) - z115)), (.ref a)]) rfl rfl (hb hby own_d_prog_52_method_8_code_37)
  have N130 := Fr.snoc X125 N123 ab
  have Z131 : n0 ≤ h128.size := Nat.le_trans Z103 (Keep.of_wr W129).1
  have K132 : Keep h0 h128 [a] := K104.wr W129 (Or.inl (by simp))
  have F133 := F105.wr W129
  have F134 := F106.other W129 (Or.inr (slot_ne (a0 := a0) (C := "com/example/andesite/andesite/data/ValueCounts") (t := .int) (t' := .int) (Or.inr (hw _ (List.mem_of_getElem? (i := 10) rfl))) (Or.inl (hw _ (List.mem_of_getElem? (i := 32) rfl))) (by decide) (by decide) (by decide)))
  have F135 := F107.other W129 (Or.inr (slot_ne (a0 := a0) (C := "com/example/andesite/andesite/data/ValueCounts") (t := (.array .double)) (t' := .int) (Or.inl (hw _ (List.mem_of_getElem? (i := 17) rfl))) (Or.inl (hw _ (List.mem_of_getElem? (i := 32) rfl))) (by decide) (by decide) (by decide)))
  have F136 := F108.other W129 (Or.inr (slot_ne (a0 := a0) (C := "com/example/andesite/andesite/data/ValueCounts") (t := (.array .long)) (t' := .int) (Or.inl (hw _ (List.mem_of_getElem? (i := 25) rfl))) (Or.inl (hw _ (List.mem_of_getElem? (i := 32) rfl))) (by decide) (by decide) (by decide)))
  have F137 := F109.same W129
  have F138 := F110.other W129 (Or.inr (slot_ne (a0 := a0) (C := "com/example/andesite/andesite/data/ValueCounts") (t := .int) (t' := .int) (Or.inl (hw _ (List.mem_of_getElem? (i := 47) rfl))) (Or.inl (hw _ (List.mem_of_getElem? (i := 32) rfl))) (by decide) (by decide) (by decide)))
  have F139 := F111.other W129 (Nat.ne_of_gt lt12)
  have F140 := F112.wr W129
  have F141 := F113.other W129 (Nat.ne_of_gt lt81)
  have F142 := F114.wr W129
  refine OGoal.mp (S' := (T124.setTop (mkF m 40 #[.val (.ref a), .val (.int (32 : Int32))] []))) (fun _ k => st127 _ k) ?_
  refine oRetV X125 hx hlk hret (hb hby own_d_prog_52_method_8_code_40) ?_ (by decide) (by decide)
  rw [e126]
  exact ⟨_, _, _, rfl, N130, F133, F134, F135, F136, F137, F138, F139, K132⟩
theorem own_ef_rmA64 (x0 : Addr) (x1 : Int32) (m : MethodId) : entryFrame m #[(.ref x0), (.int x1)] 2 = mkF m 0 #[.val (.ref x0), .val (.int x1)] [] := by first | (simp [entryFrame, mkF, argsToLocals, Value.category]; done) | rfl
set_option maxRecDepth 65536 in
set_option maxHeartbeats 40000000 in
theorem rmA64 (l : Launch) (Z : State) (a0 : Array Value) (hw : ∀ d ∈ tables_1, d.before a0 Z = true) (a : Addr) (h0 : Heap) (n0 : Nat) (Z0 : n0 ≤ h0.size) (cv us sh : Int32) (u1 u2 : Value) (E : Exa Z h0 a "com/example/andesite/andesite/data/ValueCounts") (Fc : Fld Z h0 a "com/example/andesite/andesite/data/ValueCounts" "classValues" "I" (.int cv)) (Fv : Fld Z h0 a "com/example/andesite/andesite/data/ValueCounts" "slotValues" "[D" u1) (Fn : Fld Z h0 a "com/example/andesite/andesite/data/ValueCounts" "slotCounts" "[J" u2) (Fs : Fld Z h0 a "com/example/andesite/andesite/data/ValueCounts" "shift" "I" (.int sh)) (Fu : Fld Z h0 a "com/example/andesite/andesite/data/ValueCounts" "used" "I" (.int us)) (ab : n0 ≤ a) (hs0 : 0 ≤ ((64 : Int32) * cv).toInt) (hs1 : ((64 : Int32) * cv).toInt ≤ 16320) :
    OCon l Z (⟨"com/example/andesite/andesite/data/ValueCounts", "allocate", "(I)V"⟩ : MethodName) prog_52_method_8_code 2 none ({ frames := 1, cells := 2, slots := 16384, locals := 16 } : Room) #[(.ref a), (.int (64 : Int32))] h0 (Q_vc Z a cv (64 : Int32) us h0 n0) := by
  refine OConK.intro (y := (⟨"com/example/andesite/andesite/data/ValueCounts", "allocate", "(I)V"⟩ : MethodName)) (plainFor_of_name own_pn_com_example_andesite_andesite_data_ValueCounts) (own_ef_rmA64 a (64 : Int32)) ?_
  intro p e s m below meth c s₁ hx hby hml hown hnm hret hlk hZ X0 e0
  show OGoal p e below s _ _ _ (s₁.setTop (mkF m 0 #[.val (.ref a), .val (.int (64 : Int32))] []))
  refine OGoal.mp (S' := (s₁.setTop (mkF m 1 #[.val (.ref a), .val (.int (64 : Int32))] [(.ref a)]))) (fun _ k => XS.aloadN X0.here hx rfl (hb hby own_d_prog_52_method_8_code_0) rfl rfl k) ?_
  refine OGoal.mp (S' := (s₁.setTop (mkF m 2 #[.val (.ref a), .val (.int (64 : Int32))] [(.int (64 : Int32)), (.ref a)]))) (fun _ k => XS.iloadN X0.here hx rfl (hb hby own_d_prog_52_method_8_code_1) rfl k) ?_
  obtain ⟨T1, h5, c8, X2, e3, E6, A7, XA11, st4⟩ := newPE X0 hx hZ (hw _ (List.mem_of_getElem? (i := 15) rfl)) e0 (g := mkF m 2 #[.val (.ref a), .val (.int (64 : Int32))] [(.int (64 : Int32)), (.ref a)]) rfl (hb hby own_d_prog_52_method_8_code_2) rfl (by decide) (cap := 64) (by decide) (by decide) (by decide) (by decide) (ad := "[D") (by rfl)
  obtain ⟨a9, g10⟩ : ∃ z, z = h0.size := ⟨_, rfl⟩
  rw [← g10] at A7 XA11 st4
  have lt12 : a < a9 := by rw [g10]; exact E.lt
  have fr13 : h0.size ≤ a9 := by rw [g10]; exact (Keep.refl h0 [a]).1
  have K14 : Keep h0 h5 [a] := (Keep.refl h0 [a]).ext E6
  have F15 := E.ext E6
  have F16 := Fc.ext E6
  have F17 := Fv.ext E6
  have F18 := Fn.ext E6
  have F19 := Fs.ext E6
  have F20 := Fu.ext E6
  have F21 : OArr Z h5 a9 .double (64 : Int32) (fun _ => .double 0 : Nat → Value) := OArr.new A7 (by decide)
  have Z22 : n0 ≤ h5.size := Nat.le_trans Z0 E6.1
  have ab23 : n0 ≤ a9 := Nat.le_trans Z0 (Nat.le_of_eq g10.symm)
  refine OGoal.mp (S' := (T1.setTop (mkF m 4 #[.val (.ref a), .val (.int (64 : Int32))] [(.ref a9), (.ref a)]))) (fun _ k => st4 _ k) ?_
  obtain ⟨T24, h28, X25, e26, W29, st27⟩ := putF X2 hx hZ hown (host := "") (Or.inl (hw _ (List.mem_of_getElem? (i := 16) rfl))) Via.refl e3 F17 F15 (Or.inl (hw _ (List.mem_of_getElem? (i := 17) rfl))) (hw _ (List.mem_of_getElem? (i := 1) rfl)) (ty := (.array .double)) (by decide) rfl rfl (g := mkF m 4 #[.val (.ref a), .val (.int (64 : Int32))] [(.ref a9), (.ref a)]) rfl rfl (hb hby own_d_prog_52_method_8_code_4)
  have N30 := Fr.snoc X25 (Fr.nil n0) ab
  have Z31 : n0 ≤ h28.size := Nat.le_trans Z22 (Keep.of_wr W29).1
  have K32 : Keep h0 h28 [a] := K14.wr W29 (Or.inl (by simp))
  have F33 := F15.wr W29
  have F34 := F16.other W29 (Or.inr (slot_ne (a0 := a0) (C := "com/example/andesite/andesite/data/ValueCounts") (t := .int) (t' := (.array .double)) (Or.inr (hw _ (List.mem_of_getElem? (i := 10) rfl))) (Or.inl (hw _ (List.mem_of_getElem? (i := 17) rfl))) (by decide) (by decide) (by decide)))
  have F35 := F17.same W29
  have F36 := F18.other W29 (Or.inr (slot_ne (a0 := a0) (C := "com/example/andesite/andesite/data/ValueCounts") (t := (.array .long)) (t' := (.array .double)) (Or.inl (hw _ (List.mem_of_getElem? (i := 25) rfl))) (Or.inl (hw _ (List.mem_of_getElem? (i := 17) rfl))) (by decide) (by decide) (by decide)))
  have F37 := F19.other W29 (Or.inr (slot_ne (a0 := a0) (C := "com/example/andesite/andesite/data/ValueCounts") (t := .int) (t' := (.array .double)) (Or.inl (hw _ (List.mem_of_getElem? (i := 32) rfl))) (Or.inl (hw _ (List.mem_of_getElem? (i := 17) rfl))) (by decide) (by decide) (by decide)))
  have F38 := F20.other W29 (Or.inr (slot_ne (a0 := a0) (C := "com/example/andesite/andesite/data/ValueCounts") (t := .int) (t' := (.array .double)) (Or.inl (hw _ (List.mem_of_getElem? (i := 47) rfl))) (Or.inl (hw _ (List.mem_of_getElem? (i := 17) rfl))) (by decide) (by decide) (by decide)))
  have F39 := F21.other W29 (Nat.ne_of_gt lt12)
  have F40 := XA11.wr W29
  refine OGoal.mp (S' := (T24.setTop (mkF m 7 #[.val (.ref a), .val (.int (64 : Int32))] []))) (fun _ k => st27 _ k) ?_
  refine OGoal.mp (S' := (T24.setTop (mkF m 8 #[.val (.ref a), .val (.int (64 : Int32))] [(.ref a)]))) (fun _ k => XS.aloadN X25.here hx rfl (hb hby own_d_prog_52_method_8_code_7) rfl rfl k) ?_
  obtain ⟨T41, X42, e43, st44⟩ := getF X25 hx hZ hown (host := "") (Or.inl (hw _ (List.mem_of_getElem? (i := 16) rfl))) Via.refl e26 F35 (g := mkF m 8 #[.val (.ref a), .val (.int (64 : Int32))] [(.ref a)]) rfl rfl (hb hby own_d_prog_52_method_8_code_8)
  refine OGoal.mp (S' := (T41.setTop (mkF m 11 #[.val (.ref a), .val (.int (64 : Int32))] [(.ref a9)]))) (fun _ k => st44 _ k) ?_
  refine OGoal.mp (S' := (T41.setTop (mkF m 14 #[.val (.ref a), .val (.int (64 : Int32))] [(.double (9221120237041090560 : UInt64)), (.ref a9)]))) (fun _ k => X42.ldc2DoubleC hx hown (mvT hZ (hw _ (List.mem_of_getElem? (i := 18) rfl))) (g := mkF m 11 #[.val (.ref a), .val (.int (64 : Int32))] [(.ref a9)]) rfl (hb hby own_d_prog_52_method_8_code_11) _ k) ?_
  refine oCallS (y := (⟨"java/util/Arrays", "fill", "([DD)V"⟩ : MethodName)) X42 hx hZ hown (hw _ (List.mem_of_getElem? (i := 19) rfl)) (hw _ (List.mem_of_getElem? (i := 20) rfl)) (hw _ (List.mem_of_getElem? (i := 21) rfl)) (hw _ (List.mem_of_getElem? (i := 22) rfl)) (by decide) (rmF l Z a0 hw a9 (9221120237041090560 : UInt64) h28 n0 Z31 (64 : Int32) _ F39 (by decide) ab23) e43 [(.ref a9), (.double (9221120237041090560 : UInt64))] [] rfl rfl (by rw [hml]; rfl) (lenOf own_pd___DD_V rfl) 0 (Nat.le_of_eq rfl) (by decide) (by decide) (by decide) (by decide) (hb hby own_d_prog_52_method_8_code_14) ?_
  intro v45 T46 L47 X48 q49
  obtain ⟨rfl, N50, K51, A52⟩ := q49
  have N53 := Fr.app N30 N50
  have F54 := F33.keep K51
  have F55 := F34.keep K51 (ninS (Nat.ne_of_lt lt12) nin0)
  have F56 := F35.keep K51 (ninS (Nat.ne_of_lt lt12) nin0)
  have F57 := F36.keep K51 (ninS (Nat.ne_of_lt lt12) nin0)
  have F58 := F37.keep K51 (ninS (Nat.ne_of_lt lt12) nin0)
  have F59 := F38.keep K51 (ninS (Nat.ne_of_lt lt12) nin0)
  have F61 := F40.keep K51
  have Z62 : n0 ≤ T46.heap.size := Nat.le_trans Z31 K51.1
  have K63 : Keep h0 T46.heap [a] := K32.trans K51 (allS (Or.inr fr13) all0)
  show OGoal p e below s _ _ _ (T46.setTop (mkF m 17 #[.val (.ref a), .val (.int (64 : Int32))] []))
  refine OGoal.mp (S' := (T46.setTop (mkF m 18 #[.val (.ref a), .val (.int (64 : Int32))] [(.ref a)]))) (fun _ k => XS.aloadN X48.here hx rfl (hb hby own_d_prog_52_method_8_code_17) rfl rfl k) ?_
  refine OGoal.mp (S' := (T46.setTop (mkF m 19 #[.val (.ref a), .val (.int (64 : Int32))] [(.int (64 : Int32)), (.ref a)]))) (fun _ k => XS.iloadN X48.here hx rfl (hb hby own_d_prog_52_method_8_code_18) rfl k) ?_
  refine OGoal.mp (S' := (T46.setTop (mkF m 20 #[.val (.ref a), .val (.int (64 : Int32))] [(.ref a), (.int (64 : Int32)), (.ref a)]))) (fun _ k => XS.aloadN X48.here hx rfl (hb hby own_d_prog_52_method_8_code_19) rfl rfl k) ?_
  obtain ⟨T64, X65, e66, st67⟩ := getF X48 hx hZ hown (host := "") (Or.inl (hw _ (List.mem_of_getElem? (i := 9) rfl))) Via.refl rfl F55 (g := mkF m 20 #[.val (.ref a), .val (.int (64 : Int32))] [(.ref a), (.int (64 : Int32)), (.ref a)]) rfl rfl (hb hby own_d_prog_52_method_8_code_20)
  refine OGoal.mp (S' := (T64.setTop (mkF m 23 #[.val (.ref a), .val (.int (64 : Int32))] [(.int cv), (.int (64 : Int32)), (.ref a)]))) (fun _ k => st67 _ k) ?_
  refine OGoal.mp (S' := (T64.setTop (mkF m 24 #[.val (.ref a), .val (.int (64 : Int32))] [(.int ((64 : Int32) * cv)), (.ref a)]))) (fun _ k => XS.imul X65.here hx rfl (hb hby own_d_prog_52_method_8_code_23) rfl k) ?_
  obtain ⟨u68, hu68⟩ : ∃ z : Int32, z = ((64 : Int32) * cv) := ⟨_, rfl⟩
  rw [← hu68]
  rw [← hu68] at hs0 hs1
  have l69 : (0 : Int32).toInt = 0 := by decide
  obtain ⟨T70, h74, c77, X71, e72, E75, A76, XA80, st73⟩ := newPE X65 hx hZ (hw _ (List.mem_of_getElem? (i := 23) rfl)) e66 (g := mkF m 24 #[.val (.ref a), .val (.int (64 : Int32))] [(.int u68), (.ref a)]) rfl (hb hby own_d_prog_52_method_8_code_24) rfl (mNlt (by omega)) (cap := 16320) (by show (u68).toInt.toNat ≤ _; omega) (by decide) (by decide) (by decide) (ad := "[J") (by rfl)
  obtain ⟨a78, g79⟩ : ∃ z, z = T46.heap.size := ⟨_, rfl⟩
  rw [← g79] at A76 XA80 st73
  have lt81 : a < a78 := by rw [g79]; exact F54.lt
  have lt82 : a9 < a78 := by rw [g79]; exact A52.lt
  have fr83 : h0.size ≤ a78 := by rw [g79]; exact K63.1
  have K84 : Keep h0 h74 [a] := K63.ext E75
  have F85 := F54.ext E75
  have F86 := F55.ext E75
  have F87 := F56.ext E75
  have F88 := F57.ext E75
  have F89 := F58.ext E75
  have F90 := F59.ext E75
  have F91 := A52.ext E75
  have F92 := F61.ext E75
  have F93 : OArr Z h74 a78 .long u68 (fun _ => .long 0 : Nat → Value) := OArr.new A76 (mNlt (by omega))
  have Z94 : n0 ≤ h74.size := Nat.le_trans Z62 E75.1
  have ab95 : n0 ≤ a78 := Nat.le_trans Z62 (Nat.le_of_eq g79.symm)
  refine OGoal.mp (S' := (T70.setTop (mkF m 26 #[.val (.ref a), .val (.int (64 : Int32))] [(.ref a78), (.ref a)]))) (fun _ k => st73 _ k) ?_
  obtain ⟨T96, h100, X97, e98, W101, st99⟩ := putF X71 hx hZ hown (host := "") (Or.inl (hw _ (List.mem_of_getElem? (i := 24) rfl))) Via.refl e72 F88 F85 (Or.inl (hw _ (List.mem_of_getElem? (i := 25) rfl))) (hw _ (List.mem_of_getElem? (i := 1) rfl)) (ty := (.array .long)) (by decide) rfl rfl (g := mkF m 26 #[.val (.ref a), .val (.int (64 : Int32))] [(.ref a78), (.ref a)]) rfl rfl (hb hby own_d_prog_52_method_8_code_26)
  have N102 := Fr.snoc X97 N53 ab
  have Z103 : n0 ≤ h100.size := Nat.le_trans Z94 (Keep.of_wr W101).1
  have K104 : Keep h0 h100 [a] := K84.wr W101 (Or.inl (by simp))
  have F105 := F85.wr W101
  have F106 := F86.other W101 (Or.inr (slot_ne (a0 := a0) (C := "com/example/andesite/andesite/data/ValueCounts") (t := .int) (t' := (.array .long)) (Or.inr (hw _ (List.mem_of_getElem? (i := 10) rfl))) (Or.inl (hw _ (List.mem_of_getElem? (i := 25) rfl))) (by decide) (by decide) (by decide)))
  have F107 := F87.other W101 (Or.inr (slot_ne (a0 := a0) (C := "com/example/andesite/andesite/data/ValueCounts") (t := (.array .double)) (t' := (.array .long)) (Or.inl (hw _ (List.mem_of_getElem? (i := 17) rfl))) (Or.inl (hw _ (List.mem_of_getElem? (i := 25) rfl))) (by decide) (by decide) (by decide)))
  have F108 := F88.same W101
  have F109 := F89.other W101 (Or.inr (slot_ne (a0 := a0) (C := "com/example/andesite/andesite/data/ValueCounts") (t := .int) (t' := (.array .long)) (Or.inl (hw _ (List.mem_of_getElem? (i := 32) rfl))) (Or.inl (hw _ (List.mem_of_getElem? (i := 25) rfl))) (by decide) (by decide) (by decide)))
  have F110 := F90.other W101 (Or.inr (slot_ne (a0 := a0) (C := "com/example/andesite/andesite/data/ValueCounts") (t := .int) (t' := (.array .long)) (Or.inl (hw _ (List.mem_of_getElem? (i := 47) rfl))) (Or.inl (hw _ (List.mem_of_getElem? (i := 25) rfl))) (by decide) (by decide) (by decide)))
  have F111 := F91.other W101 (Nat.ne_of_gt lt12)
  have F112 := F92.wr W101
  have F113 := F93.other W101 (Nat.ne_of_gt lt81)
  have F114 := XA80.wr W101
  refine OGoal.mp (S' := (T96.setTop (mkF m 29 #[.val (.ref a), .val (.int (64 : Int32))] []))) (fun _ k => st99 _ k) ?_
  refine OGoal.mp (S' := (T96.setTop (mkF m 30 #[.val (.ref a), .val (.int (64 : Int32))] [(.ref a)]))) (fun _ k => XS.aloadN X97.here hx rfl (hb hby own_d_prog_52_method_8_code_29) rfl rfl k) ?_
  refine OGoal.mp (S' := (T96.setTop (mkF m 32 #[.val (.ref a), .val (.int (64 : Int32))] [(.int (64 : Int32)), (.ref a)]))) (fun _ k => XS.bipush X97.here hx rfl (hb hby own_d_prog_52_method_8_code_30) k) ?_
  refine OGoal.mp (S' := (T96.setTop (mkF m 33 #[.val (.ref a), .val (.int (64 : Int32))] [(.int (64 : Int32)), (.int (64 : Int32)), (.ref a)]))) (fun _ k => XS.iloadN X97.here hx rfl (hb hby own_d_prog_52_method_8_code_32) rfl k) ?_
  refine oCallS (y := (⟨"java/lang/Integer", "numberOfTrailingZeros", "(I)I"⟩ : MethodName)) X97 hx hZ hown (hw _ (List.mem_of_getElem? (i := 26) rfl)) (hw _ (List.mem_of_getElem? (i := 27) rfl)) (hw _ (List.mem_of_getElem? (i := 28) rfl)) (hw _ (List.mem_of_getElem? (i := 29) rfl)) (by decide) (rmZ l Z a0 hw (64 : Int32) h100 n0 Z103) e98 [(.int (64 : Int32))] [(.int (64 : Int32)), (.ref a)] rfl rfl (by rw [hml]; rfl) (lenOf own_pd__I_I rfl) 2 (Nat.le_of_eq rfl) (by decide) (by decide) (by decide) (by decide) (hb hby own_d_prog_52_method_8_code_33) ?_
  intro v116 T117 L118 X119 q120
  obtain ⟨z115, rfl, N121, e122⟩ := q120
  have N123 := Fr.app N102 N121
  show OGoal p e below s _ _ _ (T117.setTop (mkF m 36 #[.val (.ref a), .val (.int (64 : Int32))] [(.int z115), (.int (64 : Int32)), (.ref a)]))
  refine OGoal.mp (S' := (T117.setTop (mkF m 37 #[.val (.ref a), .val (.int (64 : Int32))] [(.int ((64 : Int32) - z115)), (.ref a)]))) (fun _ k => XS.isub X119.here hx rfl (hb hby own_d_prog_52_method_8_code_36) rfl k) ?_
  obtain ⟨T124, h128, X125, e126, W129, st127⟩ := putF X119 hx hZ hown (host := "") (Or.inl (hw _ (List.mem_of_getElem? (i := 31) rfl))) Via.refl e122 F109 F105 (Or.inl (hw _ (List.mem_of_getElem? (i := 32) rfl))) (hw _ (List.mem_of_getElem? (i := 1) rfl)) (ty := .int) (by decide) rfl rfl (g := mkF m 37 #[.val (.ref a), .val (.int (64 : Int32))] [(.int ((64 : Int32) - z115)), (.ref a)]) rfl rfl (hb hby own_d_prog_52_method_8_code_37)
  have N130 := Fr.snoc X125 N123 ab
  have Z131 : n0 ≤ h128.size := Nat.le_trans Z103 (Keep.of_wr W129).1
  have K132 : Keep h0 h128 [a] := K104.wr W129 (Or.inl (by simp))
  have F133 := F105.wr W129
  have F134 := F106.other W129 (Or.inr (slot_ne (a0 := a0) (C := "com/example/andesite/andesite/data/ValueCounts") (t := .int) (t' := .int) (Or.inr (hw _ (List.mem_of_getElem? (i := 10) rfl))) (Or.inl (hw _ (List.mem_of_getElem? (i := 32) rfl))) (by decide) (by decide) (by decide)))
  have F135 := F107.other W129 (Or.inr (slot_ne (a0 := a0) (C := "com/example/andesite/andesite/data/ValueCounts") (t := (.array .double)) (t' := .int) (Or.inl (hw _ (List.mem_of_getElem? (i := 17) rfl))) (Or.inl (hw _ (List.mem_of_getElem? (i := 32) rfl))) (by decide) (by decide) (by decide)))
  have F136 := F108.other W129 (Or.inr (slot_ne (a0 := a0) (C := "com/example/andesite/andesite/data/ValueCounts") (t := (.array .long)) (t' := .int) (Or.inl (hw _ (List.mem_of_getElem? (i := 25) rfl))) (Or.inl (hw _ (List.mem_of_getElem? (i := 32) rfl))) (by decide) (by decide) (by decide)))
  have F137 := F109.same W129
  have F138 := F110.other W129 (Or.inr (slot_ne (a0 := a0) (C := "com/example/andesite/andesite/data/ValueCounts") (t := .int) (t' := .int) (Or.inl (hw _ (List.mem_of_getElem? (i := 47) rfl))) (Or.inl (hw _ (List.mem_of_getElem? (i := 32) rfl))) (by decide) (by decide) (by decide)))
  have F139 := F111.other W129 (Nat.ne_of_gt lt12)
  have F140 := F112.wr W129
  have F141 := F113.other W129 (Nat.ne_of_gt lt81)
  have F142 := F114.wr W129
  refine OGoal.mp (S' := (T124.setTop (mkF m 40 #[.val (.ref a), .val (.int (64 : Int32))] []))) (fun _ k => st127 _ k) ?_
  refine oRetV X125 hx hlk hret (hb hby own_d_prog_52_method_8_code_40) ?_ (by decide) (by decide)
  rw [e126]
  exact ⟨_, _, _, rfl, N130, F133, F134, F135, F136, F137, F138, F139, K132⟩
theorem own_ef_rmA128 (x0 : Addr) (x1 : Int32) (m : MethodId) : entryFrame m #[(.ref x0), (.int x1)] 2 = mkF m 0 #[.val (.ref x0), .val (.int x1)] [] := by first | (simp [entryFrame, mkF, argsToLocals, Value.category]; done) | rfl
set_option maxRecDepth 65536 in
set_option maxHeartbeats 40000000 in
theorem rmA128 (l : Launch) (Z : State) (a0 : Array Value) (hw : ∀ d ∈ tables_1, d.before a0 Z = true) (a : Addr) (h0 : Heap) (n0 : Nat) (Z0 : n0 ≤ h0.size) (cv us sh : Int32) (u1 u2 : Value) (E : Exa Z h0 a "com/example/andesite/andesite/data/ValueCounts") (Fc : Fld Z h0 a "com/example/andesite/andesite/data/ValueCounts" "classValues" "I" (.int cv)) (Fv : Fld Z h0 a "com/example/andesite/andesite/data/ValueCounts" "slotValues" "[D" u1) (Fn : Fld Z h0 a "com/example/andesite/andesite/data/ValueCounts" "slotCounts" "[J" u2) (Fs : Fld Z h0 a "com/example/andesite/andesite/data/ValueCounts" "shift" "I" (.int sh)) (Fu : Fld Z h0 a "com/example/andesite/andesite/data/ValueCounts" "used" "I" (.int us)) (ab : n0 ≤ a) (hs0 : 0 ≤ ((128 : Int32) * cv).toInt) (hs1 : ((128 : Int32) * cv).toInt ≤ 32640) :
    OCon l Z (⟨"com/example/andesite/andesite/data/ValueCounts", "allocate", "(I)V"⟩ : MethodName) prog_52_method_8_code 2 none ({ frames := 1, cells := 2, slots := 32768, locals := 16 } : Room) #[(.ref a), (.int (128 : Int32))] h0 (Q_vc Z a cv (128 : Int32) us h0 n0) := by
  refine OConK.intro (y := (⟨"com/example/andesite/andesite/data/ValueCounts", "allocate", "(I)V"⟩ : MethodName)) (plainFor_of_name own_pn_com_example_andesite_andesite_data_ValueCounts) (own_ef_rmA128 a (128 : Int32)) ?_
  intro p e s m below meth c s₁ hx hby hml hown hnm hret hlk hZ X0 e0
  show OGoal p e below s _ _ _ (s₁.setTop (mkF m 0 #[.val (.ref a), .val (.int (128 : Int32))] []))
  refine OGoal.mp (S' := (s₁.setTop (mkF m 1 #[.val (.ref a), .val (.int (128 : Int32))] [(.ref a)]))) (fun _ k => XS.aloadN X0.here hx rfl (hb hby own_d_prog_52_method_8_code_0) rfl rfl k) ?_
  refine OGoal.mp (S' := (s₁.setTop (mkF m 2 #[.val (.ref a), .val (.int (128 : Int32))] [(.int (128 : Int32)), (.ref a)]))) (fun _ k => XS.iloadN X0.here hx rfl (hb hby own_d_prog_52_method_8_code_1) rfl k) ?_
  obtain ⟨T1, h5, c8, X2, e3, E6, A7, XA11, st4⟩ := newPE X0 hx hZ (hw _ (List.mem_of_getElem? (i := 15) rfl)) e0 (g := mkF m 2 #[.val (.ref a), .val (.int (128 : Int32))] [(.int (128 : Int32)), (.ref a)]) rfl (hb hby own_d_prog_52_method_8_code_2) rfl (by decide) (cap := 128) (by decide) (by decide) (by decide) (by decide) (ad := "[D") (by rfl)
  obtain ⟨a9, g10⟩ : ∃ z, z = h0.size := ⟨_, rfl⟩
  rw [← g10] at A7 XA11 st4
  have lt12 : a < a9 := by rw [g10]; exact E.lt
  have fr13 : h0.size ≤ a9 := by rw [g10]; exact (Keep.refl h0 [a]).1
  have K14 : Keep h0 h5 [a] := (Keep.refl h0 [a]).ext E6
  have F15 := E.ext E6
  have F16 := Fc.ext E6
  have F17 := Fv.ext E6
  have F18 := Fn.ext E6
  have F19 := Fs.ext E6
  have F20 := Fu.ext E6
  have F21 : OArr Z h5 a9 .double (128 : Int32) (fun _ => .double 0 : Nat → Value) := OArr.new A7 (by decide)
  have Z22 : n0 ≤ h5.size := Nat.le_trans Z0 E6.1
  have ab23 : n0 ≤ a9 := Nat.le_trans Z0 (Nat.le_of_eq g10.symm)
  refine OGoal.mp (S' := (T1.setTop (mkF m 4 #[.val (.ref a), .val (.int (128 : Int32))] [(.ref a9), (.ref a)]))) (fun _ k => st4 _ k) ?_
  obtain ⟨T24, h28, X25, e26, W29, st27⟩ := putF X2 hx hZ hown (host := "") (Or.inl (hw _ (List.mem_of_getElem? (i := 16) rfl))) Via.refl e3 F17 F15 (Or.inl (hw _ (List.mem_of_getElem? (i := 17) rfl))) (hw _ (List.mem_of_getElem? (i := 1) rfl)) (ty := (.array .double)) (by decide) rfl rfl (g := mkF m 4 #[.val (.ref a), .val (.int (128 : Int32))] [(.ref a9), (.ref a)]) rfl rfl (hb hby own_d_prog_52_method_8_code_4)
  have N30 := Fr.snoc X25 (Fr.nil n0) ab
  have Z31 : n0 ≤ h28.size := Nat.le_trans Z22 (Keep.of_wr W29).1
  have K32 : Keep h0 h28 [a] := K14.wr W29 (Or.inl (by simp))
  have F33 := F15.wr W29
  have F34 := F16.other W29 (Or.inr (slot_ne (a0 := a0) (C := "com/example/andesite/andesite/data/ValueCounts") (t := .int) (t' := (.array .double)) (Or.inr (hw _ (List.mem_of_getElem? (i := 10) rfl))) (Or.inl (hw _ (List.mem_of_getElem? (i := 17) rfl))) (by decide) (by decide) (by decide)))
  have F35 := F17.same W29
  have F36 := F18.other W29 (Or.inr (slot_ne (a0 := a0) (C := "com/example/andesite/andesite/data/ValueCounts") (t := (.array .long)) (t' := (.array .double)) (Or.inl (hw _ (List.mem_of_getElem? (i := 25) rfl))) (Or.inl (hw _ (List.mem_of_getElem? (i := 17) rfl))) (by decide) (by decide) (by decide)))
  have F37 := F19.other W29 (Or.inr (slot_ne (a0 := a0) (C := "com/example/andesite/andesite/data/ValueCounts") (t := .int) (t' := (.array .double)) (Or.inl (hw _ (List.mem_of_getElem? (i := 32) rfl))) (Or.inl (hw _ (List.mem_of_getElem? (i := 17) rfl))) (by decide) (by decide) (by decide)))
  have F38 := F20.other W29 (Or.inr (slot_ne (a0 := a0) (C := "com/example/andesite/andesite/data/ValueCounts") (t := .int) (t' := (.array .double)) (Or.inl (hw _ (List.mem_of_getElem? (i := 47) rfl))) (Or.inl (hw _ (List.mem_of_getElem? (i := 17) rfl))) (by decide) (by decide) (by decide)))
  have F39 := F21.other W29 (Nat.ne_of_gt lt12)
  have F40 := XA11.wr W29
  refine OGoal.mp (S' := (T24.setTop (mkF m 7 #[.val (.ref a), .val (.int (128 : Int32))] []))) (fun _ k => st27 _ k) ?_
  refine OGoal.mp (S' := (T24.setTop (mkF m 8 #[.val (.ref a), .val (.int (128 : Int32))] [(.ref a)]))) (fun _ k => XS.aloadN X25.here hx rfl (hb hby own_d_prog_52_method_8_code_7) rfl rfl k) ?_
  obtain ⟨T41, X42, e43, st44⟩ := getF X25 hx hZ hown (host := "") (Or.inl (hw _ (List.mem_of_getElem? (i := 16) rfl))) Via.refl e26 F35 (g := mkF m 8 #[.val (.ref a), .val (.int (128 : Int32))] [(.ref a)]) rfl rfl (hb hby own_d_prog_52_method_8_code_8)
  refine OGoal.mp (S' := (T41.setTop (mkF m 11 #[.val (.ref a), .val (.int (128 : Int32))] [(.ref a9)]))) (fun _ k => st44 _ k) ?_
  refine OGoal.mp (S' := (T41.setTop (mkF m 14 #[.val (.ref a), .val (.int (128 : Int32))] [(.double (9221120237041090560 : UInt64)), (.ref a9)]))) (fun _ k => X42.ldc2DoubleC hx hown (mvT hZ (hw _ (List.mem_of_getElem? (i := 18) rfl))) (g := mkF m 11 #[.val (.ref a), .val (.int (128 : Int32))] [(.ref a9)]) rfl (hb hby own_d_prog_52_method_8_code_11) _ k) ?_
  refine oCallS (y := (⟨"java/util/Arrays", "fill", "([DD)V"⟩ : MethodName)) X42 hx hZ hown (hw _ (List.mem_of_getElem? (i := 19) rfl)) (hw _ (List.mem_of_getElem? (i := 20) rfl)) (hw _ (List.mem_of_getElem? (i := 21) rfl)) (hw _ (List.mem_of_getElem? (i := 22) rfl)) (by decide) (rmF l Z a0 hw a9 (9221120237041090560 : UInt64) h28 n0 Z31 (128 : Int32) _ F39 (by decide) ab23) e43 [(.ref a9), (.double (9221120237041090560 : UInt64))] [] rfl rfl (by rw [hml]; rfl) (lenOf own_pd___DD_V rfl) 0 (Nat.le_of_eq rfl) (by decide) (by decide) (by decide) (by decide) (hb hby own_d_prog_52_method_8_code_14) ?_
  intro v45 T46 L47 X48 q49
  obtain ⟨rfl, N50, K51, A52⟩ := q49
  have N53 := Fr.app N30 N50
  have F54 := F33.keep K51
  have F55 := F34.keep K51 (ninS (Nat.ne_of_lt lt12) nin0)
  have F56 := F35.keep K51 (ninS (Nat.ne_of_lt lt12) nin0)
  have F57 := F36.keep K51 (ninS (Nat.ne_of_lt lt12) nin0)
  have F58 := F37.keep K51 (ninS (Nat.ne_of_lt lt12) nin0)
  have F59 := F38.keep K51 (ninS (Nat.ne_of_lt lt12) nin0)
  have F61 := F40.keep K51
  have Z62 : n0 ≤ T46.heap.size := Nat.le_trans Z31 K51.1
  have K63 : Keep h0 T46.heap [a] := K32.trans K51 (allS (Or.inr fr13) all0)
  show OGoal p e below s _ _ _ (T46.setTop (mkF m 17 #[.val (.ref a), .val (.int (128 : Int32))] []))
  refine OGoal.mp (S' := (T46.setTop (mkF m 18 #[.val (.ref a), .val (.int (128 : Int32))] [(.ref a)]))) (fun _ k => XS.aloadN X48.here hx rfl (hb hby own_d_prog_52_method_8_code_17) rfl rfl k) ?_
  refine OGoal.mp (S' := (T46.setTop (mkF m 19 #[.val (.ref a), .val (.int (128 : Int32))] [(.int (128 : Int32)), (.ref a)]))) (fun _ k => XS.iloadN X48.here hx rfl (hb hby own_d_prog_52_method_8_code_18) rfl k) ?_
  refine OGoal.mp (S' := (T46.setTop (mkF m 20 #[.val (.ref a), .val (.int (128 : Int32))] [(.ref a), (.int (128 : Int32)), (.ref a)]))) (fun _ k => XS.aloadN X48.here hx rfl (hb hby own_d_prog_52_method_8_code_19) rfl rfl k) ?_
  obtain ⟨T64, X65, e66, st67⟩ := getF X48 hx hZ hown (host := "") (Or.inl (hw _ (List.mem_of_getElem? (i := 9) rfl))) Via.refl rfl F55 (g := mkF m 20 #[.val (.ref a), .val (.int (128 : Int32))] [(.ref a), (.int (128 : Int32)), (.ref a)]) rfl rfl (hb hby own_d_prog_52_method_8_code_20)
  refine OGoal.mp (S' := (T64.setTop (mkF m 23 #[.val (.ref a), .val (.int (128 : Int32))] [(.int cv), (.int (128 : Int32)), (.ref a)]))) (fun _ k => st67 _ k) ?_
  refine OGoal.mp (S' := (T64.setTop (mkF m 24 #[.val (.ref a), .val (.int (128 : Int32))] [(.int ((128 : Int32) * cv)), (.ref a)]))) (fun _ k => XS.imul X65.here hx rfl (hb hby own_d_prog_52_method_8_code_23) rfl k) ?_
  obtain ⟨u68, hu68⟩ : ∃ z : Int32, z = ((128 : Int32) * cv) := ⟨_, rfl⟩
  rw [← hu68]
  rw [← hu68] at hs0 hs1
  have l69 : (0 : Int32).toInt = 0 := by decide
  obtain ⟨T70, h74, c77, X71, e72, E75, A76, XA80, st73⟩ := newPE X65 hx hZ (hw _ (List.mem_of_getElem? (i := 23) rfl)) e66 (g := mkF m 24 #[.val (.ref a), .val (.int (128 : Int32))] [(.int u68), (.ref a)]) rfl (hb hby own_d_prog_52_method_8_code_24) rfl (mNlt (by omega)) (cap := 32640) (by show (u68).toInt.toNat ≤ _; omega) (by decide) (by decide) (by decide) (ad := "[J") (by rfl)
  obtain ⟨a78, g79⟩ : ∃ z, z = T46.heap.size := ⟨_, rfl⟩
  rw [← g79] at A76 XA80 st73
  have lt81 : a < a78 := by rw [g79]; exact F54.lt
  have lt82 : a9 < a78 := by rw [g79]; exact A52.lt
  have fr83 : h0.size ≤ a78 := by rw [g79]; exact K63.1
  have K84 : Keep h0 h74 [a] := K63.ext E75
  have F85 := F54.ext E75
  have F86 := F55.ext E75
  have F87 := F56.ext E75
  have F88 := F57.ext E75
  have F89 := F58.ext E75
  have F90 := F59.ext E75
  have F91 := A52.ext E75
  have F92 := F61.ext E75
  have F93 : OArr Z h74 a78 .long u68 (fun _ => .long 0 : Nat → Value) := OArr.new A76 (mNlt (by omega))
  have Z94 : n0 ≤ h74.size := Nat.le_trans Z62 E75.1
  have ab95 : n0 ≤ a78 := Nat.le_trans Z62 (Nat.le_of_eq g79.symm)
  refine OGoal.mp (S' := (T70.setTop (mkF m 26 #[.val (.ref a), .val (.int (128 : Int32))] [(.ref a78), (.ref a)]))) (fun _ k => st73 _ k) ?_
  obtain ⟨T96, h100, X97, e98, W101, st99⟩ := putF X71 hx hZ hown (host := "") (Or.inl (hw _ (List.mem_of_getElem? (i := 24) rfl))) Via.refl e72 F88 F85 (Or.inl (hw _ (List.mem_of_getElem? (i := 25) rfl))) (hw _ (List.mem_of_getElem? (i := 1) rfl)) (ty := (.array .long)) (by decide) rfl rfl (g := mkF m 26 #[.val (.ref a), .val (.int (128 : Int32))] [(.ref a78), (.ref a)]) rfl rfl (hb hby own_d_prog_52_method_8_code_26)
  have N102 := Fr.snoc X97 N53 ab
  have Z103 : n0 ≤ h100.size := Nat.le_trans Z94 (Keep.of_wr W101).1
  have K104 : Keep h0 h100 [a] := K84.wr W101 (Or.inl (by simp))
  have F105 := F85.wr W101
  have F106 := F86.other W101 (Or.inr (slot_ne (a0 := a0) (C := "com/example/andesite/andesite/data/ValueCounts") (t := .int) (t' := (.array .long)) (Or.inr (hw _ (List.mem_of_getElem? (i := 10) rfl))) (Or.inl (hw _ (List.mem_of_getElem? (i := 25) rfl))) (by decide) (by decide) (by decide)))
  have F107 := F87.other W101 (Or.inr (slot_ne (a0 := a0) (C := "com/example/andesite/andesite/data/ValueCounts") (t := (.array .double)) (t' := (.array .long)) (Or.inl (hw _ (List.mem_of_getElem? (i := 17) rfl))) (Or.inl (hw _ (List.mem_of_getElem? (i := 25) rfl))) (by decide) (by decide) (by decide)))
  have F108 := F88.same W101
  have F109 := F89.other W101 (Or.inr (slot_ne (a0 := a0) (C := "com/example/andesite/andesite/data/ValueCounts") (t := .int) (t' := (.array .long)) (Or.inl (hw _ (List.mem_of_getElem? (i := 32) rfl))) (Or.inl (hw _ (List.mem_of_getElem? (i := 25) rfl))) (by decide) (by decide) (by decide)))
  have F110 := F90.other W101 (Or.inr (slot_ne (a0 := a0) (C := "com/example/andesite/andesite/data/ValueCounts") (t := .int) (t' := (.array .long)) (Or.inl (hw _ (List.mem_of_getElem? (i := 47) rfl))) (Or.inl (hw _ (List.mem_of_getElem? (i := 25) rfl))) (by decide) (by decide) (by decide)))
  have F111 := F91.other W101 (Nat.ne_of_gt lt12)
  have F112 := F92.wr W101
  have F113 := F93.other W101 (Nat.ne_of_gt lt81)
  have F114 := XA80.wr W101
  refine OGoal.mp (S' := (T96.setTop (mkF m 29 #[.val (.ref a), .val (.int (128 : Int32))] []))) (fun _ k => st99 _ k) ?_
  refine OGoal.mp (S' := (T96.setTop (mkF m 30 #[.val (.ref a), .val (.int (128 : Int32))] [(.ref a)]))) (fun _ k => XS.aloadN X97.here hx rfl (hb hby own_d_prog_52_method_8_code_29) rfl rfl k) ?_
  refine OGoal.mp (S' := (T96.setTop (mkF m 32 #[.val (.ref a), .val (.int (128 : Int32))] [(.int (64 : Int32)), (.ref a)]))) (fun _ k => XS.bipush X97.here hx rfl (hb hby own_d_prog_52_method_8_code_30) k) ?_
  refine OGoal.mp (S' := (T96.setTop (mkF m 33 #[.val (.ref a), .val (.int (128 : Int32))] [(.int (128 : Int32)), (.int (64 : Int32)), (.ref a)]))) (fun _ k => XS.iloadN X97.here hx rfl (hb hby own_d_prog_52_method_8_code_32) rfl k) ?_
  refine oCallS (y := (⟨"java/lang/Integer", "numberOfTrailingZeros", "(I)I"⟩ : MethodName)) X97 hx hZ hown (hw _ (List.mem_of_getElem? (i := 26) rfl)) (hw _ (List.mem_of_getElem? (i := 27) rfl)) (hw _ (List.mem_of_getElem? (i := 28) rfl)) (hw _ (List.mem_of_getElem? (i := 29) rfl)) (by decide) (rmZ l Z a0 hw (128 : Int32) h100 n0 Z103) e98 [(.int (128 : Int32))] [(.int (64 : Int32)), (.ref a)] rfl rfl (by rw [hml]; rfl) (lenOf own_pd__I_I rfl) 2 (Nat.le_of_eq rfl) (by decide) (by decide) (by decide) (by decide) (hb hby own_d_prog_52_method_8_code_33) ?_
  intro v116 T117 L118 X119 q120
  obtain ⟨z115, rfl, N121, e122⟩ := q120
  have N123 := Fr.app N102 N121
  show OGoal p e below s _ _ _ (T117.setTop (mkF m 36 #[.val (.ref a), .val (.int (128 : Int32))] [(.int z115), (.int (64 : Int32)), (.ref a)]))
  refine OGoal.mp (S' := (T117.setTop (mkF m 37 #[.val (.ref a), .val (.int (128 : Int32))] [(.int ((64 : Int32) - z115)), (.ref a)]))) (fun _ k => XS.isub X119.here hx rfl (hb hby own_d_prog_52_method_8_code_36) rfl k) ?_
  obtain ⟨T124, h128, X125, e126, W129, st127⟩ := putF X119 hx hZ hown (host := "") (Or.inl (hw _ (List.mem_of_getElem? (i := 31) rfl))) Via.refl e122 F109 F105 (Or.inl (hw _ (List.mem_of_getElem? (i := 32) rfl))) (hw _ (List.mem_of_getElem? (i := 1) rfl)) (ty := .int) (by decide) rfl rfl (g := mkF m 37 #[.val (.ref a), .val (.int (128 : Int32))] [(.int ((64 : Int32) - z115)), (.ref a)]) rfl rfl (hb hby own_d_prog_52_method_8_code_37)
  have N130 := Fr.snoc X125 N123 ab
  have Z131 : n0 ≤ h128.size := Nat.le_trans Z103 (Keep.of_wr W129).1
  have K132 : Keep h0 h128 [a] := K104.wr W129 (Or.inl (by simp))
  have F133 := F105.wr W129
  have F134 := F106.other W129 (Or.inr (slot_ne (a0 := a0) (C := "com/example/andesite/andesite/data/ValueCounts") (t := .int) (t' := .int) (Or.inr (hw _ (List.mem_of_getElem? (i := 10) rfl))) (Or.inl (hw _ (List.mem_of_getElem? (i := 32) rfl))) (by decide) (by decide) (by decide)))
  have F135 := F107.other W129 (Or.inr (slot_ne (a0 := a0) (C := "com/example/andesite/andesite/data/ValueCounts") (t := (.array .double)) (t' := .int) (Or.inl (hw _ (List.mem_of_getElem? (i := 17) rfl))) (Or.inl (hw _ (List.mem_of_getElem? (i := 32) rfl))) (by decide) (by decide) (by decide)))
  have F136 := F108.other W129 (Or.inr (slot_ne (a0 := a0) (C := "com/example/andesite/andesite/data/ValueCounts") (t := (.array .long)) (t' := .int) (Or.inl (hw _ (List.mem_of_getElem? (i := 25) rfl))) (Or.inl (hw _ (List.mem_of_getElem? (i := 32) rfl))) (by decide) (by decide) (by decide)))
  have F137 := F109.same W129
  have F138 := F110.other W129 (Or.inr (slot_ne (a0 := a0) (C := "com/example/andesite/andesite/data/ValueCounts") (t := .int) (t' := .int) (Or.inl (hw _ (List.mem_of_getElem? (i := 47) rfl))) (Or.inl (hw _ (List.mem_of_getElem? (i := 32) rfl))) (by decide) (by decide) (by decide)))
  have F139 := F111.other W129 (Nat.ne_of_gt lt12)
  have F140 := F112.wr W129
  have F141 := F113.other W129 (Nat.ne_of_gt lt81)
  have F142 := F114.wr W129
  refine OGoal.mp (S' := (T124.setTop (mkF m 40 #[.val (.ref a), .val (.int (128 : Int32))] []))) (fun _ k => st127 _ k) ?_
  refine oRetV X125 hx hlk hret (hb hby own_d_prog_52_method_8_code_40) ?_ (by decide) (by decide)
  rw [e126]
  exact ⟨_, _, _, rfl, N130, F133, F134, F135, F136, F137, F138, F139, K132⟩
theorem own_d_prog_52_method_1_code_0 : decode prog_52_method_1_code 0 = .ok (.aload_n 0, 1) := by decide +kernel
theorem own_d_prog_52_method_1_code_1 : decode prog_52_method_1_code 1 = .ok (.invokespecial 3, 3) := by decide +kernel
theorem own_d_prog_52_method_1_code_4 : decode prog_52_method_1_code 4 = .ok (.aload_n 0, 1) := by decide +kernel
theorem own_d_prog_52_method_1_code_5 : decode prog_52_method_1_code 5 = .ok (.iload_n 1, 1) := by decide +kernel
theorem own_d_prog_52_method_1_code_6 : decode prog_52_method_1_code 6 = .ok (.putfield 9, 3) := by decide +kernel
theorem own_d_prog_52_method_1_code_9 : decode prog_52_method_1_code 9 = .ok (.aload_n 0, 1) := by decide +kernel
theorem own_d_prog_52_method_1_code_10 : decode prog_52_method_1_code 10 = .ok (.bipush 16, 2) := by decide +kernel
theorem own_d_prog_52_method_1_code_12 : decode prog_52_method_1_code 12 = .ok (.invokevirtual 15, 3) := by decide +kernel
theorem own_pd__I_V : parseMethodDescriptor "(I)V" = some ⟨[.int], none⟩ := by decide +kernel
theorem own_d_prog_52_method_1_code_15 : decode prog_52_method_1_code 15 = .ok (.return_, 1) := by decide +kernel
theorem own_ef_rmI (x0 : Addr) (x1 : Int32) (m : MethodId) : entryFrame m #[(.ref x0), (.int x1)] 2 = mkF m 0 #[.val (.ref x0), .val (.int x1)] [] := by first | (simp [entryFrame, mkF, argsToLocals, Value.category]; done) | rfl
set_option maxRecDepth 65536 in
set_option maxHeartbeats 40000000 in
theorem rmI (l : Launch) (Z : State) (a0 : Array Value) (hw : ∀ d ∈ tables_1, d.before a0 Z = true) (a : Addr) (p1 : Int32) (h0 : Heap) (n0 : Nat) (Z0 : n0 ≤ h0.size) (E : Exa Z h0 a "com/example/andesite/andesite/data/ValueCounts") (Fc : Fld Z h0 a "com/example/andesite/andesite/data/ValueCounts" "classValues" "I" (.int (0 : Int32))) (Fv : Fld Z h0 a "com/example/andesite/andesite/data/ValueCounts" "slotValues" "[D" .null) (Fn : Fld Z h0 a "com/example/andesite/andesite/data/ValueCounts" "slotCounts" "[J" .null) (Fs : Fld Z h0 a "com/example/andesite/andesite/data/ValueCounts" "shift" "I" (.int (0 : Int32))) (Fu : Fld Z h0 a "com/example/andesite/andesite/data/ValueCounts" "used" "I" (.int (0 : Int32))) (ab : n0 ≤ a) (hs0 : 0 ≤ ((16 : Int32) * p1).toInt) (hs1 : ((16 : Int32) * p1).toInt ≤ 4080) :
    OCon l Z (⟨"com/example/andesite/andesite/data/ValueCounts", "<init>", "(I)V"⟩ : MethodName) prog_52_method_1_code 2 none ({ frames := 2, cells := 2, slots := 4096, locals := 29 } : Room) #[(.ref a), (.int p1)] h0 (Q_vc Z a p1 (16 : Int32) 0 h0 n0) := by
  refine OConK.intro (y := (⟨"com/example/andesite/andesite/data/ValueCounts", "<init>", "(I)V"⟩ : MethodName)) (plainFor_of_name own_pn_com_example_andesite_andesite_data_ValueCounts) (own_ef_rmI a p1) ?_
  intro p e s m below meth c s₁ hx hby hml hown hnm hret hlk hZ X0 e0
  show OGoal p e below s _ _ _ (s₁.setTop (mkF m 0 #[.val (.ref a), .val (.int p1)] []))
  refine OGoal.mp (S' := (s₁.setTop (mkF m 1 #[.val (.ref a), .val (.int p1)] [(.ref a)]))) (fun _ k => XS.aloadN X0.here hx rfl (hb hby own_d_prog_52_method_1_code_0) rfl rfl k) ?_
  obtain ⟨T1, X2, e3, st4⟩ := initO X0 hx hZ hown (hw _ (List.mem_of_getElem? (i := 6) rfl)) (hw _ (List.mem_of_getElem? (i := 7) rfl)) (hw _ (List.mem_of_getElem? (i := 8) rfl)) e0 (g := mkF m 1 #[.val (.ref a), .val (.int p1)] [(.ref a)]) rfl (by rw [hml]; rfl) rfl (hb hby own_d_prog_52_method_1_code_1) (by decide) (W := 0) (by show 2 * 0 + _ ≤ _; exact Nat.le_of_eq rfl) (by decide)
  refine OGoal.mp (S' := (T1.setTop (mkF m 4 #[.val (.ref a), .val (.int p1)] []))) (fun _ k => st4 _ k) ?_
  refine OGoal.mp (S' := (T1.setTop (mkF m 5 #[.val (.ref a), .val (.int p1)] [(.ref a)]))) (fun _ k => XS.aloadN X2.here hx rfl (hb hby own_d_prog_52_method_1_code_4) rfl rfl k) ?_
  refine OGoal.mp (S' := (T1.setTop (mkF m 6 #[.val (.ref a), .val (.int p1)] [(.int p1), (.ref a)]))) (fun _ k => XS.iloadN X2.here hx rfl (hb hby own_d_prog_52_method_1_code_5) rfl k) ?_
  obtain ⟨T5, h9, X6, e7, W10, st8⟩ := putF X2 hx hZ hown (host := "") (Or.inl (hw _ (List.mem_of_getElem? (i := 9) rfl))) Via.refl e3 Fc E (Or.inr ⟨(hw _ (List.mem_of_getElem? (i := 10) rfl)), rfl, hnm⟩) (hw _ (List.mem_of_getElem? (i := 1) rfl)) (ty := .int) (by decide) rfl rfl (g := mkF m 6 #[.val (.ref a), .val (.int p1)] [(.int p1), (.ref a)]) rfl rfl (hb hby own_d_prog_52_method_1_code_6)
  have N11 := Fr.snoc X6 (Fr.nil n0) ab
  have Z12 : n0 ≤ h9.size := Nat.le_trans Z0 (Keep.of_wr W10).1
  have K13 : Keep h0 h9 [a] := (Keep.refl h0 [a]).wr W10 (Or.inl (by simp))
  have F14 := E.wr W10
  have F15 := Fc.same W10
  have F16 := Fv.other W10 (Or.inr (slot_ne (a0 := a0) (C := "com/example/andesite/andesite/data/ValueCounts") (t := (.array .double)) (t' := .int) (Or.inl (hw _ (List.mem_of_getElem? (i := 17) rfl))) (Or.inr (hw _ (List.mem_of_getElem? (i := 10) rfl))) (by decide) (by decide) (by decide)))
  have F17 := Fn.other W10 (Or.inr (slot_ne (a0 := a0) (C := "com/example/andesite/andesite/data/ValueCounts") (t := (.array .long)) (t' := .int) (Or.inl (hw _ (List.mem_of_getElem? (i := 25) rfl))) (Or.inr (hw _ (List.mem_of_getElem? (i := 10) rfl))) (by decide) (by decide) (by decide)))
  have F18 := Fs.other W10 (Or.inr (slot_ne (a0 := a0) (C := "com/example/andesite/andesite/data/ValueCounts") (t := .int) (t' := .int) (Or.inl (hw _ (List.mem_of_getElem? (i := 32) rfl))) (Or.inr (hw _ (List.mem_of_getElem? (i := 10) rfl))) (by decide) (by decide) (by decide)))
  have F19 := Fu.other W10 (Or.inr (slot_ne (a0 := a0) (C := "com/example/andesite/andesite/data/ValueCounts") (t := .int) (t' := .int) (Or.inl (hw _ (List.mem_of_getElem? (i := 47) rfl))) (Or.inr (hw _ (List.mem_of_getElem? (i := 10) rfl))) (by decide) (by decide) (by decide)))
  refine OGoal.mp (S' := (T5.setTop (mkF m 9 #[.val (.ref a), .val (.int p1)] []))) (fun _ k => st8 _ k) ?_
  refine OGoal.mp (S' := (T5.setTop (mkF m 10 #[.val (.ref a), .val (.int p1)] [(.ref a)]))) (fun _ k => XS.aloadN X6.here hx rfl (hb hby own_d_prog_52_method_1_code_9) rfl rfl k) ?_
  refine OGoal.mp (S' := (T5.setTop (mkF m 12 #[.val (.ref a), .val (.int p1)] [(.int (16 : Int32)), (.ref a)]))) (fun _ k => XS.bipush X6.here hx rfl (hb hby own_d_prog_52_method_1_code_10) k) ?_
  refine oCallP (y := (⟨"com/example/andesite/andesite/data/ValueCounts", "allocate", "(I)V"⟩ : MethodName)) X6 hx hZ hown (hw _ (List.mem_of_getElem? (i := 11) rfl)) (hw _ (List.mem_of_getElem? (i := 1) rfl)) (hw _ (List.mem_of_getElem? (i := 12) rfl)) (hw _ (List.mem_of_getElem? (i := 13) rfl)) (hw _ (List.mem_of_getElem? (i := 2) rfl)) (hw _ (List.mem_of_getElem? (i := 14) rfl)) (by decide) (rmA16 l Z a0 hw a h9 n0 Z12 p1 0 0 _ _ F14 F15 F16 F17 F18 F19 ab hs0 hs1) e7 F14 [(.int (16 : Int32))] [] rfl rfl (by rw [hml]; rfl) (lenOf own_pd__I_V rfl) 0 (Nat.le_of_eq rfl) (by decide) (by decide) (by decide) (by decide) (hb hby own_d_prog_52_method_1_code_12) ?_
  intro v20 T21 L22 X23 q24
  obtain ⟨d25, c26, sh27, rfl, N28, E29, F32, F33, F34, F35, F36, A31, K30⟩ := q24
  have N37 := Fr.app N11 N28
  have nq38 := oNeA E29 (hw _ (List.mem_of_getElem? (i := 1) rfl)) A31
  have Z39 : n0 ≤ T21.heap.size := Nat.le_trans ab (Nat.le_of_lt E29.lt)
  have K40 : Keep h0 T21.heap [a] := K13.trans K30 (allS (Or.inl (by simp)) all0)
  show OGoal p e below s _ _ _ (T21.setTop (mkF m 15 #[.val (.ref a), .val (.int p1)] []))
  refine oRetV X23 hx hlk hret (hb hby own_d_prog_52_method_1_code_15) ?_ (by decide) (by decide)
  exact ⟨_, _, _, rfl, N37, E29, F32, F33, F34, F35, F36, A31, K40⟩
theorem own_d_prog_52_method_4_code_0 : decode prog_52_method_4_code 0 = .ok (.ldc2_w 44, 3) := by decide +kernel
theorem own_d_prog_52_method_4_code_3 : decode prog_52_method_4_code 3 = .ok (.aload_n 0, 1) := by decide +kernel
theorem own_d_prog_52_method_4_code_4 : decode prog_52_method_4_code 4 = .ok (.getfield 23, 3) := by decide +kernel
theorem own_d_prog_52_method_4_code_7 : decode prog_52_method_4_code 7 = .ok (.arraylength, 1) := by decide +kernel
theorem own_d_prog_52_method_4_code_8 : decode prog_52_method_4_code 8 = .ok (.i2l, 1) := by decide +kernel
theorem own_d_prog_52_method_4_code_9 : decode prog_52_method_4_code 9 = .ok (.lmul, 1) := by decide +kernel
theorem own_d_prog_52_method_4_code_10 : decode prog_52_method_4_code 10 = .ok (.aload_n 0, 1) := by decide +kernel
theorem own_d_prog_52_method_4_code_11 : decode prog_52_method_4_code 11 = .ok (.getfield 9, 3) := by decide +kernel
theorem own_d_prog_52_method_4_code_14 : decode prog_52_method_4_code 14 = .ok (.i2l, 1) := by decide +kernel
theorem own_d_prog_52_method_4_code_15 : decode prog_52_method_4_code 15 = .ok (.lmul, 1) := by decide +kernel
theorem own_d_prog_52_method_4_code_16 : decode prog_52_method_4_code 16 = .ok (.ldc2_w 46, 3) := by decide +kernel
theorem own_d_prog_52_method_4_code_19 : decode prog_52_method_4_code 19 = .ok (.lcmp, 1) := by decide +kernel
theorem own_d_prog_52_method_4_code_20 : decode prog_52_method_4_code 20 = .ok (.ifCond .gt 7, 3) := by decide +kernel
theorem own_d_prog_52_method_4_code_27 : decode prog_52_method_4_code 27 = .ok (.iconst 0, 1) := by decide +kernel
theorem own_d_prog_52_method_4_code_28 : decode prog_52_method_4_code 28 = .ok (.ireturn, 1) := by decide +kernel
theorem own_d_prog_52_method_4_code_23 : decode prog_52_method_4_code 23 = .ok (.iconst 1, 1) := by decide +kernel
theorem own_d_prog_52_method_4_code_24 : decode prog_52_method_4_code 24 = .ok (.goto 4, 3) := by decide +kernel
theorem own_ef_rmC16 (x0 : Addr) (m : MethodId) : entryFrame m #[(.ref x0)] 1 = mkF m 0 #[.val (.ref x0)] [] := by first | (simp [entryFrame, mkF, argsToLocals, Value.category]; done) | rfl
set_option maxRecDepth 65536 in
set_option maxHeartbeats 40000000 in
theorem rmC16 (l : Launch) (Z : State) (a0 : Array Value) (hw : ∀ d ∈ tables_1, d.before a0 Z = true) (a : Addr) (h0 : Heap) (n0 : Nat) (Z0 : n0 ≤ h0.size) (cv : Int32) (d : Addr) (f : Nat → Value) (Fc : Fld Z h0 a "com/example/andesite/andesite/data/ValueCounts" "classValues" "I" (.int cv)) (Fv : Fld Z h0 a "com/example/andesite/andesite/data/ValueCounts" "slotValues" "[D" (.ref d)) (A : OArr Z h0 d .double (16 : Int32) f) :
    OCon l Z (⟨"com/example/andesite/andesite/data/ValueCounts", "canGrow", "()Z"⟩ : MethodName) prog_52_method_4_code 1 (some .boolean) ({ frames := 0, cells := 0, slots := 0, locals := 0 } : Room) #[(.ref a)] h0 (fun v h L => v = some (.int (if 32 * cv.toInt ≤ 2147483639 then (1 : Int32) else 0)) ∧ Fr n0 L ∧ h = h0) := by
  refine OConK.intro (y := (⟨"com/example/andesite/andesite/data/ValueCounts", "canGrow", "()Z"⟩ : MethodName)) (plainFor_of_name own_pn_com_example_andesite_andesite_data_ValueCounts) (own_ef_rmC16 a) ?_
  intro p e s m below meth c s₁ hx hby hml hown hnm hret hlk hZ X0 e0
  show OGoal p e below s _ _ _ (s₁.setTop (mkF m 0 #[.val (.ref a)] []))
  refine OGoal.mp (S' := (s₁.setTop (mkF m 3 #[.val (.ref a)] [(.long (2 : Int64))]))) (fun _ k => Stand.ldc2J X0 hx hown (mvT hZ (hw _ (List.mem_of_getElem? (i := 38) rfl))) rfl (hb hby own_d_prog_52_method_4_code_0) k) ?_
  refine OGoal.mp (S' := (s₁.setTop (mkF m 4 #[.val (.ref a)] [(.ref a), (.long (2 : Int64))]))) (fun _ k => XS.aloadN X0.here hx rfl (hb hby own_d_prog_52_method_4_code_3) rfl rfl k) ?_
  obtain ⟨T1, X2, e3, st4⟩ := getF X0 hx hZ hown (host := "") (Or.inl (hw _ (List.mem_of_getElem? (i := 16) rfl))) Via.refl e0 Fv (g := mkF m 4 #[.val (.ref a)] [(.ref a), (.long (2 : Int64))]) rfl rfl (hb hby own_d_prog_52_method_4_code_4)
  refine OGoal.mp (S' := (T1.setTop (mkF m 7 #[.val (.ref a)] [(.ref d), (.long (2 : Int64))]))) (fun _ k => st4 _ k) ?_
  refine OGoal.mp (S' := (T1.setTop (mkF m 8 #[.val (.ref a)] [(.int (16 : Int32)), (.long (2 : Int64))]))) (fun _ k => oLen X2 hx hZ e3 A (g := mkF m 7 #[.val (.ref a)] [(.ref d), (.long (2 : Int64))]) rfl rfl (hb hby own_d_prog_52_method_4_code_7) k) ?_
  refine OGoal.mp (S' := (T1.setTop (mkF m 9 #[.val (.ref a)] [(.long (((16 : Int32)).toInt64)), (.long (2 : Int64))]))) (fun _ k => XT.i2l X2.here hx rfl (hb hby own_d_prog_52_method_4_code_8) rfl k) ?_
  obtain ⟨u5, hu5⟩ : ∃ z : Int64, z = (((16 : Int32)).toInt64) := ⟨_, rfl⟩
  rw [← hu5]
  have l6 : (16 : Int32).toInt = 16 := by decide
  have t7 : u5.toInt = ((16 : Int32)).toInt := by rw [hu5]; exact c_i2l (16 : Int32)
  have r8 := rng64 u5
  refine OGoal.mp (S' := (T1.setTop (mkF m 10 #[.val (.ref a)] [(.long ((2 : Int64) * u5))]))) (fun _ k => XT.lmul X2.here hx rfl (hb hby own_d_prog_52_method_4_code_9) rfl k) ?_
  obtain ⟨u9, hu9⟩ : ∃ z : Int64, z = ((2 : Int64) * u5) := ⟨_, rfl⟩
  rw [← hu9]
  have l10 : (2 : Int64).toInt = 2 := by decide
  have t11 : (u9.toInt - 2 * (u5).toInt) % 18446744073709551616 = 0 := by rw [hu9]; have q := c_lmul (2 : Int64) u5; rw [show (2 : Int64).toInt = 2 by decide] at q; exact q
  have r12 := rng64 u9
  refine OGoal.mp (S' := (T1.setTop (mkF m 11 #[.val (.ref a)] [(.ref a), (.long u9)]))) (fun _ k => XS.aloadN X2.here hx rfl (hb hby own_d_prog_52_method_4_code_10) rfl rfl k) ?_
  obtain ⟨T13, X14, e15, st16⟩ := getF X2 hx hZ hown (host := "") (Or.inl (hw _ (List.mem_of_getElem? (i := 9) rfl))) Via.refl e3 Fc (g := mkF m 11 #[.val (.ref a)] [(.ref a), (.long u9)]) rfl rfl (hb hby own_d_prog_52_method_4_code_11)
  refine OGoal.mp (S' := (T13.setTop (mkF m 14 #[.val (.ref a)] [(.int cv), (.long u9)]))) (fun _ k => st16 _ k) ?_
  refine OGoal.mp (S' := (T13.setTop (mkF m 15 #[.val (.ref a)] [(.long ((cv).toInt64)), (.long u9)]))) (fun _ k => XT.i2l X14.here hx rfl (hb hby own_d_prog_52_method_4_code_14) rfl k) ?_
  obtain ⟨u17, hu17⟩ : ∃ z : Int64, z = ((cv).toInt64) := ⟨_, rfl⟩
  rw [← hu17]
  have t18 : u17.toInt = (cv).toInt := by rw [hu17]; exact c_i2l cv
  have r19 := rng64 u17
  refine OGoal.mp (S' := (T13.setTop (mkF m 16 #[.val (.ref a)] [(.long (u9 * u17))]))) (fun _ k => XT.lmul X14.here hx rfl (hb hby own_d_prog_52_method_4_code_15) rfl k) ?_
  obtain ⟨u20, hu20⟩ : ∃ z : Int64, z = (u9 * u17) := ⟨_, rfl⟩
  rw [← hu20]
  have l21 : (32 : Int64).toInt = 32 := by decide
  have hk22 : u9 = (32 : Int64) := mEqL (by omega)
  have t23 : (u20.toInt - 32 * (u17).toInt) % 18446744073709551616 = 0 := by rw [hu20, hk22]; have q := c_lmul (32 : Int64) u17; rw [show (32 : Int64).toInt = 32 by decide] at q; exact q
  have r24 := rng64 u20
  refine OGoal.mp (S' := (T13.setTop (mkF m 19 #[.val (.ref a)] [(.long (2147483639 : Int64)), (.long u20)]))) (fun _ k => Stand.ldc2J X14 hx hown (mvT hZ (hw _ (List.mem_of_getElem? (i := 39) rfl))) rfl (hb hby own_d_prog_52_method_4_code_16) k) ?_
  refine OGoal.mp (S' := (T13.setTop (mkF m 20 #[.val (.ref a)] [(.int (XT.cmpL u20 (2147483639 : Int64)))]))) (fun _ k => XT.lcmp X14.here hx rfl (hb hby own_d_prog_52_method_4_code_19) rfl k) ?_
  by_cases hc25 : (2147483639 : Int64) < u20
  · refine OGoal.mp (S' := (T13.setTop (mkF m 27 #[.val (.ref a)] []))) (fun _ k => XS.ifYes X14.here hx rfl (pc0 := 20) (pc' := 27) rfl (hb hby own_d_prog_52_method_4_code_20) rfl (XT.ll_gt_t hc25) (by decide) (by decide) k) ?_
    refine OGoal.mp (S' := (T13.setTop (mkF m 28 #[.val (.ref a)] [(.int (0 : Int32))]))) (fun _ k => XS.iconst X14.here hx rfl (hb hby own_d_prog_52_method_4_code_27) k) ?_
    refine oRetZ X14 hx hlk hret (Or.inl rfl) (hb hby own_d_prog_52_method_4_code_28) ?_ (by decide) (by decide)
    have g26 := oLtL hc25
    have l3 : (2147483639 : Int64).toInt = 2147483639 := by decide
    have := rng32 cv
    exact ⟨by rw [if_neg (by omega)], (Fr.nil n0), e15⟩
  · refine OGoal.mp (S' := (T13.setTop (mkF m 23 #[.val (.ref a)] []))) (fun _ k => XS.ifNo X14.here hx rfl (hb hby own_d_prog_52_method_4_code_20) rfl (XT.ll_gt_f hc25) k) ?_
    refine OGoal.mp (S' := (T13.setTop (mkF m 24 #[.val (.ref a)] [(.int (1 : Int32))]))) (fun _ k => XS.iconst X14.here hx rfl (hb hby own_d_prog_52_method_4_code_23) k) ?_
    refine OGoal.mp (S' := (T13.setTop (mkF m 28 #[.val (.ref a)] [(.int (1 : Int32))]))) (fun _ k => XS.goto X14.here hx rfl (pc0 := 24) (pc' := 28) rfl (hb hby own_d_prog_52_method_4_code_24) (by decide) (by decide) k) ?_
    refine oRetZ X14 hx hlk hret (Or.inr rfl) (hb hby own_d_prog_52_method_4_code_28) ?_ (by decide) (by decide)
    have g27 := oNltL hc25
    have l3 : (2147483639 : Int64).toInt = 2147483639 := by decide
    have := rng32 cv
    exact ⟨by rw [if_pos (by omega)], (Fr.nil n0), e15⟩
theorem own_ef_rmC32 (x0 : Addr) (m : MethodId) : entryFrame m #[(.ref x0)] 1 = mkF m 0 #[.val (.ref x0)] [] := by first | (simp [entryFrame, mkF, argsToLocals, Value.category]; done) | rfl
set_option maxRecDepth 65536 in
set_option maxHeartbeats 40000000 in
theorem rmC32 (l : Launch) (Z : State) (a0 : Array Value) (hw : ∀ d ∈ tables_1, d.before a0 Z = true) (a : Addr) (h0 : Heap) (n0 : Nat) (Z0 : n0 ≤ h0.size) (cv : Int32) (d : Addr) (f : Nat → Value) (Fc : Fld Z h0 a "com/example/andesite/andesite/data/ValueCounts" "classValues" "I" (.int cv)) (Fv : Fld Z h0 a "com/example/andesite/andesite/data/ValueCounts" "slotValues" "[D" (.ref d)) (A : OArr Z h0 d .double (32 : Int32) f) :
    OCon l Z (⟨"com/example/andesite/andesite/data/ValueCounts", "canGrow", "()Z"⟩ : MethodName) prog_52_method_4_code 1 (some .boolean) ({ frames := 0, cells := 0, slots := 0, locals := 0 } : Room) #[(.ref a)] h0 (fun v h L => v = some (.int (if 64 * cv.toInt ≤ 2147483639 then (1 : Int32) else 0)) ∧ Fr n0 L ∧ h = h0) := by
  refine OConK.intro (y := (⟨"com/example/andesite/andesite/data/ValueCounts", "canGrow", "()Z"⟩ : MethodName)) (plainFor_of_name own_pn_com_example_andesite_andesite_data_ValueCounts) (own_ef_rmC32 a) ?_
  intro p e s m below meth c s₁ hx hby hml hown hnm hret hlk hZ X0 e0
  show OGoal p e below s _ _ _ (s₁.setTop (mkF m 0 #[.val (.ref a)] []))
  refine OGoal.mp (S' := (s₁.setTop (mkF m 3 #[.val (.ref a)] [(.long (2 : Int64))]))) (fun _ k => Stand.ldc2J X0 hx hown (mvT hZ (hw _ (List.mem_of_getElem? (i := 38) rfl))) rfl (hb hby own_d_prog_52_method_4_code_0) k) ?_
  refine OGoal.mp (S' := (s₁.setTop (mkF m 4 #[.val (.ref a)] [(.ref a), (.long (2 : Int64))]))) (fun _ k => XS.aloadN X0.here hx rfl (hb hby own_d_prog_52_method_4_code_3) rfl rfl k) ?_
  obtain ⟨T1, X2, e3, st4⟩ := getF X0 hx hZ hown (host := "") (Or.inl (hw _ (List.mem_of_getElem? (i := 16) rfl))) Via.refl e0 Fv (g := mkF m 4 #[.val (.ref a)] [(.ref a), (.long (2 : Int64))]) rfl rfl (hb hby own_d_prog_52_method_4_code_4)
  refine OGoal.mp (S' := (T1.setTop (mkF m 7 #[.val (.ref a)] [(.ref d), (.long (2 : Int64))]))) (fun _ k => st4 _ k) ?_
  refine OGoal.mp (S' := (T1.setTop (mkF m 8 #[.val (.ref a)] [(.int (32 : Int32)), (.long (2 : Int64))]))) (fun _ k => oLen X2 hx hZ e3 A (g := mkF m 7 #[.val (.ref a)] [(.ref d), (.long (2 : Int64))]) rfl rfl (hb hby own_d_prog_52_method_4_code_7) k) ?_
  refine OGoal.mp (S' := (T1.setTop (mkF m 9 #[.val (.ref a)] [(.long (((32 : Int32)).toInt64)), (.long (2 : Int64))]))) (fun _ k => XT.i2l X2.here hx rfl (hb hby own_d_prog_52_method_4_code_8) rfl k) ?_
  obtain ⟨u5, hu5⟩ : ∃ z : Int64, z = (((32 : Int32)).toInt64) := ⟨_, rfl⟩
  rw [← hu5]
  have l6 : (32 : Int32).toInt = 32 := by decide
  have t7 : u5.toInt = ((32 : Int32)).toInt := by rw [hu5]; exact c_i2l (32 : Int32)
  have r8 := rng64 u5
  refine OGoal.mp (S' := (T1.setTop (mkF m 10 #[.val (.ref a)] [(.long ((2 : Int64) * u5))]))) (fun _ k => XT.lmul X2.here hx rfl (hb hby own_d_prog_52_method_4_code_9) rfl k) ?_
  obtain ⟨u9, hu9⟩ : ∃ z : Int64, z = ((2 : Int64) * u5) := ⟨_, rfl⟩
  rw [← hu9]
  have l10 : (2 : Int64).toInt = 2 := by decide
  have t11 : (u9.toInt - 2 * (u5).toInt) % 18446744073709551616 = 0 := by rw [hu9]; have q := c_lmul (2 : Int64) u5; rw [show (2 : Int64).toInt = 2 by decide] at q; exact q
  have r12 := rng64 u9
  refine OGoal.mp (S' := (T1.setTop (mkF m 11 #[.val (.ref a)] [(.ref a), (.long u9)]))) (fun _ k => XS.aloadN X2.here hx rfl (hb hby own_d_prog_52_method_4_code_10) rfl rfl k) ?_
  obtain ⟨T13, X14, e15, st16⟩ := getF X2 hx hZ hown (host := "") (Or.inl (hw _ (List.mem_of_getElem? (i := 9) rfl))) Via.refl e3 Fc (g := mkF m 11 #[.val (.ref a)] [(.ref a), (.long u9)]) rfl rfl (hb hby own_d_prog_52_method_4_code_11)
  refine OGoal.mp (S' := (T13.setTop (mkF m 14 #[.val (.ref a)] [(.int cv), (.long u9)]))) (fun _ k => st16 _ k) ?_
  refine OGoal.mp (S' := (T13.setTop (mkF m 15 #[.val (.ref a)] [(.long ((cv).toInt64)), (.long u9)]))) (fun _ k => XT.i2l X14.here hx rfl (hb hby own_d_prog_52_method_4_code_14) rfl k) ?_
  obtain ⟨u17, hu17⟩ : ∃ z : Int64, z = ((cv).toInt64) := ⟨_, rfl⟩
  rw [← hu17]
  have t18 : u17.toInt = (cv).toInt := by rw [hu17]; exact c_i2l cv
  have r19 := rng64 u17
  refine OGoal.mp (S' := (T13.setTop (mkF m 16 #[.val (.ref a)] [(.long (u9 * u17))]))) (fun _ k => XT.lmul X14.here hx rfl (hb hby own_d_prog_52_method_4_code_15) rfl k) ?_
  obtain ⟨u20, hu20⟩ : ∃ z : Int64, z = (u9 * u17) := ⟨_, rfl⟩
  rw [← hu20]
  have l21 : (64 : Int64).toInt = 64 := by decide
  have hk22 : u9 = (64 : Int64) := mEqL (by omega)
  have t23 : (u20.toInt - 64 * (u17).toInt) % 18446744073709551616 = 0 := by rw [hu20, hk22]; have q := c_lmul (64 : Int64) u17; rw [show (64 : Int64).toInt = 64 by decide] at q; exact q
  have r24 := rng64 u20
  refine OGoal.mp (S' := (T13.setTop (mkF m 19 #[.val (.ref a)] [(.long (2147483639 : Int64)), (.long u20)]))) (fun _ k => Stand.ldc2J X14 hx hown (mvT hZ (hw _ (List.mem_of_getElem? (i := 39) rfl))) rfl (hb hby own_d_prog_52_method_4_code_16) k) ?_
  refine OGoal.mp (S' := (T13.setTop (mkF m 20 #[.val (.ref a)] [(.int (XT.cmpL u20 (2147483639 : Int64)))]))) (fun _ k => XT.lcmp X14.here hx rfl (hb hby own_d_prog_52_method_4_code_19) rfl k) ?_
  by_cases hc25 : (2147483639 : Int64) < u20
  · refine OGoal.mp (S' := (T13.setTop (mkF m 27 #[.val (.ref a)] []))) (fun _ k => XS.ifYes X14.here hx rfl (pc0 := 20) (pc' := 27) rfl (hb hby own_d_prog_52_method_4_code_20) rfl (XT.ll_gt_t hc25) (by decide) (by decide) k) ?_
    refine OGoal.mp (S' := (T13.setTop (mkF m 28 #[.val (.ref a)] [(.int (0 : Int32))]))) (fun _ k => XS.iconst X14.here hx rfl (hb hby own_d_prog_52_method_4_code_27) k) ?_
    refine oRetZ X14 hx hlk hret (Or.inl rfl) (hb hby own_d_prog_52_method_4_code_28) ?_ (by decide) (by decide)
    have g26 := oLtL hc25
    have l3 : (2147483639 : Int64).toInt = 2147483639 := by decide
    have := rng32 cv
    exact ⟨by rw [if_neg (by omega)], (Fr.nil n0), e15⟩
  · refine OGoal.mp (S' := (T13.setTop (mkF m 23 #[.val (.ref a)] []))) (fun _ k => XS.ifNo X14.here hx rfl (hb hby own_d_prog_52_method_4_code_20) rfl (XT.ll_gt_f hc25) k) ?_
    refine OGoal.mp (S' := (T13.setTop (mkF m 24 #[.val (.ref a)] [(.int (1 : Int32))]))) (fun _ k => XS.iconst X14.here hx rfl (hb hby own_d_prog_52_method_4_code_23) k) ?_
    refine OGoal.mp (S' := (T13.setTop (mkF m 28 #[.val (.ref a)] [(.int (1 : Int32))]))) (fun _ k => XS.goto X14.here hx rfl (pc0 := 24) (pc' := 28) rfl (hb hby own_d_prog_52_method_4_code_24) (by decide) (by decide) k) ?_
    refine oRetZ X14 hx hlk hret (Or.inr rfl) (hb hby own_d_prog_52_method_4_code_28) ?_ (by decide) (by decide)
    have g27 := oNltL hc25
    have l3 : (2147483639 : Int64).toInt = 2147483639 := by decide
    have := rng32 cv
    exact ⟨by rw [if_pos (by omega)], (Fr.nil n0), e15⟩
theorem own_ef_rmC64 (x0 : Addr) (m : MethodId) : entryFrame m #[(.ref x0)] 1 = mkF m 0 #[.val (.ref x0)] [] := by first | (simp [entryFrame, mkF, argsToLocals, Value.category]; done) | rfl
set_option maxRecDepth 65536 in
set_option maxHeartbeats 40000000 in
theorem rmC64 (l : Launch) (Z : State) (a0 : Array Value) (hw : ∀ d ∈ tables_1, d.before a0 Z = true) (a : Addr) (h0 : Heap) (n0 : Nat) (Z0 : n0 ≤ h0.size) (cv : Int32) (d : Addr) (f : Nat → Value) (Fc : Fld Z h0 a "com/example/andesite/andesite/data/ValueCounts" "classValues" "I" (.int cv)) (Fv : Fld Z h0 a "com/example/andesite/andesite/data/ValueCounts" "slotValues" "[D" (.ref d)) (A : OArr Z h0 d .double (64 : Int32) f) :
    OCon l Z (⟨"com/example/andesite/andesite/data/ValueCounts", "canGrow", "()Z"⟩ : MethodName) prog_52_method_4_code 1 (some .boolean) ({ frames := 0, cells := 0, slots := 0, locals := 0 } : Room) #[(.ref a)] h0 (fun v h L => v = some (.int (if 128 * cv.toInt ≤ 2147483639 then (1 : Int32) else 0)) ∧ Fr n0 L ∧ h = h0) := by
  refine OConK.intro (y := (⟨"com/example/andesite/andesite/data/ValueCounts", "canGrow", "()Z"⟩ : MethodName)) (plainFor_of_name own_pn_com_example_andesite_andesite_data_ValueCounts) (own_ef_rmC64 a) ?_
  intro p e s m below meth c s₁ hx hby hml hown hnm hret hlk hZ X0 e0
  show OGoal p e below s _ _ _ (s₁.setTop (mkF m 0 #[.val (.ref a)] []))
  refine OGoal.mp (S' := (s₁.setTop (mkF m 3 #[.val (.ref a)] [(.long (2 : Int64))]))) (fun _ k => Stand.ldc2J X0 hx hown (mvT hZ (hw _ (List.mem_of_getElem? (i := 38) rfl))) rfl (hb hby own_d_prog_52_method_4_code_0) k) ?_
  refine OGoal.mp (S' := (s₁.setTop (mkF m 4 #[.val (.ref a)] [(.ref a), (.long (2 : Int64))]))) (fun _ k => XS.aloadN X0.here hx rfl (hb hby own_d_prog_52_method_4_code_3) rfl rfl k) ?_
  obtain ⟨T1, X2, e3, st4⟩ := getF X0 hx hZ hown (host := "") (Or.inl (hw _ (List.mem_of_getElem? (i := 16) rfl))) Via.refl e0 Fv (g := mkF m 4 #[.val (.ref a)] [(.ref a), (.long (2 : Int64))]) rfl rfl (hb hby own_d_prog_52_method_4_code_4)
  refine OGoal.mp (S' := (T1.setTop (mkF m 7 #[.val (.ref a)] [(.ref d), (.long (2 : Int64))]))) (fun _ k => st4 _ k) ?_
  refine OGoal.mp (S' := (T1.setTop (mkF m 8 #[.val (.ref a)] [(.int (64 : Int32)), (.long (2 : Int64))]))) (fun _ k => oLen X2 hx hZ e3 A (g := mkF m 7 #[.val (.ref a)] [(.ref d), (.long (2 : Int64))]) rfl rfl (hb hby own_d_prog_52_method_4_code_7) k) ?_
  refine OGoal.mp (S' := (T1.setTop (mkF m 9 #[.val (.ref a)] [(.long (((64 : Int32)).toInt64)), (.long (2 : Int64))]))) (fun _ k => XT.i2l X2.here hx rfl (hb hby own_d_prog_52_method_4_code_8) rfl k) ?_
  obtain ⟨u5, hu5⟩ : ∃ z : Int64, z = (((64 : Int32)).toInt64) := ⟨_, rfl⟩
  rw [← hu5]
  have l6 : (64 : Int32).toInt = 64 := by decide
  have t7 : u5.toInt = ((64 : Int32)).toInt := by rw [hu5]; exact c_i2l (64 : Int32)
  have r8 := rng64 u5
  refine OGoal.mp (S' := (T1.setTop (mkF m 10 #[.val (.ref a)] [(.long ((2 : Int64) * u5))]))) (fun _ k => XT.lmul X2.here hx rfl (hb hby own_d_prog_52_method_4_code_9) rfl k) ?_
  obtain ⟨u9, hu9⟩ : ∃ z : Int64, z = ((2 : Int64) * u5) := ⟨_, rfl⟩
  rw [← hu9]
  have l10 : (2 : Int64).toInt = 2 := by decide
  have t11 : (u9.toInt - 2 * (u5).toInt) % 18446744073709551616 = 0 := by rw [hu9]; have q := c_lmul (2 : Int64) u5; rw [show (2 : Int64).toInt = 2 by decide] at q; exact q
  have r12 := rng64 u9
  refine OGoal.mp (S' := (T1.setTop (mkF m 11 #[.val (.ref a)] [(.ref a), (.long u9)]))) (fun _ k => XS.aloadN X2.here hx rfl (hb hby own_d_prog_52_method_4_code_10) rfl rfl k) ?_
  obtain ⟨T13, X14, e15, st16⟩ := getF X2 hx hZ hown (host := "") (Or.inl (hw _ (List.mem_of_getElem? (i := 9) rfl))) Via.refl e3 Fc (g := mkF m 11 #[.val (.ref a)] [(.ref a), (.long u9)]) rfl rfl (hb hby own_d_prog_52_method_4_code_11)
  refine OGoal.mp (S' := (T13.setTop (mkF m 14 #[.val (.ref a)] [(.int cv), (.long u9)]))) (fun _ k => st16 _ k) ?_
  refine OGoal.mp (S' := (T13.setTop (mkF m 15 #[.val (.ref a)] [(.long ((cv).toInt64)), (.long u9)]))) (fun _ k => XT.i2l X14.here hx rfl (hb hby own_d_prog_52_method_4_code_14) rfl k) ?_
  obtain ⟨u17, hu17⟩ : ∃ z : Int64, z = ((cv).toInt64) := ⟨_, rfl⟩
  rw [← hu17]
  have t18 : u17.toInt = (cv).toInt := by rw [hu17]; exact c_i2l cv
  have r19 := rng64 u17
  refine OGoal.mp (S' := (T13.setTop (mkF m 16 #[.val (.ref a)] [(.long (u9 * u17))]))) (fun _ k => XT.lmul X14.here hx rfl (hb hby own_d_prog_52_method_4_code_15) rfl k) ?_
  obtain ⟨u20, hu20⟩ : ∃ z : Int64, z = (u9 * u17) := ⟨_, rfl⟩
  rw [← hu20]
  have l21 : (128 : Int64).toInt = 128 := by decide
  have hk22 : u9 = (128 : Int64) := mEqL (by omega)
  have t23 : (u20.toInt - 128 * (u17).toInt) % 18446744073709551616 = 0 := by rw [hu20, hk22]; have q := c_lmul (128 : Int64) u17; rw [show (128 : Int64).toInt = 128 by decide] at q; exact q
  have r24 := rng64 u20
  refine OGoal.mp (S' := (T13.setTop (mkF m 19 #[.val (.ref a)] [(.long (2147483639 : Int64)), (.long u20)]))) (fun _ k => Stand.ldc2J X14 hx hown (mvT hZ (hw _ (List.mem_of_getElem? (i := 39) rfl))) rfl (hb hby own_d_prog_52_method_4_code_16) k) ?_
  refine OGoal.mp (S' := (T13.setTop (mkF m 20 #[.val (.ref a)] [(.int (XT.cmpL u20 (2147483639 : Int64)))]))) (fun _ k => XT.lcmp X14.here hx rfl (hb hby own_d_prog_52_method_4_code_19) rfl k) ?_
  by_cases hc25 : (2147483639 : Int64) < u20
  · refine OGoal.mp (S' := (T13.setTop (mkF m 27 #[.val (.ref a)] []))) (fun _ k => XS.ifYes X14.here hx rfl (pc0 := 20) (pc' := 27) rfl (hb hby own_d_prog_52_method_4_code_20) rfl (XT.ll_gt_t hc25) (by decide) (by decide) k) ?_
    refine OGoal.mp (S' := (T13.setTop (mkF m 28 #[.val (.ref a)] [(.int (0 : Int32))]))) (fun _ k => XS.iconst X14.here hx rfl (hb hby own_d_prog_52_method_4_code_27) k) ?_
    refine oRetZ X14 hx hlk hret (Or.inl rfl) (hb hby own_d_prog_52_method_4_code_28) ?_ (by decide) (by decide)
    have g26 := oLtL hc25
    have l3 : (2147483639 : Int64).toInt = 2147483639 := by decide
    have := rng32 cv
    exact ⟨by rw [if_neg (by omega)], (Fr.nil n0), e15⟩
  · refine OGoal.mp (S' := (T13.setTop (mkF m 23 #[.val (.ref a)] []))) (fun _ k => XS.ifNo X14.here hx rfl (hb hby own_d_prog_52_method_4_code_20) rfl (XT.ll_gt_f hc25) k) ?_
    refine OGoal.mp (S' := (T13.setTop (mkF m 24 #[.val (.ref a)] [(.int (1 : Int32))]))) (fun _ k => XS.iconst X14.here hx rfl (hb hby own_d_prog_52_method_4_code_23) k) ?_
    refine OGoal.mp (S' := (T13.setTop (mkF m 28 #[.val (.ref a)] [(.int (1 : Int32))]))) (fun _ k => XS.goto X14.here hx rfl (pc0 := 24) (pc' := 28) rfl (hb hby own_d_prog_52_method_4_code_24) (by decide) (by decide) k) ?_
    refine oRetZ X14 hx hlk hret (Or.inr rfl) (hb hby own_d_prog_52_method_4_code_28) ?_ (by decide) (by decide)
    have g27 := oNltL hc25
    have l3 : (2147483639 : Int64).toInt = 2147483639 := by decide
    have := rng32 cv
    exact ⟨by rw [if_pos (by omega)], (Fr.nil n0), e15⟩
theorem own_ef_rmC128 (x0 : Addr) (m : MethodId) : entryFrame m #[(.ref x0)] 1 = mkF m 0 #[.val (.ref x0)] [] := by first | (simp [entryFrame, mkF, argsToLocals, Value.category]; done) | rfl
set_option maxRecDepth 65536 in
set_option maxHeartbeats 40000000 in
theorem rmC128 (l : Launch) (Z : State) (a0 : Array Value) (hw : ∀ d ∈ tables_1, d.before a0 Z = true) (a : Addr) (h0 : Heap) (n0 : Nat) (Z0 : n0 ≤ h0.size) (cv : Int32) (d : Addr) (f : Nat → Value) (Fc : Fld Z h0 a "com/example/andesite/andesite/data/ValueCounts" "classValues" "I" (.int cv)) (Fv : Fld Z h0 a "com/example/andesite/andesite/data/ValueCounts" "slotValues" "[D" (.ref d)) (A : OArr Z h0 d .double (128 : Int32) f) :
    OCon l Z (⟨"com/example/andesite/andesite/data/ValueCounts", "canGrow", "()Z"⟩ : MethodName) prog_52_method_4_code 1 (some .boolean) ({ frames := 0, cells := 0, slots := 0, locals := 0 } : Room) #[(.ref a)] h0 (fun v h L => v = some (.int (if 256 * cv.toInt ≤ 2147483639 then (1 : Int32) else 0)) ∧ Fr n0 L ∧ h = h0) := by
  refine OConK.intro (y := (⟨"com/example/andesite/andesite/data/ValueCounts", "canGrow", "()Z"⟩ : MethodName)) (plainFor_of_name own_pn_com_example_andesite_andesite_data_ValueCounts) (own_ef_rmC128 a) ?_
  intro p e s m below meth c s₁ hx hby hml hown hnm hret hlk hZ X0 e0
  show OGoal p e below s _ _ _ (s₁.setTop (mkF m 0 #[.val (.ref a)] []))
  refine OGoal.mp (S' := (s₁.setTop (mkF m 3 #[.val (.ref a)] [(.long (2 : Int64))]))) (fun _ k => Stand.ldc2J X0 hx hown (mvT hZ (hw _ (List.mem_of_getElem? (i := 38) rfl))) rfl (hb hby own_d_prog_52_method_4_code_0) k) ?_
  refine OGoal.mp (S' := (s₁.setTop (mkF m 4 #[.val (.ref a)] [(.ref a), (.long (2 : Int64))]))) (fun _ k => XS.aloadN X0.here hx rfl (hb hby own_d_prog_52_method_4_code_3) rfl rfl k) ?_
  obtain ⟨T1, X2, e3, st4⟩ := getF X0 hx hZ hown (host := "") (Or.inl (hw _ (List.mem_of_getElem? (i := 16) rfl))) Via.refl e0 Fv (g := mkF m 4 #[.val (.ref a)] [(.ref a), (.long (2 : Int64))]) rfl rfl (hb hby own_d_prog_52_method_4_code_4)
  refine OGoal.mp (S' := (T1.setTop (mkF m 7 #[.val (.ref a)] [(.ref d), (.long (2 : Int64))]))) (fun _ k => st4 _ k) ?_
  refine OGoal.mp (S' := (T1.setTop (mkF m 8 #[.val (.ref a)] [(.int (128 : Int32)), (.long (2 : Int64))]))) (fun _ k => oLen X2 hx hZ e3 A (g := mkF m 7 #[.val (.ref a)] [(.ref d), (.long (2 : Int64))]) rfl rfl (hb hby own_d_prog_52_method_4_code_7) k) ?_
  refine OGoal.mp (S' := (T1.setTop (mkF m 9 #[.val (.ref a)] [(.long (((128 : Int32)).toInt64)), (.long (2 : Int64))]))) (fun _ k => XT.i2l X2.here hx rfl (hb hby own_d_prog_52_method_4_code_8) rfl k) ?_
  obtain ⟨u5, hu5⟩ : ∃ z : Int64, z = (((128 : Int32)).toInt64) := ⟨_, rfl⟩
  rw [← hu5]
  have l6 : (128 : Int32).toInt = 128 := by decide
  have t7 : u5.toInt = ((128 : Int32)).toInt := by rw [hu5]; exact c_i2l (128 : Int32)
  have r8 := rng64 u5
  refine OGoal.mp (S' := (T1.setTop (mkF m 10 #[.val (.ref a)] [(.long ((2 : Int64) * u5))]))) (fun _ k => XT.lmul X2.here hx rfl (hb hby own_d_prog_52_method_4_code_9) rfl k) ?_
  obtain ⟨u9, hu9⟩ : ∃ z : Int64, z = ((2 : Int64) * u5) := ⟨_, rfl⟩
  rw [← hu9]
  have l10 : (2 : Int64).toInt = 2 := by decide
  have t11 : (u9.toInt - 2 * (u5).toInt) % 18446744073709551616 = 0 := by rw [hu9]; have q := c_lmul (2 : Int64) u5; rw [show (2 : Int64).toInt = 2 by decide] at q; exact q
  have r12 := rng64 u9
  refine OGoal.mp (S' := (T1.setTop (mkF m 11 #[.val (.ref a)] [(.ref a), (.long u9)]))) (fun _ k => XS.aloadN X2.here hx rfl (hb hby own_d_prog_52_method_4_code_10) rfl rfl k) ?_
  obtain ⟨T13, X14, e15, st16⟩ := getF X2 hx hZ hown (host := "") (Or.inl (hw _ (List.mem_of_getElem? (i := 9) rfl))) Via.refl e3 Fc (g := mkF m 11 #[.val (.ref a)] [(.ref a), (.long u9)]) rfl rfl (hb hby own_d_prog_52_method_4_code_11)
  refine OGoal.mp (S' := (T13.setTop (mkF m 14 #[.val (.ref a)] [(.int cv), (.long u9)]))) (fun _ k => st16 _ k) ?_
  refine OGoal.mp (S' := (T13.setTop (mkF m 15 #[.val (.ref a)] [(.long ((cv).toInt64)), (.long u9)]))) (fun _ k => XT.i2l X14.here hx rfl (hb hby own_d_prog_52_method_4_code_14) rfl k) ?_
  obtain ⟨u17, hu17⟩ : ∃ z : Int64, z = ((cv).toInt64) := ⟨_, rfl⟩
  rw [← hu17]
  have t18 : u17.toInt = (cv).toInt := by rw [hu17]; exact c_i2l cv
  have r19 := rng64 u17
  refine OGoal.mp (S' := (T13.setTop (mkF m 16 #[.val (.ref a)] [(.long (u9 * u17))]))) (fun _ k => XT.lmul X14.here hx rfl (hb hby own_d_prog_52_method_4_code_15) rfl k) ?_
  obtain ⟨u20, hu20⟩ : ∃ z : Int64, z = (u9 * u17) := ⟨_, rfl⟩
  rw [← hu20]
  have l21 : (256 : Int64).toInt = 256 := by decide
  have hk22 : u9 = (256 : Int64) := mEqL (by omega)
  have t23 : (u20.toInt - 256 * (u17).toInt) % 18446744073709551616 = 0 := by rw [hu20, hk22]; have q := c_lmul (256 : Int64) u17; rw [show (256 : Int64).toInt = 256 by decide] at q; exact q
  have r24 := rng64 u20
  refine OGoal.mp (S' := (T13.setTop (mkF m 19 #[.val (.ref a)] [(.long (2147483639 : Int64)), (.long u20)]))) (fun _ k => Stand.ldc2J X14 hx hown (mvT hZ (hw _ (List.mem_of_getElem? (i := 39) rfl))) rfl (hb hby own_d_prog_52_method_4_code_16) k) ?_
  refine OGoal.mp (S' := (T13.setTop (mkF m 20 #[.val (.ref a)] [(.int (XT.cmpL u20 (2147483639 : Int64)))]))) (fun _ k => XT.lcmp X14.here hx rfl (hb hby own_d_prog_52_method_4_code_19) rfl k) ?_
  by_cases hc25 : (2147483639 : Int64) < u20
  · refine OGoal.mp (S' := (T13.setTop (mkF m 27 #[.val (.ref a)] []))) (fun _ k => XS.ifYes X14.here hx rfl (pc0 := 20) (pc' := 27) rfl (hb hby own_d_prog_52_method_4_code_20) rfl (XT.ll_gt_t hc25) (by decide) (by decide) k) ?_
    refine OGoal.mp (S' := (T13.setTop (mkF m 28 #[.val (.ref a)] [(.int (0 : Int32))]))) (fun _ k => XS.iconst X14.here hx rfl (hb hby own_d_prog_52_method_4_code_27) k) ?_
    refine oRetZ X14 hx hlk hret (Or.inl rfl) (hb hby own_d_prog_52_method_4_code_28) ?_ (by decide) (by decide)
    have g26 := oLtL hc25
    have l3 : (2147483639 : Int64).toInt = 2147483639 := by decide
    have := rng32 cv
    exact ⟨by rw [if_neg (by omega)], (Fr.nil n0), e15⟩
  · refine OGoal.mp (S' := (T13.setTop (mkF m 23 #[.val (.ref a)] []))) (fun _ k => XS.ifNo X14.here hx rfl (hb hby own_d_prog_52_method_4_code_20) rfl (XT.ll_gt_f hc25) k) ?_
    refine OGoal.mp (S' := (T13.setTop (mkF m 24 #[.val (.ref a)] [(.int (1 : Int32))]))) (fun _ k => XS.iconst X14.here hx rfl (hb hby own_d_prog_52_method_4_code_23) k) ?_
    refine OGoal.mp (S' := (T13.setTop (mkF m 28 #[.val (.ref a)] [(.int (1 : Int32))]))) (fun _ k => XS.goto X14.here hx rfl (pc0 := 24) (pc' := 28) rfl (hb hby own_d_prog_52_method_4_code_24) (by decide) (by decide) k) ?_
    refine oRetZ X14 hx hlk hret (Or.inr rfl) (hb hby own_d_prog_52_method_4_code_28) ?_ (by decide) (by decide)
    have g27 := oNltL hc25
    have l3 : (2147483639 : Int64).toInt = 2147483639 := by decide
    have := rng32 cv
    exact ⟨by rw [if_pos (by omega)], (Fr.nil n0), e15⟩
theorem own_d_prog_52_method_5_code_0 : decode prog_52_method_5_code 0 = .ok (.aload_n 0, 1) := by decide +kernel
theorem own_d_prog_52_method_5_code_1 : decode prog_52_method_5_code 1 = .ok (.invokevirtual 48, 3) := by decide +kernel
theorem own_pd___Z : parseMethodDescriptor "()Z" = some ⟨[], some .boolean⟩ := by decide +kernel
theorem own_d_prog_52_method_5_code_4 : decode prog_52_method_5_code 4 = .ok (.ifCond .ne 13, 3) := by decide +kernel
theorem own_d_prog_52_method_5_code_17 : decode prog_52_method_5_code 17 = .ok (.aload_n 0, 1) := by decide +kernel
theorem own_d_prog_52_method_5_code_18 : decode prog_52_method_5_code 18 = .ok (.getfield 23, 3) := by decide +kernel
theorem own_d_prog_52_method_5_code_21 : decode prog_52_method_5_code 21 = .ok (.astore_n 1, 1) := by decide +kernel
theorem own_d_prog_52_method_5_code_22 : decode prog_52_method_5_code 22 = .ok (.aload_n 0, 1) := by decide +kernel
theorem own_d_prog_52_method_5_code_23 : decode prog_52_method_5_code 23 = .ok (.getfield 36, 3) := by decide +kernel
theorem own_d_prog_52_method_5_code_26 : decode prog_52_method_5_code 26 = .ok (.astore_n 2, 1) := by decide +kernel
theorem own_d_prog_52_method_5_code_27 : decode prog_52_method_5_code 27 = .ok (.aload_n 0, 1) := by decide +kernel
theorem own_d_prog_52_method_5_code_28 : decode prog_52_method_5_code 28 = .ok (.iconst 2, 1) := by decide +kernel
theorem own_d_prog_52_method_5_code_29 : decode prog_52_method_5_code 29 = .ok (.aload_n 1, 1) := by decide +kernel
theorem own_d_prog_52_method_5_code_30 : decode prog_52_method_5_code 30 = .ok (.arraylength, 1) := by decide +kernel
theorem own_d_prog_52_method_5_code_31 : decode prog_52_method_5_code 31 = .ok (.imul, 1) := by decide +kernel
theorem own_d_prog_52_method_5_code_32 : decode prog_52_method_5_code 32 = .ok (.invokevirtual 15, 3) := by decide +kernel
theorem own_d_prog_52_method_5_code_35 : decode prog_52_method_5_code 35 = .ok (.aload_n 0, 1) := by decide +kernel
theorem own_d_prog_52_method_5_code_36 : decode prog_52_method_5_code 36 = .ok (.iconst 0, 1) := by decide +kernel
theorem own_d_prog_52_method_5_code_37 : decode prog_52_method_5_code 37 = .ok (.putfield 33, 3) := by decide +kernel
theorem own_d_prog_52_method_5_code_40 : decode prog_52_method_5_code 40 = .ok (.iconst 0, 1) := by decide +kernel
theorem own_d_prog_52_method_5_code_41 : decode prog_52_method_5_code 41 = .ok (.istore_n 3, 1) := by decide +kernel
theorem own_d_prog_52_method_5_code_42 : decode prog_52_method_5_code 42 = .ok (.iload_n 3, 1) := by decide +kernel
theorem own_d_prog_52_method_5_code_43 : decode prog_52_method_5_code 43 = .ok (.aload_n 1, 1) := by decide +kernel
theorem own_d_prog_52_method_5_code_44 : decode prog_52_method_5_code 44 = .ok (.arraylength, 1) := by decide +kernel
theorem own_d_prog_52_method_5_code_45 : decode prog_52_method_5_code 45 = .ok (.if_icmp .ge 72, 3) := by decide +kernel
theorem own_d_prog_52_method_5_code_117 : decode prog_52_method_5_code 117 = .ok (.return_, 1) := by decide +kernel
theorem own_d_prog_52_method_5_code_48 : decode prog_52_method_5_code 48 = .ok (.aload_n 1, 1) := by decide +kernel
theorem own_d_prog_52_method_5_code_49 : decode prog_52_method_5_code 49 = .ok (.iload_n 3, 1) := by decide +kernel
theorem own_d_prog_52_method_5_code_50 : decode prog_52_method_5_code 50 = .ok (.daload, 1) := by decide +kernel
theorem own_d_prog_52_method_5_code_51 : decode prog_52_method_5_code 51 = .ok (.invokestatic 27, 3) := by decide +kernel
theorem own_pd__D_Z : parseMethodDescriptor "(D)Z" = some ⟨[.double], some .boolean⟩ := by decide +kernel
theorem own_d_prog_52_method_5_code_54 : decode prog_52_method_5_code 54 = .ok (.ifCond .ne 57, 3) := by decide +kernel
theorem own_d_prog_52_method_5_code_111 : decode prog_52_method_5_code 111 = .ok (.iinc 3 1, 3) := by decide +kernel
theorem own_d_prog_52_method_5_code_114 : decode prog_52_method_5_code 114 = .ok (.goto (-72), 3) := by decide +kernel
theorem own_ef_rmG16 (x0 : Addr) (m : MethodId) : entryFrame m #[(.ref x0)] 5 = mkF m 0 #[.val (.ref x0), .unset, .unset, .unset, .unset] [] := by first | (simp [entryFrame, mkF, argsToLocals, Value.category]; done) | rfl
set_option maxRecDepth 65536 in
set_option maxHeartbeats 40000000 in
theorem rmG16 (l : Launch) (Z : State) (a0 : Array Value) (hw : ∀ d ∈ tables_1, d.before a0 Z = true) (a : Addr) (h0 : Heap) (n0 : Nat) (Z0 : n0 ≤ h0.size) (cv us sh : Int32) (d c' : Addr) (E : Exa Z h0 a "com/example/andesite/andesite/data/ValueCounts") (Fc : Fld Z h0 a "com/example/andesite/andesite/data/ValueCounts" "classValues" "I" (.int cv)) (Fv : Fld Z h0 a "com/example/andesite/andesite/data/ValueCounts" "slotValues" "[D" (.ref d)) (Fn : Fld Z h0 a "com/example/andesite/andesite/data/ValueCounts" "slotCounts" "[J" (.ref c')) (Fs : Fld Z h0 a "com/example/andesite/andesite/data/ValueCounts" "shift" "I" (.int sh)) (Fu : Fld Z h0 a "com/example/andesite/andesite/data/ValueCounts" "used" "I" (.int us)) (A : OArr Z h0 d .double (16 : Int32) (fun _ => .double (9221120237041090560 : UInt64))) (ab : n0 ≤ a) (nd : d ≠ a) (hg : 32 * cv.toInt ≤ 2147483639) (hs0 : 0 ≤ ((32 : Int32) * cv).toInt) (hs1 : ((32 : Int32) * cv).toInt ≤ 8160) :
    OCon l Z (⟨"com/example/andesite/andesite/data/ValueCounts", "grow", "()V"⟩ : MethodName) prog_52_method_5_code 5 none ({ frames := 2, cells := 2, slots := 8192, locals := 29 } : Room) #[(.ref a)] h0 (Q_vc Z a cv (32 : Int32) 0 h0 n0) := by
  refine OConK.intro (y := (⟨"com/example/andesite/andesite/data/ValueCounts", "grow", "()V"⟩ : MethodName)) (plainFor_of_name own_pn_com_example_andesite_andesite_data_ValueCounts) (own_ef_rmG16 a) ?_
  intro p e s m below meth c s₁ hx hby hml hown hnm hret hlk hZ X0 e0
  show OGoal p e below s _ _ _ (s₁.setTop (mkF m 0 #[.val (.ref a), .unset, .unset, .unset, .unset] []))
  refine OGoal.mp (S' := (s₁.setTop (mkF m 1 #[.val (.ref a), .unset, .unset, .unset, .unset] [(.ref a)]))) (fun _ k => XS.aloadN X0.here hx rfl (hb hby own_d_prog_52_method_5_code_0) rfl rfl k) ?_
  refine oCallV (y := (⟨"com/example/andesite/andesite/data/ValueCounts", "canGrow", "()Z"⟩ : MethodName)) (z := (⟨"com/example/andesite/andesite/data/ValueCounts", "canGrow", "()Z"⟩ : MethodName)) X0 hx hZ hown (hw _ (List.mem_of_getElem? (i := 45) rfl)) (hw _ (List.mem_of_getElem? (i := 34) rfl)) (hw _ (List.mem_of_getElem? (i := 36) rfl)) (hw _ (List.mem_of_getElem? (i := 35) rfl)) (hw _ (List.mem_of_getElem? (i := 2) rfl)) (hw _ (List.mem_of_getElem? (i := 37) rfl)) (by decide) (rmC16 l Z a0 hw a h0 n0 Z0 cv d _ Fc Fv A) e0 E [] [] rfl rfl (by rw [hml]; rfl) (notFace_of_selects (args := #[]) (mvT hZ (hw _ (List.mem_of_getElem? (i := 36) rfl)))) (lenOf own_pd___Z rfl) 0 (Nat.le_of_eq rfl) (by decide) (by decide) (by decide) (by decide) (hb hby own_d_prog_52_method_5_code_1) ?_
  intro v1 T2 L3 X4 q5
  obtain ⟨rfl, N6, e7⟩ := q5
  have N8 := Fr.app (Fr.nil n0) N6
  rw [if_pos hg]
  show OGoal p e below s _ _ _ (T2.setTop (mkF m 4 #[.val (.ref a), .unset, .unset, .unset, .unset] [(.int (1 : Int32))]))
  refine OGoal.mp (S' := (T2.setTop (mkF m 17 #[.val (.ref a), .unset, .unset, .unset, .unset] []))) (fun _ k => XS.ifYes X4.here hx rfl (pc0 := 4) (pc' := 17) rfl (hb hby own_d_prog_52_method_5_code_4) rfl (XT.i0_ne_t (by decide)) (by decide) (by decide) k) ?_
  refine OGoal.mp (S' := (T2.setTop (mkF m 18 #[.val (.ref a), .unset, .unset, .unset, .unset] [(.ref a)]))) (fun _ k => XS.aloadN X4.here hx rfl (hb hby own_d_prog_52_method_5_code_17) rfl rfl k) ?_
  obtain ⟨T9, X10, e11, st12⟩ := getF X4 hx hZ hown (host := "") (Or.inl (hw _ (List.mem_of_getElem? (i := 16) rfl))) Via.refl e7 Fv (g := mkF m 18 #[.val (.ref a), .unset, .unset, .unset, .unset] [(.ref a)]) rfl rfl (hb hby own_d_prog_52_method_5_code_18)
  refine OGoal.mp (S' := (T9.setTop (mkF m 21 #[.val (.ref a), .unset, .unset, .unset, .unset] [(.ref d)]))) (fun _ k => st12 _ k) ?_
  refine OGoal.mp (S' := (T9.setTop (mkF m 22 #[.val (.ref a), .val (.ref d), .unset, .unset, .unset] []))) (fun _ k => XS.astoreN X10.here hx rfl (hb hby own_d_prog_52_method_5_code_21) rfl rfl (l' := #[.val (.ref a), .val (.ref d), .unset, .unset, .unset]) rfl k) ?_
  refine OGoal.mp (S' := (T9.setTop (mkF m 23 #[.val (.ref a), .val (.ref d), .unset, .unset, .unset] [(.ref a)]))) (fun _ k => XS.aloadN X10.here hx rfl (hb hby own_d_prog_52_method_5_code_22) rfl rfl k) ?_
  obtain ⟨T13, X14, e15, st16⟩ := getF X10 hx hZ hown (host := "") (Or.inl (hw _ (List.mem_of_getElem? (i := 24) rfl))) Via.refl e11 Fn (g := mkF m 23 #[.val (.ref a), .val (.ref d), .unset, .unset, .unset] [(.ref a)]) rfl rfl (hb hby own_d_prog_52_method_5_code_23)
  refine OGoal.mp (S' := (T13.setTop (mkF m 26 #[.val (.ref a), .val (.ref d), .unset, .unset, .unset] [(.ref c')]))) (fun _ k => st16 _ k) ?_
  refine OGoal.mp (S' := (T13.setTop (mkF m 27 #[.val (.ref a), .val (.ref d), .val (.ref c'), .unset, .unset] []))) (fun _ k => XS.astoreN X14.here hx rfl (hb hby own_d_prog_52_method_5_code_26) rfl rfl (l' := #[.val (.ref a), .val (.ref d), .val (.ref c'), .unset, .unset]) rfl k) ?_
  refine OGoal.mp (S' := (T13.setTop (mkF m 28 #[.val (.ref a), .val (.ref d), .val (.ref c'), .unset, .unset] [(.ref a)]))) (fun _ k => XS.aloadN X14.here hx rfl (hb hby own_d_prog_52_method_5_code_27) rfl rfl k) ?_
  refine OGoal.mp (S' := (T13.setTop (mkF m 29 #[.val (.ref a), .val (.ref d), .val (.ref c'), .unset, .unset] [(.int (2 : Int32)), (.ref a)]))) (fun _ k => XS.iconst X14.here hx rfl (hb hby own_d_prog_52_method_5_code_28) k) ?_
  refine OGoal.mp (S' := (T13.setTop (mkF m 30 #[.val (.ref a), .val (.ref d), .val (.ref c'), .unset, .unset] [(.ref d), (.int (2 : Int32)), (.ref a)]))) (fun _ k => XS.aloadN X14.here hx rfl (hb hby own_d_prog_52_method_5_code_29) rfl rfl k) ?_
  refine OGoal.mp (S' := (T13.setTop (mkF m 31 #[.val (.ref a), .val (.ref d), .val (.ref c'), .unset, .unset] [(.int (16 : Int32)), (.int (2 : Int32)), (.ref a)]))) (fun _ k => oLen X14 hx hZ e15 A (g := mkF m 30 #[.val (.ref a), .val (.ref d), .val (.ref c'), .unset, .unset] [(.ref d), (.int (2 : Int32)), (.ref a)]) rfl rfl (hb hby own_d_prog_52_method_5_code_30) k) ?_
  refine OGoal.mp (S' := (T13.setTop (mkF m 32 #[.val (.ref a), .val (.ref d), .val (.ref c'), .unset, .unset] [(.int ((2 : Int32) * (16 : Int32))), (.ref a)]))) (fun _ k => XS.imul X14.here hx rfl (hb hby own_d_prog_52_method_5_code_31) rfl k) ?_
  rw [show ((2 : Int32) * (16 : Int32)) = (32 : Int32) by decide]
  show OGoal p e below s _ _ _ (T13.setTop (mkF m 32 #[.val (.ref a), .val (.ref d), .val (.ref c'), .unset, .unset] [(.int (32 : Int32)), (.ref a)]))
  refine oCallP (y := (⟨"com/example/andesite/andesite/data/ValueCounts", "allocate", "(I)V"⟩ : MethodName)) X14 hx hZ hown (hw _ (List.mem_of_getElem? (i := 11) rfl)) (hw _ (List.mem_of_getElem? (i := 1) rfl)) (hw _ (List.mem_of_getElem? (i := 12) rfl)) (hw _ (List.mem_of_getElem? (i := 13) rfl)) (hw _ (List.mem_of_getElem? (i := 2) rfl)) (hw _ (List.mem_of_getElem? (i := 14) rfl)) (by decide) (rmA32 l Z a0 hw a h0 n0 Z0 cv us sh _ _ E Fc Fv Fn Fs Fu ab hs0 hs1) e15 E [(.int (32 : Int32))] [] rfl rfl (by rw [hml]; rfl) (lenOf own_pd__I_V rfl) 0 (Nat.le_of_eq rfl) (by decide) (by decide) (by decide) (by decide) (hb hby own_d_prog_52_method_5_code_32) ?_
  intro v17 T18 L19 X20 q21
  obtain ⟨d22, c23, sh24, rfl, N25, E26, F29, F30, F31, F32, F33, A28, K27⟩ := q21
  have N34 := Fr.app N8 N25
  have nq35 := oNeA E26 (hw _ (List.mem_of_getElem? (i := 1) rfl)) A28
  have F36 := A.keep K27 (ninS nd nin0)
  have Z37 : n0 ≤ T18.heap.size := Nat.le_trans ab (Nat.le_of_lt E26.lt)
  have K38 : Keep h0 T18.heap [a] := (Keep.refl h0 [a]).trans K27 (allS (Or.inl (by simp)) all0)
  show OGoal p e below s _ _ _ (T18.setTop (mkF m 35 #[.val (.ref a), .val (.ref d), .val (.ref c'), .unset, .unset] []))
  refine OGoal.mp (S' := (T18.setTop (mkF m 36 #[.val (.ref a), .val (.ref d), .val (.ref c'), .unset, .unset] [(.ref a)]))) (fun _ k => XS.aloadN X20.here hx rfl (hb hby own_d_prog_52_method_5_code_35) rfl rfl k) ?_
  refine OGoal.mp (S' := (T18.setTop (mkF m 37 #[.val (.ref a), .val (.ref d), .val (.ref c'), .unset, .unset] [(.int (0 : Int32)), (.ref a)]))) (fun _ k => XS.iconst X20.here hx rfl (hb hby own_d_prog_52_method_5_code_36) k) ?_
  obtain ⟨T39, h43, X40, e41, W44, st42⟩ := putF X20 hx hZ hown (host := "") (Or.inl (hw _ (List.mem_of_getElem? (i := 46) rfl))) Via.refl rfl F33 E26 (Or.inl (hw _ (List.mem_of_getElem? (i := 47) rfl))) (hw _ (List.mem_of_getElem? (i := 1) rfl)) (ty := .int) (by decide) rfl rfl (g := mkF m 37 #[.val (.ref a), .val (.ref d), .val (.ref c'), .unset, .unset] [(.int (0 : Int32)), (.ref a)]) rfl rfl (hb hby own_d_prog_52_method_5_code_37)
  have N45 := Fr.snoc X40 N34 ab
  have Z46 : n0 ≤ h43.size := Nat.le_trans Z37 (Keep.of_wr W44).1
  have K47 : Keep h0 h43 [a] := K38.wr W44 (Or.inl (by simp))
  have F48 := E26.wr W44
  have F49 := A28.other W44 nq35.symm
  have F50 := F29.other W44 (Or.inr (slot_ne (a0 := a0) (C := "com/example/andesite/andesite/data/ValueCounts") (t := .int) (t' := .int) (Or.inr (hw _ (List.mem_of_getElem? (i := 10) rfl))) (Or.inl (hw _ (List.mem_of_getElem? (i := 47) rfl))) (by decide) (by decide) (by decide)))
  have F51 := F30.other W44 (Or.inr (slot_ne (a0 := a0) (C := "com/example/andesite/andesite/data/ValueCounts") (t := (.array .double)) (t' := .int) (Or.inl (hw _ (List.mem_of_getElem? (i := 17) rfl))) (Or.inl (hw _ (List.mem_of_getElem? (i := 47) rfl))) (by decide) (by decide) (by decide)))
  have F52 := F31.other W44 (Or.inr (slot_ne (a0 := a0) (C := "com/example/andesite/andesite/data/ValueCounts") (t := (.array .long)) (t' := .int) (Or.inl (hw _ (List.mem_of_getElem? (i := 25) rfl))) (Or.inl (hw _ (List.mem_of_getElem? (i := 47) rfl))) (by decide) (by decide) (by decide)))
  have F53 := F32.other W44 (Or.inr (slot_ne (a0 := a0) (C := "com/example/andesite/andesite/data/ValueCounts") (t := .int) (t' := .int) (Or.inl (hw _ (List.mem_of_getElem? (i := 32) rfl))) (Or.inl (hw _ (List.mem_of_getElem? (i := 47) rfl))) (by decide) (by decide) (by decide)))
  have F54 := F33.same W44
  have F55 := F36.other W44 nd
  refine OGoal.mp (S' := (T39.setTop (mkF m 40 #[.val (.ref a), .val (.ref d), .val (.ref c'), .unset, .unset] []))) (fun _ k => st42 _ k) ?_
  refine OGoal.mp (S' := (T39.setTop (mkF m 41 #[.val (.ref a), .val (.ref d), .val (.ref c'), .unset, .unset] [(.int (0 : Int32))]))) (fun _ k => XS.iconst X40.here hx rfl (hb hby own_d_prog_52_method_5_code_40) k) ?_
  refine OGoal.mp (S' := (T39.setTop (mkF m 42 #[.val (.ref a), .val (.ref d), .val (.ref c'), .val (.int (0 : Int32)), .unset] []))) (fun _ k => XS.istoreN X40.here hx rfl (hb hby own_d_prog_52_method_5_code_41) rfl (l' := #[.val (.ref a), .val (.ref d), .val (.ref c'), .val (.int (0 : Int32)), .unset]) rfl k) ?_
  have loop : ∀ (k : Nat) (i : Int32) (T : State) (locs : List Loc), Stand p l e ({ frames := 2, cells := 2, slots := 8192, locals := 29 } : Room) s m #[(.ref a)] below meth c T locs 2 8192 → T.heap = h43 → Fr n0 locs → 0 ≤ i.toInt → i.toInt + k = 16 → OGoal p e below s (Q_vc Z a cv (32 : Int32) 0 h0 n0) 2 8192 (T.setTop (mkF m 42 #[.val (.ref a), .val (.ref d), .val (.ref c'), .val (.int i), .unset] [])) := by
    intro k
    induction k with
    | zero =>
      intro i T locs X eT N hi hk
      have lN : (16 : Int32).toInt = 16 := by decide
      have := rng32 i
      refine OGoal.mp (S' := (T.setTop (mkF m 43 #[.val (.ref a), .val (.ref d), .val (.ref c'), .val (.int i), .unset] [(.int i)]))) (fun _ k => XS.iloadN X.here hx rfl (hb hby own_d_prog_52_method_5_code_42) rfl k) ?_
      refine OGoal.mp (S' := (T.setTop (mkF m 44 #[.val (.ref a), .val (.ref d), .val (.ref c'), .val (.int i), .unset] [(.ref d), (.int i)]))) (fun _ k => XS.aloadN X.here hx rfl (hb hby own_d_prog_52_method_5_code_43) rfl rfl k) ?_
      refine OGoal.mp (S' := (T.setTop (mkF m 45 #[.val (.ref a), .val (.ref d), .val (.ref c'), .val (.int i), .unset] [(.int (16 : Int32)), (.int i)]))) (fun _ k => oLen X hx hZ eT F55 (g := mkF m 44 #[.val (.ref a), .val (.ref d), .val (.ref c'), .val (.int i), .unset] [(.ref d), (.int i)]) rfl rfl (hb hby own_d_prog_52_method_5_code_44) k) ?_
      refine OGoal.mp (S' := (T.setTop (mkF m 117 #[.val (.ref a), .val (.ref d), .val (.ref c'), .val (.int i), .unset] []))) (fun _ k => XS.icmpYes X.here hx rfl (pc0 := 45) (pc' := 117) rfl (hb hby own_d_prog_52_method_5_code_45) rfl (XT.ii_ge_t (mNlt (by omega))) (by decide) (by decide) k) ?_
      refine oRetV X hx hlk hret (hb hby own_d_prog_52_method_5_code_117) ?_ (by decide) (by decide)
      rw [eT]
      exact ⟨_, _, _, rfl, N, F48, F50, F51, F52, F53, F54, F49, K47⟩
    | succ k ih =>
      intro i T locs X eT N hi hk
      have lN : (16 : Int32).toInt = 16 := by decide
      have := rng32 i
      refine OGoal.mp (S' := (T.setTop (mkF m 43 #[.val (.ref a), .val (.ref d), .val (.ref c'), .val (.int i), .unset] [(.int i)]))) (fun _ k => XS.iloadN X.here hx rfl (hb hby own_d_prog_52_method_5_code_42) rfl k) ?_
      refine OGoal.mp (S' := (T.setTop (mkF m 44 #[.val (.ref a), .val (.ref d), .val (.ref c'), .val (.int i), .unset] [(.ref d), (.int i)]))) (fun _ k => XS.aloadN X.here hx rfl (hb hby own_d_prog_52_method_5_code_43) rfl rfl k) ?_
      refine OGoal.mp (S' := (T.setTop (mkF m 45 #[.val (.ref a), .val (.ref d), .val (.ref c'), .val (.int i), .unset] [(.int (16 : Int32)), (.int i)]))) (fun _ k => oLen X hx hZ eT F55 (g := mkF m 44 #[.val (.ref a), .val (.ref d), .val (.ref c'), .val (.int i), .unset] [(.ref d), (.int i)]) rfl rfl (hb hby own_d_prog_52_method_5_code_44) k) ?_
      refine OGoal.mp (S' := (T.setTop (mkF m 48 #[.val (.ref a), .val (.ref d), .val (.ref c'), .val (.int i), .unset] []))) (fun _ k => XS.icmpNo X.here hx rfl (hb hby own_d_prog_52_method_5_code_45) rfl (XT.ii_ge_f (mLt (by omega))) k) ?_
      refine OGoal.mp (S' := (T.setTop (mkF m 49 #[.val (.ref a), .val (.ref d), .val (.ref c'), .val (.int i), .unset] [(.ref d)]))) (fun _ k => XS.aloadN X.here hx rfl (hb hby own_d_prog_52_method_5_code_48) rfl rfl k) ?_
      refine OGoal.mp (S' := (T.setTop (mkF m 50 #[.val (.ref a), .val (.ref d), .val (.ref c'), .val (.int i), .unset] [(.int i), (.ref d)]))) (fun _ k => XS.iloadN X.here hx rfl (hb hby own_d_prog_52_method_5_code_49) rfl k) ?_
      refine OGoal.mp (S' := (T.setTop (mkF m 51 #[.val (.ref a), .val (.ref d), .val (.ref c'), .val (.int i), .unset] [(.double (9221120237041090560 : UInt64))]))) (fun _ k => oLdD X hx hZ eT F55 hi (by omega) rfl (g := mkF m 50 #[.val (.ref a), .val (.ref d), .val (.ref c'), .val (.int i), .unset] [(.int i), (.ref d)]) rfl rfl (hb hby own_d_prog_52_method_5_code_50) k) ?_
      refine oCallS (y := (⟨"java/lang/Double", "isNaN", "(D)Z"⟩ : MethodName)) X hx hZ hown (hw _ (List.mem_of_getElem? (i := 48) rfl)) (hw _ (List.mem_of_getElem? (i := 49) rfl)) (hw _ (List.mem_of_getElem? (i := 50) rfl)) (hw _ (List.mem_of_getElem? (i := 51) rfl)) (by decide) (rmN l Z a0 hw h43 n0 Z46) eT [(.double (9221120237041090560 : UInt64))] [] rfl rfl (by rw [hml]; rfl) (lenOf own_pd__D_Z rfl) 0 (Nat.le_of_eq rfl) (by decide) (by decide) (by decide) (by decide) (hb hby own_d_prog_52_method_5_code_51) ?_
      intro v56 T57 L58 X59 q60
      obtain ⟨rfl, N61, e62⟩ := q60
      have N63 := Fr.app N N61
      show OGoal p e below s _ _ _ (T57.setTop (mkF m 54 #[.val (.ref a), .val (.ref d), .val (.ref c'), .val (.int i), .unset] [(.int (1 : Int32))]))
      refine OGoal.mp (S' := (T57.setTop (mkF m 111 #[.val (.ref a), .val (.ref d), .val (.ref c'), .val (.int i), .unset] []))) (fun _ k => XS.ifYes X59.here hx rfl (pc0 := 54) (pc' := 111) rfl (hb hby own_d_prog_52_method_5_code_54) rfl (XT.i0_ne_t (by decide)) (by decide) (by decide) k) ?_
      refine OGoal.mp (S' := (T57.setTop (mkF m 114 #[.val (.ref a), .val (.ref d), .val (.ref c'), .val (.int (i + (1 : Int32))), .unset] []))) (fun _ k => XT.iincV X59.here hx rfl (1 : Int32) (hb hby own_d_prog_52_method_5_code_111) rfl rfl (l' := #[.val (.ref a), .val (.ref d), .val (.ref c'), .val (.int (i + (1 : Int32))), .unset]) rfl k) ?_
      refine OGoal.mp (S' := (T57.setTop (mkF m 42 #[.val (.ref a), .val (.ref d), .val (.ref c'), .val (.int (i + (1 : Int32))), .unset] []))) (fun _ k => XS.goto X59.here hx rfl (pc0 := 114) (pc' := 42) rfl (hb hby own_d_prog_52_method_5_code_114) (by decide) (by decide) k) ?_
      have e1 : ((i + (1 : Int32))).toInt = i.toInt + 1 := by rw [XT.add32 (by rw [show (1 : Int32).toInt = 1 by decide]; exact ⟨by omega, by omega⟩)]; rfl
      exact ih ((i + (1 : Int32))) T57 _ X59 e62 N63 (by omega) (by omega)
  exact loop 16 0 T39 _ X40 e41 N45 (by decide) (by decide)
theorem own_ef_rmG32 (x0 : Addr) (m : MethodId) : entryFrame m #[(.ref x0)] 5 = mkF m 0 #[.val (.ref x0), .unset, .unset, .unset, .unset] [] := by first | (simp [entryFrame, mkF, argsToLocals, Value.category]; done) | rfl
set_option maxRecDepth 65536 in
set_option maxHeartbeats 40000000 in
theorem rmG32 (l : Launch) (Z : State) (a0 : Array Value) (hw : ∀ d ∈ tables_1, d.before a0 Z = true) (a : Addr) (h0 : Heap) (n0 : Nat) (Z0 : n0 ≤ h0.size) (cv us sh : Int32) (d c' : Addr) (E : Exa Z h0 a "com/example/andesite/andesite/data/ValueCounts") (Fc : Fld Z h0 a "com/example/andesite/andesite/data/ValueCounts" "classValues" "I" (.int cv)) (Fv : Fld Z h0 a "com/example/andesite/andesite/data/ValueCounts" "slotValues" "[D" (.ref d)) (Fn : Fld Z h0 a "com/example/andesite/andesite/data/ValueCounts" "slotCounts" "[J" (.ref c')) (Fs : Fld Z h0 a "com/example/andesite/andesite/data/ValueCounts" "shift" "I" (.int sh)) (Fu : Fld Z h0 a "com/example/andesite/andesite/data/ValueCounts" "used" "I" (.int us)) (A : OArr Z h0 d .double (32 : Int32) (fun _ => .double (9221120237041090560 : UInt64))) (ab : n0 ≤ a) (nd : d ≠ a) (hg : 64 * cv.toInt ≤ 2147483639) (hs0 : 0 ≤ ((64 : Int32) * cv).toInt) (hs1 : ((64 : Int32) * cv).toInt ≤ 16320) :
    OCon l Z (⟨"com/example/andesite/andesite/data/ValueCounts", "grow", "()V"⟩ : MethodName) prog_52_method_5_code 5 none ({ frames := 2, cells := 2, slots := 16384, locals := 29 } : Room) #[(.ref a)] h0 (Q_vc Z a cv (64 : Int32) 0 h0 n0) := by
  refine OConK.intro (y := (⟨"com/example/andesite/andesite/data/ValueCounts", "grow", "()V"⟩ : MethodName)) (plainFor_of_name own_pn_com_example_andesite_andesite_data_ValueCounts) (own_ef_rmG32 a) ?_
  intro p e s m below meth c s₁ hx hby hml hown hnm hret hlk hZ X0 e0
  show OGoal p e below s _ _ _ (s₁.setTop (mkF m 0 #[.val (.ref a), .unset, .unset, .unset, .unset] []))
  refine OGoal.mp (S' := (s₁.setTop (mkF m 1 #[.val (.ref a), .unset, .unset, .unset, .unset] [(.ref a)]))) (fun _ k => XS.aloadN X0.here hx rfl (hb hby own_d_prog_52_method_5_code_0) rfl rfl k) ?_
  refine oCallV (y := (⟨"com/example/andesite/andesite/data/ValueCounts", "canGrow", "()Z"⟩ : MethodName)) (z := (⟨"com/example/andesite/andesite/data/ValueCounts", "canGrow", "()Z"⟩ : MethodName)) X0 hx hZ hown (hw _ (List.mem_of_getElem? (i := 45) rfl)) (hw _ (List.mem_of_getElem? (i := 34) rfl)) (hw _ (List.mem_of_getElem? (i := 36) rfl)) (hw _ (List.mem_of_getElem? (i := 35) rfl)) (hw _ (List.mem_of_getElem? (i := 2) rfl)) (hw _ (List.mem_of_getElem? (i := 37) rfl)) (by decide) (rmC32 l Z a0 hw a h0 n0 Z0 cv d _ Fc Fv A) e0 E [] [] rfl rfl (by rw [hml]; rfl) (notFace_of_selects (args := #[]) (mvT hZ (hw _ (List.mem_of_getElem? (i := 36) rfl)))) (lenOf own_pd___Z rfl) 0 (Nat.le_of_eq rfl) (by decide) (by decide) (by decide) (by decide) (hb hby own_d_prog_52_method_5_code_1) ?_
  intro v1 T2 L3 X4 q5
  obtain ⟨rfl, N6, e7⟩ := q5
  have N8 := Fr.app (Fr.nil n0) N6
  rw [if_pos hg]
  show OGoal p e below s _ _ _ (T2.setTop (mkF m 4 #[.val (.ref a), .unset, .unset, .unset, .unset] [(.int (1 : Int32))]))
  refine OGoal.mp (S' := (T2.setTop (mkF m 17 #[.val (.ref a), .unset, .unset, .unset, .unset] []))) (fun _ k => XS.ifYes X4.here hx rfl (pc0 := 4) (pc' := 17) rfl (hb hby own_d_prog_52_method_5_code_4) rfl (XT.i0_ne_t (by decide)) (by decide) (by decide) k) ?_
  refine OGoal.mp (S' := (T2.setTop (mkF m 18 #[.val (.ref a), .unset, .unset, .unset, .unset] [(.ref a)]))) (fun _ k => XS.aloadN X4.here hx rfl (hb hby own_d_prog_52_method_5_code_17) rfl rfl k) ?_
  obtain ⟨T9, X10, e11, st12⟩ := getF X4 hx hZ hown (host := "") (Or.inl (hw _ (List.mem_of_getElem? (i := 16) rfl))) Via.refl e7 Fv (g := mkF m 18 #[.val (.ref a), .unset, .unset, .unset, .unset] [(.ref a)]) rfl rfl (hb hby own_d_prog_52_method_5_code_18)
  refine OGoal.mp (S' := (T9.setTop (mkF m 21 #[.val (.ref a), .unset, .unset, .unset, .unset] [(.ref d)]))) (fun _ k => st12 _ k) ?_
  refine OGoal.mp (S' := (T9.setTop (mkF m 22 #[.val (.ref a), .val (.ref d), .unset, .unset, .unset] []))) (fun _ k => XS.astoreN X10.here hx rfl (hb hby own_d_prog_52_method_5_code_21) rfl rfl (l' := #[.val (.ref a), .val (.ref d), .unset, .unset, .unset]) rfl k) ?_
  refine OGoal.mp (S' := (T9.setTop (mkF m 23 #[.val (.ref a), .val (.ref d), .unset, .unset, .unset] [(.ref a)]))) (fun _ k => XS.aloadN X10.here hx rfl (hb hby own_d_prog_52_method_5_code_22) rfl rfl k) ?_
  obtain ⟨T13, X14, e15, st16⟩ := getF X10 hx hZ hown (host := "") (Or.inl (hw _ (List.mem_of_getElem? (i := 24) rfl))) Via.refl e11 Fn (g := mkF m 23 #[.val (.ref a), .val (.ref d), .unset, .unset, .unset] [(.ref a)]) rfl rfl (hb hby own_d_prog_52_method_5_code_23)
  refine OGoal.mp (S' := (T13.setTop (mkF m 26 #[.val (.ref a), .val (.ref d), .unset, .unset, .unset] [(.ref c')]))) (fun _ k => st16 _ k) ?_
  refine OGoal.mp (S' := (T13.setTop (mkF m 27 #[.val (.ref a), .val (.ref d), .val (.ref c'), .unset, .unset] []))) (fun _ k => XS.astoreN X14.here hx rfl (hb hby own_d_prog_52_method_5_code_26) rfl rfl (l' := #[.val (.ref a), .val (.ref d), .val (.ref c'), .unset, .unset]) rfl k) ?_
  refine OGoal.mp (S' := (T13.setTop (mkF m 28 #[.val (.ref a), .val (.ref d), .val (.ref c'), .unset, .unset] [(.ref a)]))) (fun _ k => XS.aloadN X14.here hx rfl (hb hby own_d_prog_52_method_5_code_27) rfl rfl k) ?_
  refine OGoal.mp (S' := (T13.setTop (mkF m 29 #[.val (.ref a), .val (.ref d), .val (.ref c'), .unset, .unset] [(.int (2 : Int32)), (.ref a)]))) (fun _ k => XS.iconst X14.here hx rfl (hb hby own_d_prog_52_method_5_code_28) k) ?_
  refine OGoal.mp (S' := (T13.setTop (mkF m 30 #[.val (.ref a), .val (.ref d), .val (.ref c'), .unset, .unset] [(.ref d), (.int (2 : Int32)), (.ref a)]))) (fun _ k => XS.aloadN X14.here hx rfl (hb hby own_d_prog_52_method_5_code_29) rfl rfl k) ?_
  refine OGoal.mp (S' := (T13.setTop (mkF m 31 #[.val (.ref a), .val (.ref d), .val (.ref c'), .unset, .unset] [(.int (32 : Int32)), (.int (2 : Int32)), (.ref a)]))) (fun _ k => oLen X14 hx hZ e15 A (g := mkF m 30 #[.val (.ref a), .val (.ref d), .val (.ref c'), .unset, .unset] [(.ref d), (.int (2 : Int32)), (.ref a)]) rfl rfl (hb hby own_d_prog_52_method_5_code_30) k) ?_
  refine OGoal.mp (S' := (T13.setTop (mkF m 32 #[.val (.ref a), .val (.ref d), .val (.ref c'), .unset, .unset] [(.int ((2 : Int32) * (32 : Int32))), (.ref a)]))) (fun _ k => XS.imul X14.here hx rfl (hb hby own_d_prog_52_method_5_code_31) rfl k) ?_
  rw [show ((2 : Int32) * (32 : Int32)) = (64 : Int32) by decide]
  show OGoal p e below s _ _ _ (T13.setTop (mkF m 32 #[.val (.ref a), .val (.ref d), .val (.ref c'), .unset, .unset] [(.int (64 : Int32)), (.ref a)]))
  refine oCallP (y := (⟨"com/example/andesite/andesite/data/ValueCounts", "allocate", "(I)V"⟩ : MethodName)) X14 hx hZ hown (hw _ (List.mem_of_getElem? (i := 11) rfl)) (hw _ (List.mem_of_getElem? (i := 1) rfl)) (hw _ (List.mem_of_getElem? (i := 12) rfl)) (hw _ (List.mem_of_getElem? (i := 13) rfl)) (hw _ (List.mem_of_getElem? (i := 2) rfl)) (hw _ (List.mem_of_getElem? (i := 14) rfl)) (by decide) (rmA64 l Z a0 hw a h0 n0 Z0 cv us sh _ _ E Fc Fv Fn Fs Fu ab hs0 hs1) e15 E [(.int (64 : Int32))] [] rfl rfl (by rw [hml]; rfl) (lenOf own_pd__I_V rfl) 0 (Nat.le_of_eq rfl) (by decide) (by decide) (by decide) (by decide) (hb hby own_d_prog_52_method_5_code_32) ?_
  intro v17 T18 L19 X20 q21
  obtain ⟨d22, c23, sh24, rfl, N25, E26, F29, F30, F31, F32, F33, A28, K27⟩ := q21
  have N34 := Fr.app N8 N25
  have nq35 := oNeA E26 (hw _ (List.mem_of_getElem? (i := 1) rfl)) A28
  have F36 := A.keep K27 (ninS nd nin0)
  have Z37 : n0 ≤ T18.heap.size := Nat.le_trans ab (Nat.le_of_lt E26.lt)
  have K38 : Keep h0 T18.heap [a] := (Keep.refl h0 [a]).trans K27 (allS (Or.inl (by simp)) all0)
  show OGoal p e below s _ _ _ (T18.setTop (mkF m 35 #[.val (.ref a), .val (.ref d), .val (.ref c'), .unset, .unset] []))
  refine OGoal.mp (S' := (T18.setTop (mkF m 36 #[.val (.ref a), .val (.ref d), .val (.ref c'), .unset, .unset] [(.ref a)]))) (fun _ k => XS.aloadN X20.here hx rfl (hb hby own_d_prog_52_method_5_code_35) rfl rfl k) ?_
  refine OGoal.mp (S' := (T18.setTop (mkF m 37 #[.val (.ref a), .val (.ref d), .val (.ref c'), .unset, .unset] [(.int (0 : Int32)), (.ref a)]))) (fun _ k => XS.iconst X20.here hx rfl (hb hby own_d_prog_52_method_5_code_36) k) ?_
  obtain ⟨T39, h43, X40, e41, W44, st42⟩ := putF X20 hx hZ hown (host := "") (Or.inl (hw _ (List.mem_of_getElem? (i := 46) rfl))) Via.refl rfl F33 E26 (Or.inl (hw _ (List.mem_of_getElem? (i := 47) rfl))) (hw _ (List.mem_of_getElem? (i := 1) rfl)) (ty := .int) (by decide) rfl rfl (g := mkF m 37 #[.val (.ref a), .val (.ref d), .val (.ref c'), .unset, .unset] [(.int (0 : Int32)), (.ref a)]) rfl rfl (hb hby own_d_prog_52_method_5_code_37)
  have N45 := Fr.snoc X40 N34 ab
  have Z46 : n0 ≤ h43.size := Nat.le_trans Z37 (Keep.of_wr W44).1
  have K47 : Keep h0 h43 [a] := K38.wr W44 (Or.inl (by simp))
  have F48 := E26.wr W44
  have F49 := A28.other W44 nq35.symm
  have F50 := F29.other W44 (Or.inr (slot_ne (a0 := a0) (C := "com/example/andesite/andesite/data/ValueCounts") (t := .int) (t' := .int) (Or.inr (hw _ (List.mem_of_getElem? (i := 10) rfl))) (Or.inl (hw _ (List.mem_of_getElem? (i := 47) rfl))) (by decide) (by decide) (by decide)))
  have F51 := F30.other W44 (Or.inr (slot_ne (a0 := a0) (C := "com/example/andesite/andesite/data/ValueCounts") (t := (.array .double)) (t' := .int) (Or.inl (hw _ (List.mem_of_getElem? (i := 17) rfl))) (Or.inl (hw _ (List.mem_of_getElem? (i := 47) rfl))) (by decide) (by decide) (by decide)))
  have F52 := F31.other W44 (Or.inr (slot_ne (a0 := a0) (C := "com/example/andesite/andesite/data/ValueCounts") (t := (.array .long)) (t' := .int) (Or.inl (hw _ (List.mem_of_getElem? (i := 25) rfl))) (Or.inl (hw _ (List.mem_of_getElem? (i := 47) rfl))) (by decide) (by decide) (by decide)))
  have F53 := F32.other W44 (Or.inr (slot_ne (a0 := a0) (C := "com/example/andesite/andesite/data/ValueCounts") (t := .int) (t' := .int) (Or.inl (hw _ (List.mem_of_getElem? (i := 32) rfl))) (Or.inl (hw _ (List.mem_of_getElem? (i := 47) rfl))) (by decide) (by decide) (by decide)))
  have F54 := F33.same W44
  have F55 := F36.other W44 nd
  refine OGoal.mp (S' := (T39.setTop (mkF m 40 #[.val (.ref a), .val (.ref d), .val (.ref c'), .unset, .unset] []))) (fun _ k => st42 _ k) ?_
  refine OGoal.mp (S' := (T39.setTop (mkF m 41 #[.val (.ref a), .val (.ref d), .val (.ref c'), .unset, .unset] [(.int (0 : Int32))]))) (fun _ k => XS.iconst X40.here hx rfl (hb hby own_d_prog_52_method_5_code_40) k) ?_
  refine OGoal.mp (S' := (T39.setTop (mkF m 42 #[.val (.ref a), .val (.ref d), .val (.ref c'), .val (.int (0 : Int32)), .unset] []))) (fun _ k => XS.istoreN X40.here hx rfl (hb hby own_d_prog_52_method_5_code_41) rfl (l' := #[.val (.ref a), .val (.ref d), .val (.ref c'), .val (.int (0 : Int32)), .unset]) rfl k) ?_
  have loop : ∀ (k : Nat) (i : Int32) (T : State) (locs : List Loc), Stand p l e ({ frames := 2, cells := 2, slots := 16384, locals := 29 } : Room) s m #[(.ref a)] below meth c T locs 2 16384 → T.heap = h43 → Fr n0 locs → 0 ≤ i.toInt → i.toInt + k = 32 → OGoal p e below s (Q_vc Z a cv (64 : Int32) 0 h0 n0) 2 16384 (T.setTop (mkF m 42 #[.val (.ref a), .val (.ref d), .val (.ref c'), .val (.int i), .unset] [])) := by
    intro k
    induction k with
    | zero =>
      intro i T locs X eT N hi hk
      have lN : (32 : Int32).toInt = 32 := by decide
      have := rng32 i
      refine OGoal.mp (S' := (T.setTop (mkF m 43 #[.val (.ref a), .val (.ref d), .val (.ref c'), .val (.int i), .unset] [(.int i)]))) (fun _ k => XS.iloadN X.here hx rfl (hb hby own_d_prog_52_method_5_code_42) rfl k) ?_
      refine OGoal.mp (S' := (T.setTop (mkF m 44 #[.val (.ref a), .val (.ref d), .val (.ref c'), .val (.int i), .unset] [(.ref d), (.int i)]))) (fun _ k => XS.aloadN X.here hx rfl (hb hby own_d_prog_52_method_5_code_43) rfl rfl k) ?_
      refine OGoal.mp (S' := (T.setTop (mkF m 45 #[.val (.ref a), .val (.ref d), .val (.ref c'), .val (.int i), .unset] [(.int (32 : Int32)), (.int i)]))) (fun _ k => oLen X hx hZ eT F55 (g := mkF m 44 #[.val (.ref a), .val (.ref d), .val (.ref c'), .val (.int i), .unset] [(.ref d), (.int i)]) rfl rfl (hb hby own_d_prog_52_method_5_code_44) k) ?_
      refine OGoal.mp (S' := (T.setTop (mkF m 117 #[.val (.ref a), .val (.ref d), .val (.ref c'), .val (.int i), .unset] []))) (fun _ k => XS.icmpYes X.here hx rfl (pc0 := 45) (pc' := 117) rfl (hb hby own_d_prog_52_method_5_code_45) rfl (XT.ii_ge_t (mNlt (by omega))) (by decide) (by decide) k) ?_
      refine oRetV X hx hlk hret (hb hby own_d_prog_52_method_5_code_117) ?_ (by decide) (by decide)
      rw [eT]
      exact ⟨_, _, _, rfl, N, F48, F50, F51, F52, F53, F54, F49, K47⟩
    | succ k ih =>
      intro i T locs X eT N hi hk
      have lN : (32 : Int32).toInt = 32 := by decide
      have := rng32 i
      refine OGoal.mp (S' := (T.setTop (mkF m 43 #[.val (.ref a), .val (.ref d), .val (.ref c'), .val (.int i), .unset] [(.int i)]))) (fun _ k => XS.iloadN X.here hx rfl (hb hby own_d_prog_52_method_5_code_42) rfl k) ?_
      refine OGoal.mp (S' := (T.setTop (mkF m 44 #[.val (.ref a), .val (.ref d), .val (.ref c'), .val (.int i), .unset] [(.ref d), (.int i)]))) (fun _ k => XS.aloadN X.here hx rfl (hb hby own_d_prog_52_method_5_code_43) rfl rfl k) ?_
      refine OGoal.mp (S' := (T.setTop (mkF m 45 #[.val (.ref a), .val (.ref d), .val (.ref c'), .val (.int i), .unset] [(.int (32 : Int32)), (.int i)]))) (fun _ k => oLen X hx hZ eT F55 (g := mkF m 44 #[.val (.ref a), .val (.ref d), .val (.ref c'), .val (.int i), .unset] [(.ref d), (.int i)]) rfl rfl (hb hby own_d_prog_52_method_5_code_44) k) ?_
      refine OGoal.mp (S' := (T.setTop (mkF m 48 #[.val (.ref a), .val (.ref d), .val (.ref c'), .val (.int i), .unset] []))) (fun _ k => XS.icmpNo X.here hx rfl (hb hby own_d_prog_52_method_5_code_45) rfl (XT.ii_ge_f (mLt (by omega))) k) ?_
      refine OGoal.mp (S' := (T.setTop (mkF m 49 #[.val (.ref a), .val (.ref d), .val (.ref c'), .val (.int i), .unset] [(.ref d)]))) (fun _ k => XS.aloadN X.here hx rfl (hb hby own_d_prog_52_method_5_code_48) rfl rfl k) ?_
      refine OGoal.mp (S' := (T.setTop (mkF m 50 #[.val (.ref a), .val (.ref d), .val (.ref c'), .val (.int i), .unset] [(.int i), (.ref d)]))) (fun _ k => XS.iloadN X.here hx rfl (hb hby own_d_prog_52_method_5_code_49) rfl k) ?_
      refine OGoal.mp (S' := (T.setTop (mkF m 51 #[.val (.ref a), .val (.ref d), .val (.ref c'), .val (.int i), .unset] [(.double (9221120237041090560 : UInt64))]))) (fun _ k => oLdD X hx hZ eT F55 hi (by omega) rfl (g := mkF m 50 #[.val (.ref a), .val (.ref d), .val (.ref c'), .val (.int i), .unset] [(.int i), (.ref d)]) rfl rfl (hb hby own_d_prog_52_method_5_code_50) k) ?_
      refine oCallS (y := (⟨"java/lang/Double", "isNaN", "(D)Z"⟩ : MethodName)) X hx hZ hown (hw _ (List.mem_of_getElem? (i := 48) rfl)) (hw _ (List.mem_of_getElem? (i := 49) rfl)) (hw _ (List.mem_of_getElem? (i := 50) rfl)) (hw _ (List.mem_of_getElem? (i := 51) rfl)) (by decide) (rmN l Z a0 hw h43 n0 Z46) eT [(.double (9221120237041090560 : UInt64))] [] rfl rfl (by rw [hml]; rfl) (lenOf own_pd__D_Z rfl) 0 (Nat.le_of_eq rfl) (by decide) (by decide) (by decide) (by decide) (hb hby own_d_prog_52_method_5_code_51) ?_
      intro v56 T57 L58 X59 q60
      obtain ⟨rfl, N61, e62⟩ := q60
      have N63 := Fr.app N N61
      show OGoal p e below s _ _ _ (T57.setTop (mkF m 54 #[.val (.ref a), .val (.ref d), .val (.ref c'), .val (.int i), .unset] [(.int (1 : Int32))]))
      refine OGoal.mp (S' := (T57.setTop (mkF m 111 #[.val (.ref a), .val (.ref d), .val (.ref c'), .val (.int i), .unset] []))) (fun _ k => XS.ifYes X59.here hx rfl (pc0 := 54) (pc' := 111) rfl (hb hby own_d_prog_52_method_5_code_54) rfl (XT.i0_ne_t (by decide)) (by decide) (by decide) k) ?_
      refine OGoal.mp (S' := (T57.setTop (mkF m 114 #[.val (.ref a), .val (.ref d), .val (.ref c'), .val (.int (i + (1 : Int32))), .unset] []))) (fun _ k => XT.iincV X59.here hx rfl (1 : Int32) (hb hby own_d_prog_52_method_5_code_111) rfl rfl (l' := #[.val (.ref a), .val (.ref d), .val (.ref c'), .val (.int (i + (1 : Int32))), .unset]) rfl k) ?_
      refine OGoal.mp (S' := (T57.setTop (mkF m 42 #[.val (.ref a), .val (.ref d), .val (.ref c'), .val (.int (i + (1 : Int32))), .unset] []))) (fun _ k => XS.goto X59.here hx rfl (pc0 := 114) (pc' := 42) rfl (hb hby own_d_prog_52_method_5_code_114) (by decide) (by decide) k) ?_
      have e1 : ((i + (1 : Int32))).toInt = i.toInt + 1 := by rw [XT.add32 (by rw [show (1 : Int32).toInt = 1 by decide]; exact ⟨by omega, by omega⟩)]; rfl
      exact ih ((i + (1 : Int32))) T57 _ X59 e62 N63 (by omega) (by omega)
  exact loop 32 0 T39 _ X40 e41 N45 (by decide) (by decide)
theorem own_ef_rmG64 (x0 : Addr) (m : MethodId) : entryFrame m #[(.ref x0)] 5 = mkF m 0 #[.val (.ref x0), .unset, .unset, .unset, .unset] [] := by first | (simp [entryFrame, mkF, argsToLocals, Value.category]; done) | rfl
set_option maxRecDepth 65536 in
set_option maxHeartbeats 40000000 in
theorem rmG64 (l : Launch) (Z : State) (a0 : Array Value) (hw : ∀ d ∈ tables_1, d.before a0 Z = true) (a : Addr) (h0 : Heap) (n0 : Nat) (Z0 : n0 ≤ h0.size) (cv us sh : Int32) (d c' : Addr) (E : Exa Z h0 a "com/example/andesite/andesite/data/ValueCounts") (Fc : Fld Z h0 a "com/example/andesite/andesite/data/ValueCounts" "classValues" "I" (.int cv)) (Fv : Fld Z h0 a "com/example/andesite/andesite/data/ValueCounts" "slotValues" "[D" (.ref d)) (Fn : Fld Z h0 a "com/example/andesite/andesite/data/ValueCounts" "slotCounts" "[J" (.ref c')) (Fs : Fld Z h0 a "com/example/andesite/andesite/data/ValueCounts" "shift" "I" (.int sh)) (Fu : Fld Z h0 a "com/example/andesite/andesite/data/ValueCounts" "used" "I" (.int us)) (A : OArr Z h0 d .double (64 : Int32) (fun _ => .double (9221120237041090560 : UInt64))) (ab : n0 ≤ a) (nd : d ≠ a) (hg : 128 * cv.toInt ≤ 2147483639) (hs0 : 0 ≤ ((128 : Int32) * cv).toInt) (hs1 : ((128 : Int32) * cv).toInt ≤ 32640) :
    OCon l Z (⟨"com/example/andesite/andesite/data/ValueCounts", "grow", "()V"⟩ : MethodName) prog_52_method_5_code 5 none ({ frames := 2, cells := 2, slots := 32768, locals := 29 } : Room) #[(.ref a)] h0 (Q_vc Z a cv (128 : Int32) 0 h0 n0) := by
  refine OConK.intro (y := (⟨"com/example/andesite/andesite/data/ValueCounts", "grow", "()V"⟩ : MethodName)) (plainFor_of_name own_pn_com_example_andesite_andesite_data_ValueCounts) (own_ef_rmG64 a) ?_
  intro p e s m below meth c s₁ hx hby hml hown hnm hret hlk hZ X0 e0
  show OGoal p e below s _ _ _ (s₁.setTop (mkF m 0 #[.val (.ref a), .unset, .unset, .unset, .unset] []))
  refine OGoal.mp (S' := (s₁.setTop (mkF m 1 #[.val (.ref a), .unset, .unset, .unset, .unset] [(.ref a)]))) (fun _ k => XS.aloadN X0.here hx rfl (hb hby own_d_prog_52_method_5_code_0) rfl rfl k) ?_
  refine oCallV (y := (⟨"com/example/andesite/andesite/data/ValueCounts", "canGrow", "()Z"⟩ : MethodName)) (z := (⟨"com/example/andesite/andesite/data/ValueCounts", "canGrow", "()Z"⟩ : MethodName)) X0 hx hZ hown (hw _ (List.mem_of_getElem? (i := 45) rfl)) (hw _ (List.mem_of_getElem? (i := 34) rfl)) (hw _ (List.mem_of_getElem? (i := 36) rfl)) (hw _ (List.mem_of_getElem? (i := 35) rfl)) (hw _ (List.mem_of_getElem? (i := 2) rfl)) (hw _ (List.mem_of_getElem? (i := 37) rfl)) (by decide) (rmC64 l Z a0 hw a h0 n0 Z0 cv d _ Fc Fv A) e0 E [] [] rfl rfl (by rw [hml]; rfl) (notFace_of_selects (args := #[]) (mvT hZ (hw _ (List.mem_of_getElem? (i := 36) rfl)))) (lenOf own_pd___Z rfl) 0 (Nat.le_of_eq rfl) (by decide) (by decide) (by decide) (by decide) (hb hby own_d_prog_52_method_5_code_1) ?_
  intro v1 T2 L3 X4 q5
  obtain ⟨rfl, N6, e7⟩ := q5
  have N8 := Fr.app (Fr.nil n0) N6
  rw [if_pos hg]
  show OGoal p e below s _ _ _ (T2.setTop (mkF m 4 #[.val (.ref a), .unset, .unset, .unset, .unset] [(.int (1 : Int32))]))
  refine OGoal.mp (S' := (T2.setTop (mkF m 17 #[.val (.ref a), .unset, .unset, .unset, .unset] []))) (fun _ k => XS.ifYes X4.here hx rfl (pc0 := 4) (pc' := 17) rfl (hb hby own_d_prog_52_method_5_code_4) rfl (XT.i0_ne_t (by decide)) (by decide) (by decide) k) ?_
  refine OGoal.mp (S' := (T2.setTop (mkF m 18 #[.val (.ref a), .unset, .unset, .unset, .unset] [(.ref a)]))) (fun _ k => XS.aloadN X4.here hx rfl (hb hby own_d_prog_52_method_5_code_17) rfl rfl k) ?_
  obtain ⟨T9, X10, e11, st12⟩ := getF X4 hx hZ hown (host := "") (Or.inl (hw _ (List.mem_of_getElem? (i := 16) rfl))) Via.refl e7 Fv (g := mkF m 18 #[.val (.ref a), .unset, .unset, .unset, .unset] [(.ref a)]) rfl rfl (hb hby own_d_prog_52_method_5_code_18)
  refine OGoal.mp (S' := (T9.setTop (mkF m 21 #[.val (.ref a), .unset, .unset, .unset, .unset] [(.ref d)]))) (fun _ k => st12 _ k) ?_
  refine OGoal.mp (S' := (T9.setTop (mkF m 22 #[.val (.ref a), .val (.ref d), .unset, .unset, .unset] []))) (fun _ k => XS.astoreN X10.here hx rfl (hb hby own_d_prog_52_method_5_code_21) rfl rfl (l' := #[.val (.ref a), .val (.ref d), .unset, .unset, .unset]) rfl k) ?_
  refine OGoal.mp (S' := (T9.setTop (mkF m 23 #[.val (.ref a), .val (.ref d), .unset, .unset, .unset] [(.ref a)]))) (fun _ k => XS.aloadN X10.here hx rfl (hb hby own_d_prog_52_method_5_code_22) rfl rfl k) ?_
  obtain ⟨T13, X14, e15, st16⟩ := getF X10 hx hZ hown (host := "") (Or.inl (hw _ (List.mem_of_getElem? (i := 24) rfl))) Via.refl e11 Fn (g := mkF m 23 #[.val (.ref a), .val (.ref d), .unset, .unset, .unset] [(.ref a)]) rfl rfl (hb hby own_d_prog_52_method_5_code_23)
  refine OGoal.mp (S' := (T13.setTop (mkF m 26 #[.val (.ref a), .val (.ref d), .unset, .unset, .unset] [(.ref c')]))) (fun _ k => st16 _ k) ?_
  refine OGoal.mp (S' := (T13.setTop (mkF m 27 #[.val (.ref a), .val (.ref d), .val (.ref c'), .unset, .unset] []))) (fun _ k => XS.astoreN X14.here hx rfl (hb hby own_d_prog_52_method_5_code_26) rfl rfl (l' := #[.val (.ref a), .val (.ref d), .val (.ref c'), .unset, .unset]) rfl k) ?_
  refine OGoal.mp (S' := (T13.setTop (mkF m 28 #[.val (.ref a), .val (.ref d), .val (.ref c'), .unset, .unset] [(.ref a)]))) (fun _ k => XS.aloadN X14.here hx rfl (hb hby own_d_prog_52_method_5_code_27) rfl rfl k) ?_
  refine OGoal.mp (S' := (T13.setTop (mkF m 29 #[.val (.ref a), .val (.ref d), .val (.ref c'), .unset, .unset] [(.int (2 : Int32)), (.ref a)]))) (fun _ k => XS.iconst X14.here hx rfl (hb hby own_d_prog_52_method_5_code_28) k) ?_
  refine OGoal.mp (S' := (T13.setTop (mkF m 30 #[.val (.ref a), .val (.ref d), .val (.ref c'), .unset, .unset] [(.ref d), (.int (2 : Int32)), (.ref a)]))) (fun _ k => XS.aloadN X14.here hx rfl (hb hby own_d_prog_52_method_5_code_29) rfl rfl k) ?_
  refine OGoal.mp (S' := (T13.setTop (mkF m 31 #[.val (.ref a), .val (.ref d), .val (.ref c'), .unset, .unset] [(.int (64 : Int32)), (.int (2 : Int32)), (.ref a)]))) (fun _ k => oLen X14 hx hZ e15 A (g := mkF m 30 #[.val (.ref a), .val (.ref d), .val (.ref c'), .unset, .unset] [(.ref d), (.int (2 : Int32)), (.ref a)]) rfl rfl (hb hby own_d_prog_52_method_5_code_30) k) ?_
  refine OGoal.mp (S' := (T13.setTop (mkF m 32 #[.val (.ref a), .val (.ref d), .val (.ref c'), .unset, .unset] [(.int ((2 : Int32) * (64 : Int32))), (.ref a)]))) (fun _ k => XS.imul X14.here hx rfl (hb hby own_d_prog_52_method_5_code_31) rfl k) ?_
  rw [show ((2 : Int32) * (64 : Int32)) = (128 : Int32) by decide]
  show OGoal p e below s _ _ _ (T13.setTop (mkF m 32 #[.val (.ref a), .val (.ref d), .val (.ref c'), .unset, .unset] [(.int (128 : Int32)), (.ref a)]))
  refine oCallP (y := (⟨"com/example/andesite/andesite/data/ValueCounts", "allocate", "(I)V"⟩ : MethodName)) X14 hx hZ hown (hw _ (List.mem_of_getElem? (i := 11) rfl)) (hw _ (List.mem_of_getElem? (i := 1) rfl)) (hw _ (List.mem_of_getElem? (i := 12) rfl)) (hw _ (List.mem_of_getElem? (i := 13) rfl)) (hw _ (List.mem_of_getElem? (i := 2) rfl)) (hw _ (List.mem_of_getElem? (i := 14) rfl)) (by decide) (rmA128 l Z a0 hw a h0 n0 Z0 cv us sh _ _ E Fc Fv Fn Fs Fu ab hs0 hs1) e15 E [(.int (128 : Int32))] [] rfl rfl (by rw [hml]; rfl) (lenOf own_pd__I_V rfl) 0 (Nat.le_of_eq rfl) (by decide) (by decide) (by decide) (by decide) (hb hby own_d_prog_52_method_5_code_32) ?_
  intro v17 T18 L19 X20 q21
  obtain ⟨d22, c23, sh24, rfl, N25, E26, F29, F30, F31, F32, F33, A28, K27⟩ := q21
  have N34 := Fr.app N8 N25
  have nq35 := oNeA E26 (hw _ (List.mem_of_getElem? (i := 1) rfl)) A28
  have F36 := A.keep K27 (ninS nd nin0)
  have Z37 : n0 ≤ T18.heap.size := Nat.le_trans ab (Nat.le_of_lt E26.lt)
  have K38 : Keep h0 T18.heap [a] := (Keep.refl h0 [a]).trans K27 (allS (Or.inl (by simp)) all0)
  show OGoal p e below s _ _ _ (T18.setTop (mkF m 35 #[.val (.ref a), .val (.ref d), .val (.ref c'), .unset, .unset] []))
  refine OGoal.mp (S' := (T18.setTop (mkF m 36 #[.val (.ref a), .val (.ref d), .val (.ref c'), .unset, .unset] [(.ref a)]))) (fun _ k => XS.aloadN X20.here hx rfl (hb hby own_d_prog_52_method_5_code_35) rfl rfl k) ?_
  refine OGoal.mp (S' := (T18.setTop (mkF m 37 #[.val (.ref a), .val (.ref d), .val (.ref c'), .unset, .unset] [(.int (0 : Int32)), (.ref a)]))) (fun _ k => XS.iconst X20.here hx rfl (hb hby own_d_prog_52_method_5_code_36) k) ?_
  obtain ⟨T39, h43, X40, e41, W44, st42⟩ := putF X20 hx hZ hown (host := "") (Or.inl (hw _ (List.mem_of_getElem? (i := 46) rfl))) Via.refl rfl F33 E26 (Or.inl (hw _ (List.mem_of_getElem? (i := 47) rfl))) (hw _ (List.mem_of_getElem? (i := 1) rfl)) (ty := .int) (by decide) rfl rfl (g := mkF m 37 #[.val (.ref a), .val (.ref d), .val (.ref c'), .unset, .unset] [(.int (0 : Int32)), (.ref a)]) rfl rfl (hb hby own_d_prog_52_method_5_code_37)
  have N45 := Fr.snoc X40 N34 ab
  have Z46 : n0 ≤ h43.size := Nat.le_trans Z37 (Keep.of_wr W44).1
  have K47 : Keep h0 h43 [a] := K38.wr W44 (Or.inl (by simp))
  have F48 := E26.wr W44
  have F49 := A28.other W44 nq35.symm
  have F50 := F29.other W44 (Or.inr (slot_ne (a0 := a0) (C := "com/example/andesite/andesite/data/ValueCounts") (t := .int) (t' := .int) (Or.inr (hw _ (List.mem_of_getElem? (i := 10) rfl))) (Or.inl (hw _ (List.mem_of_getElem? (i := 47) rfl))) (by decide) (by decide) (by decide)))
  have F51 := F30.other W44 (Or.inr (slot_ne (a0 := a0) (C := "com/example/andesite/andesite/data/ValueCounts") (t := (.array .double)) (t' := .int) (Or.inl (hw _ (List.mem_of_getElem? (i := 17) rfl))) (Or.inl (hw _ (List.mem_of_getElem? (i := 47) rfl))) (by decide) (by decide) (by decide)))
  have F52 := F31.other W44 (Or.inr (slot_ne (a0 := a0) (C := "com/example/andesite/andesite/data/ValueCounts") (t := (.array .long)) (t' := .int) (Or.inl (hw _ (List.mem_of_getElem? (i := 25) rfl))) (Or.inl (hw _ (List.mem_of_getElem? (i := 47) rfl))) (by decide) (by decide) (by decide)))
  have F53 := F32.other W44 (Or.inr (slot_ne (a0 := a0) (C := "com/example/andesite/andesite/data/ValueCounts") (t := .int) (t' := .int) (Or.inl (hw _ (List.mem_of_getElem? (i := 32) rfl))) (Or.inl (hw _ (List.mem_of_getElem? (i := 47) rfl))) (by decide) (by decide) (by decide)))
  have F54 := F33.same W44
  have F55 := F36.other W44 nd
  refine OGoal.mp (S' := (T39.setTop (mkF m 40 #[.val (.ref a), .val (.ref d), .val (.ref c'), .unset, .unset] []))) (fun _ k => st42 _ k) ?_
  refine OGoal.mp (S' := (T39.setTop (mkF m 41 #[.val (.ref a), .val (.ref d), .val (.ref c'), .unset, .unset] [(.int (0 : Int32))]))) (fun _ k => XS.iconst X40.here hx rfl (hb hby own_d_prog_52_method_5_code_40) k) ?_
  refine OGoal.mp (S' := (T39.setTop (mkF m 42 #[.val (.ref a), .val (.ref d), .val (.ref c'), .val (.int (0 : Int32)), .unset] []))) (fun _ k => XS.istoreN X40.here hx rfl (hb hby own_d_prog_52_method_5_code_41) rfl (l' := #[.val (.ref a), .val (.ref d), .val (.ref c'), .val (.int (0 : Int32)), .unset]) rfl k) ?_
  have loop : ∀ (k : Nat) (i : Int32) (T : State) (locs : List Loc), Stand p l e ({ frames := 2, cells := 2, slots := 32768, locals := 29 } : Room) s m #[(.ref a)] below meth c T locs 2 32768 → T.heap = h43 → Fr n0 locs → 0 ≤ i.toInt → i.toInt + k = 64 → OGoal p e below s (Q_vc Z a cv (128 : Int32) 0 h0 n0) 2 32768 (T.setTop (mkF m 42 #[.val (.ref a), .val (.ref d), .val (.ref c'), .val (.int i), .unset] [])) := by
    intro k
    induction k with
    | zero =>
      intro i T locs X eT N hi hk
      have lN : (64 : Int32).toInt = 64 := by decide
      have := rng32 i
      refine OGoal.mp (S' := (T.setTop (mkF m 43 #[.val (.ref a), .val (.ref d), .val (.ref c'), .val (.int i), .unset] [(.int i)]))) (fun _ k => XS.iloadN X.here hx rfl (hb hby own_d_prog_52_method_5_code_42) rfl k) ?_
      refine OGoal.mp (S' := (T.setTop (mkF m 44 #[.val (.ref a), .val (.ref d), .val (.ref c'), .val (.int i), .unset] [(.ref d), (.int i)]))) (fun _ k => XS.aloadN X.here hx rfl (hb hby own_d_prog_52_method_5_code_43) rfl rfl k) ?_
      refine OGoal.mp (S' := (T.setTop (mkF m 45 #[.val (.ref a), .val (.ref d), .val (.ref c'), .val (.int i), .unset] [(.int (64 : Int32)), (.int i)]))) (fun _ k => oLen X hx hZ eT F55 (g := mkF m 44 #[.val (.ref a), .val (.ref d), .val (.ref c'), .val (.int i), .unset] [(.ref d), (.int i)]) rfl rfl (hb hby own_d_prog_52_method_5_code_44) k) ?_
      refine OGoal.mp (S' := (T.setTop (mkF m 117 #[.val (.ref a), .val (.ref d), .val (.ref c'), .val (.int i), .unset] []))) (fun _ k => XS.icmpYes X.here hx rfl (pc0 := 45) (pc' := 117) rfl (hb hby own_d_prog_52_method_5_code_45) rfl (XT.ii_ge_t (mNlt (by omega))) (by decide) (by decide) k) ?_
      refine oRetV X hx hlk hret (hb hby own_d_prog_52_method_5_code_117) ?_ (by decide) (by decide)
      rw [eT]
      exact ⟨_, _, _, rfl, N, F48, F50, F51, F52, F53, F54, F49, K47⟩
    | succ k ih =>
      intro i T locs X eT N hi hk
      have lN : (64 : Int32).toInt = 64 := by decide
      have := rng32 i
      refine OGoal.mp (S' := (T.setTop (mkF m 43 #[.val (.ref a), .val (.ref d), .val (.ref c'), .val (.int i), .unset] [(.int i)]))) (fun _ k => XS.iloadN X.here hx rfl (hb hby own_d_prog_52_method_5_code_42) rfl k) ?_
      refine OGoal.mp (S' := (T.setTop (mkF m 44 #[.val (.ref a), .val (.ref d), .val (.ref c'), .val (.int i), .unset] [(.ref d), (.int i)]))) (fun _ k => XS.aloadN X.here hx rfl (hb hby own_d_prog_52_method_5_code_43) rfl rfl k) ?_
      refine OGoal.mp (S' := (T.setTop (mkF m 45 #[.val (.ref a), .val (.ref d), .val (.ref c'), .val (.int i), .unset] [(.int (64 : Int32)), (.int i)]))) (fun _ k => oLen X hx hZ eT F55 (g := mkF m 44 #[.val (.ref a), .val (.ref d), .val (.ref c'), .val (.int i), .unset] [(.ref d), (.int i)]) rfl rfl (hb hby own_d_prog_52_method_5_code_44) k) ?_
      refine OGoal.mp (S' := (T.setTop (mkF m 48 #[.val (.ref a), .val (.ref d), .val (.ref c'), .val (.int i), .unset] []))) (fun _ k => XS.icmpNo X.here hx rfl (hb hby own_d_prog_52_method_5_code_45) rfl (XT.ii_ge_f (mLt (by omega))) k) ?_
      refine OGoal.mp (S' := (T.setTop (mkF m 49 #[.val (.ref a), .val (.ref d), .val (.ref c'), .val (.int i), .unset] [(.ref d)]))) (fun _ k => XS.aloadN X.here hx rfl (hb hby own_d_prog_52_method_5_code_48) rfl rfl k) ?_
      refine OGoal.mp (S' := (T.setTop (mkF m 50 #[.val (.ref a), .val (.ref d), .val (.ref c'), .val (.int i), .unset] [(.int i), (.ref d)]))) (fun _ k => XS.iloadN X.here hx rfl (hb hby own_d_prog_52_method_5_code_49) rfl k) ?_
      refine OGoal.mp (S' := (T.setTop (mkF m 51 #[.val (.ref a), .val (.ref d), .val (.ref c'), .val (.int i), .unset] [(.double (9221120237041090560 : UInt64))]))) (fun _ k => oLdD X hx hZ eT F55 hi (by omega) rfl (g := mkF m 50 #[.val (.ref a), .val (.ref d), .val (.ref c'), .val (.int i), .unset] [(.int i), (.ref d)]) rfl rfl (hb hby own_d_prog_52_method_5_code_50) k) ?_
      refine oCallS (y := (⟨"java/lang/Double", "isNaN", "(D)Z"⟩ : MethodName)) X hx hZ hown (hw _ (List.mem_of_getElem? (i := 48) rfl)) (hw _ (List.mem_of_getElem? (i := 49) rfl)) (hw _ (List.mem_of_getElem? (i := 50) rfl)) (hw _ (List.mem_of_getElem? (i := 51) rfl)) (by decide) (rmN l Z a0 hw h43 n0 Z46) eT [(.double (9221120237041090560 : UInt64))] [] rfl rfl (by rw [hml]; rfl) (lenOf own_pd__D_Z rfl) 0 (Nat.le_of_eq rfl) (by decide) (by decide) (by decide) (by decide) (hb hby own_d_prog_52_method_5_code_51) ?_
      intro v56 T57 L58 X59 q60
      obtain ⟨rfl, N61, e62⟩ := q60
      have N63 := Fr.app N N61
      show OGoal p e below s _ _ _ (T57.setTop (mkF m 54 #[.val (.ref a), .val (.ref d), .val (.ref c'), .val (.int i), .unset] [(.int (1 : Int32))]))
      refine OGoal.mp (S' := (T57.setTop (mkF m 111 #[.val (.ref a), .val (.ref d), .val (.ref c'), .val (.int i), .unset] []))) (fun _ k => XS.ifYes X59.here hx rfl (pc0 := 54) (pc' := 111) rfl (hb hby own_d_prog_52_method_5_code_54) rfl (XT.i0_ne_t (by decide)) (by decide) (by decide) k) ?_
      refine OGoal.mp (S' := (T57.setTop (mkF m 114 #[.val (.ref a), .val (.ref d), .val (.ref c'), .val (.int (i + (1 : Int32))), .unset] []))) (fun _ k => XT.iincV X59.here hx rfl (1 : Int32) (hb hby own_d_prog_52_method_5_code_111) rfl rfl (l' := #[.val (.ref a), .val (.ref d), .val (.ref c'), .val (.int (i + (1 : Int32))), .unset]) rfl k) ?_
      refine OGoal.mp (S' := (T57.setTop (mkF m 42 #[.val (.ref a), .val (.ref d), .val (.ref c'), .val (.int (i + (1 : Int32))), .unset] []))) (fun _ k => XS.goto X59.here hx rfl (pc0 := 114) (pc' := 42) rfl (hb hby own_d_prog_52_method_5_code_114) (by decide) (by decide) k) ?_
      have e1 : ((i + (1 : Int32))).toInt = i.toInt + 1 := by rw [XT.add32 (by rw [show (1 : Int32).toInt = 1 by decide]; exact ⟨by omega, by omega⟩)]; rfl
      exact ih ((i + (1 : Int32))) T57 _ X59 e62 N63 (by omega) (by omega)
  exact loop 64 0 T39 _ X40 e41 N45 (by decide) (by decide)
theorem own_pd___V : parseMethodDescriptor "()V" = some ⟨[], none⟩ := by decide +kernel
theorem own_pn_com_example_andesite_andesite_data_ValueCountsCanGrowPinLaw : plainName "com/example/andesite/andesite/data/ValueCountsCanGrowPinLaw" = true := by first | (simp [plainName, overriddenIn]; done) | decide +kernel
theorem own_ef_rm0 (x0 : Int32) (x1 : Int32) (x2 : Int32) (m : MethodId) : entryFrame m #[(.int x0), (.int x1), (.int x2)] maxLocals = mkF m 0 #[.val (.int x0), .val (.int x1), .val (.int x2), .unset, .unset, .unset, .unset, .unset, .unset] [] := by first | (simp [entryFrame, mkF, argsToLocals, Value.category, maxLocals]; done) | rfl
set_option maxRecDepth 65536 in
set_option maxHeartbeats 40000000 in
theorem rm0 (l : Launch) (Z : State) (a0 : Array Value) (hw : ∀ d ∈ tables_1, d.before a0 Z = true) (p1 p2 p3 : Int32) (h0 : Heap) (n0 : Nat) (Z0 : n0 ≤ h0.size)  :
    OConK l Z x code maxLocals ret room_1 32 123008 #[(.int p1), (.int p2), (.int p3)] h0 (fun v h L => v = some (.int 1) ∧ Fr n0 L) := by
  refine OConK.intro (y := x) (plainFor_of_name own_pn_com_example_andesite_andesite_data_ValueCountsCanGrowPinLaw) (own_ef_rm0 p1 p2 p3) ?_
  intro p e s m below meth c s₁ hx hby hml hown hnm hret hlk hZ X0 e0
  have := rng32 p1
  have := rng32 p2
  have := rng32 p3
  have l1 : (0 : Int32).toInt = 0 := by decide
  have l2 : (1 : Int32).toInt = 1 := by decide
  have l3 : (2 : Int32).toInt = 2 := by decide
  have l4 : (3 : Int32).toInt = 3 := by decide
  have l5 : (8 : Int32).toInt = 8 := by decide
  have l6 : (15 : Int32).toInt = 15 := by decide
  have l7 : (28 : Int32).toInt = 28 := by decide
  have l8 : (255 : Int32).toInt = 255 := by decide
  show OGoal p e below s _ _ _ (s₁.setTop (mkF m 0 #[.val (.int p1), .val (.int p2), .val (.int p3), .unset, .unset, .unset, .unset, .unset, .unset] []))
  refine OGoal.mp (S' := (s₁.setTop (mkF m 1 #[.val (.int p1), .val (.int p2), .val (.int p3), .unset, .unset, .unset, .unset, .unset, .unset] [(.int p1)]))) (fun _ k => XS.iloadN X0.here hx rfl (hb hby at_0) rfl k) ?_
  refine OGoal.mp (S' := (s₁.setTop (mkF m 4 #[.val (.int p1), .val (.int p2), .val (.int p3), .unset, .unset, .unset, .unset, .unset, .unset] [(.int (255 : Int32)), (.int p1)]))) (fun _ k => XS.sipush X0.here hx rfl (hb hby at_1) k) ?_
  refine OGoal.mp (S' := (s₁.setTop (mkF m 5 #[.val (.int p1), .val (.int p2), .val (.int p3), .unset, .unset, .unset, .unset, .unset, .unset] [(.int (p1 &&& (255 : Int32)))]))) (fun _ k => XS.iand X0.here hx rfl (hb hby at_4) rfl k) ?_
  obtain ⟨u9, hu9⟩ : ∃ z : Int32, z = (p1 &&& (255 : Int32)) := ⟨_, rfl⟩
  rw [← hu9]
  have t10 : u9.toInt = (p1).toInt % 256 := by rw [hu9]; exact c_mask p1 (255 : Int32) 8 (by decide) (by decide)
  have r11 := rng32 u9
  refine OGoal.mp (S' := (s₁.setTop (mkF m 6 #[.val (.int p1), .val (.int p2), .val (.int p3), .val (.int u9), .unset, .unset, .unset, .unset, .unset] []))) (fun _ k => XS.istoreN X0.here hx rfl (hb hby at_5) rfl (l' := #[.val (.int p1), .val (.int p2), .val (.int p3), .val (.int u9), .unset, .unset, .unset, .unset, .unset]) rfl k) ?_
  refine OGoal.mp (S' := (s₁.setTop (mkF m 7 #[.val (.int p1), .val (.int p2), .val (.int p3), .val (.int u9), .unset, .unset, .unset, .unset, .unset] [(.int p2)]))) (fun _ k => XS.iloadN X0.here hx rfl (hb hby at_6) rfl k) ?_
  refine OGoal.mp (S' := (s₁.setTop (mkF m 9 #[.val (.int p1), .val (.int p2), .val (.int p3), .val (.int u9), .unset, .unset, .unset, .unset, .unset] [(.int (15 : Int32)), (.int p2)]))) (fun _ k => XS.bipush X0.here hx rfl (hb hby at_7) k) ?_
  refine OGoal.mp (S' := (s₁.setTop (mkF m 10 #[.val (.int p1), .val (.int p2), .val (.int p3), .val (.int u9), .unset, .unset, .unset, .unset, .unset] [(.int (p2 &&& (15 : Int32)))]))) (fun _ k => XS.iand X0.here hx rfl (hb hby at_9) rfl k) ?_
  obtain ⟨u12, hu12⟩ : ∃ z : Int32, z = (p2 &&& (15 : Int32)) := ⟨_, rfl⟩
  rw [← hu12]
  have t13 : u12.toInt = (p2).toInt % 16 := by rw [hu12]; exact c_mask p2 (15 : Int32) 4 (by decide) (by decide)
  have r14 := rng32 u12
  refine OGoal.mp (S' := (s₁.setTop (mkF m 12 #[.val (.int p1), .val (.int p2), .val (.int p3), .val (.int u9), .val (.int u12), .unset, .unset, .unset, .unset] []))) (fun _ k => XS.istore X0.here hx rfl (hb hby at_10) rfl (l' := #[.val (.int p1), .val (.int p2), .val (.int p3), .val (.int u9), .val (.int u12), .unset, .unset, .unset, .unset]) rfl k) ?_
  refine OGoal.mp (S' := (s₁.setTop (mkF m 14 #[.val (.int p1), .val (.int p2), .val (.int p3), .val (.int u9), .val (.int u12), .unset, .unset, .unset, .unset] [(.int u12)]))) (fun _ k => XS.iload X0.here hx rfl (hb hby at_12) rfl k) ?_
  refine OGoal.mp (S' := (s₁.setTop (mkF m 16 #[.val (.int p1), .val (.int p2), .val (.int p3), .val (.int u9), .val (.int u12), .unset, .unset, .unset, .unset] [(.int (28 : Int32)), (.int u12)]))) (fun _ k => XS.bipush X0.here hx rfl (hb hby at_14) k) ?_
  refine OGoal.mp (S' := (s₁.setTop (mkF m 17 #[.val (.int p1), .val (.int p2), .val (.int p3), .val (.int u9), .val (.int u12), .unset, .unset, .unset, .unset] [(.int (u12 <<< ((28 : Int32) &&& 31)))]))) (fun _ k => XT.ishl X0.here hx rfl (hb hby at_16) rfl k) ?_
  obtain ⟨u15, hu15⟩ : ∃ z : Int32, z = (u12 <<< ((28 : Int32) &&& 31)) := ⟨_, rfl⟩
  rw [← hu15]
  have t16 : (u15.toInt - (u12).toInt * 268435456) % 4294967296 = 0 := by rw [hu15]; exact c_ishl u12 (28 : Int32) 28 (by decide)
  have r17 := rng32 u15
  refine OGoal.mp (S' := (s₁.setTop (mkF m 18 #[.val (.int p1), .val (.int p2), .val (.int p3), .val (.int u9), .val (.int u12), .unset, .unset, .unset, .unset] [(.int u9), (.int u15)]))) (fun _ k => XS.iloadN X0.here hx rfl (hb hby at_17) rfl k) ?_
  refine OGoal.mp (S' := (s₁.setTop (mkF m 19 #[.val (.int p1), .val (.int p2), .val (.int p3), .val (.int u9), .val (.int u12), .unset, .unset, .unset, .unset] [(.int (u15 ||| u9))]))) (fun _ k => XT.ior X0.here hx rfl (hb hby at_18) rfl k) ?_
  obtain ⟨u18, hu18⟩ : ∃ z : Int32, z = (u15 ||| u9) := ⟨_, rfl⟩
  rw [← hu18]
  have t19 := c_or u15 u9 28 (by decide) 268435456 (by decide) (by omega) (by omega) (by omega)
  rw [← hu18] at t19
  have := rng32 u18
  refine OGoal.mp (S' := (s₁.setTop (mkF m 21 #[.val (.int p1), .val (.int p2), .val (.int p3), .val (.int u9), .val (.int u12), .val (.int u18), .unset, .unset, .unset] []))) (fun _ k => XS.istore X0.here hx rfl (hb hby at_19) rfl (l' := #[.val (.int p1), .val (.int p2), .val (.int p3), .val (.int u9), .val (.int u12), .val (.int u18), .unset, .unset, .unset]) rfl k) ?_
  obtain ⟨T20, h24, X21, e22, E25, A26, D27, -, st23⟩ := newO X0 hx hZ hown (hw _ (List.mem_of_getElem? (i := 0) rfl)) (hw _ (List.mem_of_getElem? (i := 1) rfl)) (hw _ (List.mem_of_getElem? (i := 2) rfl)) e0 (g := mkF m 21 #[.val (.int p1), .val (.int p2), .val (.int p3), .val (.int u9), .val (.int u12), .val (.int u18), .unset, .unset, .unset] []) rfl (hb hby at_21) (by decide) (by decide)
  obtain ⟨a28, g29⟩ : ∃ z, z = h0.size := ⟨_, rfl⟩
  rw [← g29] at A26 D27 st23
  have F30 : Fld Z h24 a28 "com/example/andesite/andesite/data/ValueCounts" "classValues" "I" (.int (0 : Int32)) := D27 (Or.inr (hw _ (List.mem_of_getElem? (i := 10) rfl))) (ty := .int) (by decide)
  have F31 : Fld Z h24 a28 "com/example/andesite/andesite/data/ValueCounts" "slotValues" "[D" .null := D27 (Or.inl (hw _ (List.mem_of_getElem? (i := 17) rfl))) (ty := (.array .double)) (by decide)
  have F32 : Fld Z h24 a28 "com/example/andesite/andesite/data/ValueCounts" "slotCounts" "[J" .null := D27 (Or.inl (hw _ (List.mem_of_getElem? (i := 25) rfl))) (ty := (.array .long)) (by decide)
  have F33 : Fld Z h24 a28 "com/example/andesite/andesite/data/ValueCounts" "shift" "I" (.int (0 : Int32)) := D27 (Or.inl (hw _ (List.mem_of_getElem? (i := 32) rfl))) (ty := .int) (by decide)
  have F34 : Fld Z h24 a28 "com/example/andesite/andesite/data/ValueCounts" "used" "I" (.int (0 : Int32)) := D27 (Or.inl (hw _ (List.mem_of_getElem? (i := 47) rfl))) (ty := .int) (by decide)
  have Z35 : n0 ≤ h24.size := Nat.le_trans Z0 E25.1
  have ab36 : n0 ≤ a28 := Nat.le_trans Z0 (Nat.le_of_eq g29.symm)
  refine OGoal.mp (S' := (T20.setTop (mkF m 24 #[.val (.int p1), .val (.int p2), .val (.int p3), .val (.int u9), .val (.int u12), .val (.int u18), .unset, .unset, .unset] [(.ref a28)]))) (fun _ k => st23 _ k) ?_
  refine OGoal.mp (S' := (T20.setTop (mkF m 25 #[.val (.int p1), .val (.int p2), .val (.int p3), .val (.int u9), .val (.int u12), .val (.int u18), .unset, .unset, .unset] [(.ref a28), (.ref a28)]))) (fun _ k => XS.dup X21.here hx rfl (hb hby at_24) rfl rfl k) ?_
  refine OGoal.mp (S' := (T20.setTop (mkF m 27 #[.val (.int p1), .val (.int p2), .val (.int p3), .val (.int u9), .val (.int u12), .val (.int u18), .unset, .unset, .unset] [(.int u18), (.ref a28), (.ref a28)]))) (fun _ k => XS.iload X21.here hx rfl (hb hby at_25) rfl k) ?_
  have hs16 := c_imul (16 : Int32) u18
  rw [show (16 : Int32).toInt = 16 by decide] at hs16
  have := rng32 ((16 : Int32) * u18)
  refine oCallN (y := (⟨"com/example/andesite/andesite/data/ValueCounts", "<init>", "(I)V"⟩ : MethodName)) X21 hx hZ rfl hown (hw _ (List.mem_of_getElem? (i := 3) rfl)) (hw _ (List.mem_of_getElem? (i := 4) rfl)) (hw _ (List.mem_of_getElem? (i := 2) rfl)) (hw _ (List.mem_of_getElem? (i := 5) rfl)) (by decide) (rmI l Z a0 hw a28 u18 h24 n0 Z35 A26 F30 F31 F32 F33 F34 ab36 (by omega) (by omega)) e22 [(.int u18)] [(.ref a28)] rfl rfl (by rw [hml]; rfl) (lenOf own_pd__I_V rfl) 1 (Nat.le_of_eq rfl) (by decide) (by decide) (by decide) (by decide) (hb hby at_27) ?_
  intro v37 T38 L39 X40 q41
  obtain ⟨d42, c43, sh44, rfl, N45, E46, F49, F50, F51, F52, F53, A48, K47⟩ := q41
  have N54 := Fr.app (Fr.nil n0) N45
  have nq55 := oNeA E46 (hw _ (List.mem_of_getElem? (i := 1) rfl)) A48
  have Z56 : n0 ≤ T38.heap.size := Nat.le_trans ab36 (Nat.le_of_lt E46.lt)
  show OGoal p e below s _ _ _ (T38.setTop (mkF m 30 #[.val (.int p1), .val (.int p2), .val (.int p3), .val (.int u9), .val (.int u12), .val (.int u18), .unset, .unset, .unset] [(.ref a28)]))
  refine OGoal.mp (S' := (T38.setTop (mkF m 32 #[.val (.int p1), .val (.int p2), .val (.int p3), .val (.int u9), .val (.int u12), .val (.int u18), .val (.ref a28), .unset, .unset] []))) (fun _ k => XS.astore X40.here hx rfl (hb hby at_30) rfl rfl (l' := #[.val (.int p1), .val (.int p2), .val (.int p3), .val (.int u9), .val (.int u12), .val (.int u18), .val (.ref a28), .unset, .unset]) rfl k) ?_
  refine OGoal.mp (S' := (T38.setTop (mkF m 34 #[.val (.int p1), .val (.int p2), .val (.int p3), .val (.int u9), .val (.int u12), .val (.int u18), .val (.ref a28), .unset, .unset] [(.int u12)]))) (fun _ k => XS.iload X40.here hx rfl (hb hby at_32) rfl k) ?_
  by_cases hc57 : u12 = 0
  · have g58 := oEq hc57
    refine OGoal.mp (S' := (T38.setTop (mkF m 44 #[.val (.int p1), .val (.int p2), .val (.int p3), .val (.int u9), .val (.int u12), .val (.int u18), .val (.ref a28), .unset, .unset] []))) (fun _ k => XS.ifYes X40.here hx rfl (pc0 := 34) (pc' := 44) rfl (hb hby at_34) rfl (XT.i0_eq_t hc57) (by decide) (by decide) k) ?_
    refine OGoal.mp (S' := (T38.setTop (mkF m 45 #[.val (.int p1), .val (.int p2), .val (.int p3), .val (.int u9), .val (.int u12), .val (.int u18), .val (.ref a28), .unset, .unset] [(.int p3)]))) (fun _ k => XS.iloadN X40.here hx rfl (hb hby at_44) rfl k) ?_
    refine OGoal.mp (S' := (T38.setTop (mkF m 46 #[.val (.int p1), .val (.int p2), .val (.int p3), .val (.int u9), .val (.int u12), .val (.int u18), .val (.ref a28), .unset, .unset] [(.int (3 : Int32)), (.int p3)]))) (fun _ k => XS.iconst X40.here hx rfl (hb hby at_45) k) ?_
    refine OGoal.mp (S' := (T38.setTop (mkF m 47 #[.val (.int p1), .val (.int p2), .val (.int p3), .val (.int u9), .val (.int u12), .val (.int u18), .val (.ref a28), .unset, .unset] [(.int (p3 &&& (3 : Int32)))]))) (fun _ k => XS.iand X40.here hx rfl (hb hby at_46) rfl k) ?_
    obtain ⟨u59, hu59⟩ : ∃ z : Int32, z = (p3 &&& (3 : Int32)) := ⟨_, rfl⟩
    rw [← hu59]
    have t60 : u59.toInt = (p3).toInt % 4 := by rw [hu59]; exact c_mask p3 (3 : Int32) 2 (by decide) (by decide)
    have r61 := rng32 u59
    refine OGoal.mp (S' := (T38.setTop (mkF m 51 #[.val (.int p1), .val (.int p2), .val (.int p3), .val (.int u9), .val (.int u12), .val (.int u18), .val (.ref a28), .unset, .unset] [(.int u59)]))) (fun _ k => XS.goto X40.here hx rfl (pc0 := 47) (pc' := 51) rfl (hb hby at_47) (by decide) (by decide) k) ?_
    refine OGoal.mp (S' := (T38.setTop (mkF m 53 #[.val (.int p1), .val (.int p2), .val (.int p3), .val (.int u9), .val (.int u12), .val (.int u18), .val (.ref a28), .val (.int u59), .unset] []))) (fun _ k => XS.istore X40.here hx rfl (hb hby at_51) rfl (l' := #[.val (.int p1), .val (.int p2), .val (.int p3), .val (.int u9), .val (.int u12), .val (.int u18), .val (.ref a28), .val (.int u59), .unset]) rfl k) ?_
    refine OGoal.mp (S' := (T38.setTop (mkF m 55 #[.val (.int p1), .val (.int p2), .val (.int p3), .val (.int u9), .val (.int u12), .val (.int u18), .val (.ref a28), .val (.int u59), .unset] [(.int u59)]))) (fun _ k => XS.iload X40.here hx rfl (hb hby at_53) rfl k) ?_
    refine OGoal.mp (S' := (T38.setTop (mkF m 56 #[.val (.int p1), .val (.int p2), .val (.int p3), .val (.int u9), .val (.int u12), .val (.int u18), .val (.ref a28), .val (.int u59), .unset] [(.int (1 : Int32)), (.int u59)]))) (fun _ k => XS.iconst X40.here hx rfl (hb hby at_55) k) ?_
    by_cases hc62 : u59 < (1 : Int32)
    · have g63 := oLt hc62
      refine OGoal.mp (S' := (T38.setTop (mkF m 74 #[.val (.int p1), .val (.int p2), .val (.int p3), .val (.int u9), .val (.int u12), .val (.int u18), .val (.ref a28), .val (.int u59), .unset] []))) (fun _ k => XS.icmpYes X40.here hx rfl (pc0 := 56) (pc' := 74) rfl (hb hby at_56) rfl (XT.ii_lt_t hc62) (by decide) (by decide) k) ?_
      refine OGoal.mp (S' := (T38.setTop (mkF m 76 #[.val (.int p1), .val (.int p2), .val (.int p3), .val (.int u9), .val (.int u12), .val (.int u18), .val (.ref a28), .val (.int u59), .unset] [(.int u59)]))) (fun _ k => XS.iload X40.here hx rfl (hb hby at_74) rfl k) ?_
      refine OGoal.mp (S' := (T38.setTop (mkF m 77 #[.val (.int p1), .val (.int p2), .val (.int p3), .val (.int u9), .val (.int u12), .val (.int u18), .val (.ref a28), .val (.int u59), .unset] [(.int (2 : Int32)), (.int u59)]))) (fun _ k => XS.iconst X40.here hx rfl (hb hby at_76) k) ?_
      have hd64 : u59 < (2 : Int32) := mLt (by omega)
      refine OGoal.mp (S' := (T38.setTop (mkF m 95 #[.val (.int p1), .val (.int p2), .val (.int p3), .val (.int u9), .val (.int u12), .val (.int u18), .val (.ref a28), .val (.int u59), .unset] []))) (fun _ k => XS.icmpYes X40.here hx rfl (pc0 := 77) (pc' := 95) rfl (hb hby at_77) rfl (XT.ii_lt_t hd64) (by decide) (by decide) k) ?_
      refine OGoal.mp (S' := (T38.setTop (mkF m 97 #[.val (.int p1), .val (.int p2), .val (.int p3), .val (.int u9), .val (.int u12), .val (.int u18), .val (.ref a28), .val (.int u59), .unset] [(.int u59)]))) (fun _ k => XS.iload X40.here hx rfl (hb hby at_95) rfl k) ?_
      refine OGoal.mp (S' := (T38.setTop (mkF m 98 #[.val (.int p1), .val (.int p2), .val (.int p3), .val (.int u9), .val (.int u12), .val (.int u18), .val (.ref a28), .val (.int u59), .unset] [(.int (3 : Int32)), (.int u59)]))) (fun _ k => XS.iconst X40.here hx rfl (hb hby at_97) k) ?_
      have hd65 : u59 < (3 : Int32) := mLt (by omega)
      refine OGoal.mp (S' := (T38.setTop (mkF m 116 #[.val (.int p1), .val (.int p2), .val (.int p3), .val (.int u9), .val (.int u12), .val (.int u18), .val (.ref a28), .val (.int u59), .unset] []))) (fun _ k => XS.icmpYes X40.here hx rfl (pc0 := 98) (pc' := 116) rfl (hb hby at_98) rfl (XT.ii_lt_t hd65) (by decide) (by decide) k) ?_
      refine OGoal.mp (S' := (T38.setTop (mkF m 118 #[.val (.int p1), .val (.int p2), .val (.int p3), .val (.int u9), .val (.int u12), .val (.int u18), .val (.ref a28), .val (.int u59), .unset] [(.int u12)]))) (fun _ k => XS.iload X40.here hx rfl (hb hby at_116) rfl k) ?_
      have hd66 : u12 = 0 := mEq (by omega)
      refine OGoal.mp (S' := (T38.setTop (mkF m 128 #[.val (.int p1), .val (.int p2), .val (.int p3), .val (.int u9), .val (.int u12), .val (.int u18), .val (.ref a28), .val (.int u59), .unset] []))) (fun _ k => XS.ifYes X40.here hx rfl (pc0 := 118) (pc' := 128) rfl (hb hby at_118) rfl (XT.i0_eq_t hd66) (by decide) (by decide) k) ?_
      refine OGoal.mp (S' := (T38.setTop (mkF m 129 #[.val (.int p1), .val (.int p2), .val (.int p3), .val (.int u9), .val (.int u12), .val (.int u18), .val (.ref a28), .val (.int u59), .unset] [(.int (1 : Int32))]))) (fun _ k => XS.iconst X40.here hx rfl (hb hby at_128) k) ?_
      refine OGoal.mp (S' := (T38.setTop (mkF m 133 #[.val (.int p1), .val (.int p2), .val (.int p3), .val (.int u9), .val (.int u12), .val (.int u18), .val (.ref a28), .val (.int u59), .unset] [(.int (1 : Int32))]))) (fun _ k => XS.goto X40.here hx rfl (pc0 := 129) (pc' := 133) rfl (hb hby at_129) (by decide) (by decide) k) ?_
      refine OGoal.mp (S' := (T38.setTop (mkF m 135 #[.val (.int p1), .val (.int p2), .val (.int p3), .val (.int u9), .val (.int u12), .val (.int u18), .val (.ref a28), .val (.int u59), .val (.int (1 : Int32))] []))) (fun _ k => XS.istore X40.here hx rfl (hb hby at_133) rfl (l' := #[.val (.int p1), .val (.int p2), .val (.int p3), .val (.int u9), .val (.int u12), .val (.int u18), .val (.ref a28), .val (.int u59), .val (.int (1 : Int32))]) rfl k) ?_
      refine OGoal.mp (S' := (T38.setTop (mkF m 137 #[.val (.int p1), .val (.int p2), .val (.int p3), .val (.int u9), .val (.int u12), .val (.int u18), .val (.ref a28), .val (.int u59), .val (.int (1 : Int32))] [(.ref a28)]))) (fun _ k => XS.aload X40.here hx rfl (hb hby at_135) rfl rfl k) ?_
      refine oCallV (y := (⟨"com/example/andesite/andesite/data/ValueCounts", "canGrow", "()Z"⟩ : MethodName)) (z := (⟨"com/example/andesite/andesite/data/ValueCounts", "canGrow", "()Z"⟩ : MethodName)) X40 hx hZ hown (hw _ (List.mem_of_getElem? (i := 33) rfl)) (hw _ (List.mem_of_getElem? (i := 34) rfl)) (hw _ (List.mem_of_getElem? (i := 36) rfl)) (hw _ (List.mem_of_getElem? (i := 35) rfl)) (hw _ (List.mem_of_getElem? (i := 2) rfl)) (hw _ (List.mem_of_getElem? (i := 37) rfl)) (by decide) (rmC16 l Z a0 hw a28 T38.heap n0 Z56 u18 d42 _ F49 F50 A48) rfl E46 [] [] rfl rfl (by rw [hml]; rfl) (notFace_of_selects (args := #[]) (mvT hZ (hw _ (List.mem_of_getElem? (i := 36) rfl)))) (lenOf own_pd___Z rfl) 0 (Nat.le_of_eq rfl) (by decide) (by decide) (by decide) (by decide) (hb hby at_137) ?_
      intro v67 T68 L69 X70 q71
      obtain ⟨rfl, N72, e73⟩ := q71
      have N74 := Fr.app N54 N72
      rw [if_pos (by omega)]
      show OGoal p e below s _ _ _ (T68.setTop (mkF m 140 #[.val (.int p1), .val (.int p2), .val (.int p3), .val (.int u9), .val (.int u12), .val (.int u18), .val (.ref a28), .val (.int u59), .val (.int (1 : Int32))] [(.int (1 : Int32))]))
      refine OGoal.mp (S' := (T68.setTop (mkF m 142 #[.val (.int p1), .val (.int p2), .val (.int p3), .val (.int u9), .val (.int u12), .val (.int u18), .val (.ref a28), .val (.int u59), .val (.int (1 : Int32))] [(.int (1 : Int32)), (.int (1 : Int32))]))) (fun _ k => XS.iload X70.here hx rfl (hb hby at_140) rfl k) ?_
      have hd75 : (1 : Int32) = (1 : Int32) := mEq (by omega)
      refine OGoal.mp (S' := (T68.setTop (mkF m 145 #[.val (.int p1), .val (.int p2), .val (.int p3), .val (.int u9), .val (.int u12), .val (.int u18), .val (.ref a28), .val (.int u59), .val (.int (1 : Int32))] []))) (fun _ k => XS.icmpNo X70.here hx rfl (hb hby at_142) rfl (XT.ii_ne_f hd75) k) ?_
      refine OGoal.mp (S' := (T68.setTop (mkF m 146 #[.val (.int p1), .val (.int p2), .val (.int p3), .val (.int u9), .val (.int u12), .val (.int u18), .val (.ref a28), .val (.int u59), .val (.int (1 : Int32))] [(.int (1 : Int32))]))) (fun _ k => XS.iconst X70.here hx rfl (hb hby at_145) k) ?_
      refine OGoal.mp (S' := (T68.setTop (mkF m 150 #[.val (.int p1), .val (.int p2), .val (.int p3), .val (.int u9), .val (.int u12), .val (.int u18), .val (.ref a28), .val (.int u59), .val (.int (1 : Int32))] [(.int (1 : Int32))]))) (fun _ k => XS.goto X70.here hx rfl (pc0 := 146) (pc' := 150) rfl (hb hby at_146) (by decide) (by decide) k) ?_
      refine oRetZ X70 hx hlk hret (Or.inr rfl) (hb hby at_150) ?_ (by decide) (by decide)
      exact ⟨rfl, N74⟩
    · have g76 := oNlt hc62
      refine OGoal.mp (S' := (T38.setTop (mkF m 59 #[.val (.int p1), .val (.int p2), .val (.int p3), .val (.int u9), .val (.int u12), .val (.int u18), .val (.ref a28), .val (.int u59), .unset] []))) (fun _ k => XS.icmpNo X40.here hx rfl (hb hby at_56) rfl (XT.ii_lt_f hc62) k) ?_
      refine OGoal.mp (S' := (T38.setTop (mkF m 61 #[.val (.int p1), .val (.int p2), .val (.int p3), .val (.int u9), .val (.int u12), .val (.int u18), .val (.ref a28), .val (.int u59), .unset] [(.ref a28)]))) (fun _ k => XS.aload X40.here hx rfl (hb hby at_59) rfl rfl k) ?_
      refine oCallV (y := (⟨"com/example/andesite/andesite/data/ValueCounts", "canGrow", "()Z"⟩ : MethodName)) (z := (⟨"com/example/andesite/andesite/data/ValueCounts", "canGrow", "()Z"⟩ : MethodName)) X40 hx hZ hown (hw _ (List.mem_of_getElem? (i := 33) rfl)) (hw _ (List.mem_of_getElem? (i := 34) rfl)) (hw _ (List.mem_of_getElem? (i := 36) rfl)) (hw _ (List.mem_of_getElem? (i := 35) rfl)) (hw _ (List.mem_of_getElem? (i := 2) rfl)) (hw _ (List.mem_of_getElem? (i := 37) rfl)) (by decide) (rmC16 l Z a0 hw a28 T38.heap n0 Z56 u18 d42 _ F49 F50 A48) rfl E46 [] [] rfl rfl (by rw [hml]; rfl) (notFace_of_selects (args := #[]) (mvT hZ (hw _ (List.mem_of_getElem? (i := 36) rfl)))) (lenOf own_pd___Z rfl) 0 (Nat.le_of_eq rfl) (by decide) (by decide) (by decide) (by decide) (hb hby at_61) ?_
      intro v77 T78 L79 X80 q81
      obtain ⟨rfl, N82, e83⟩ := q81
      have N84 := Fr.app N54 N82
      rw [if_pos (by omega)]
      show OGoal p e below s _ _ _ (T78.setTop (mkF m 64 #[.val (.int p1), .val (.int p2), .val (.int p3), .val (.int u9), .val (.int u12), .val (.int u18), .val (.ref a28), .val (.int u59), .unset] [(.int (1 : Int32))]))
      have hd85 : ¬ ((1 : Int32) = 0) := mNe (by omega)
      refine OGoal.mp (S' := (T78.setTop (mkF m 69 #[.val (.int p1), .val (.int p2), .val (.int p3), .val (.int u9), .val (.int u12), .val (.int u18), .val (.ref a28), .val (.int u59), .unset] []))) (fun _ k => XS.ifYes X80.here hx rfl (pc0 := 64) (pc' := 69) rfl (hb hby at_64) rfl (XT.i0_ne_t hd85) (by decide) (by decide) k) ?_
      refine OGoal.mp (S' := (T78.setTop (mkF m 71 #[.val (.int p1), .val (.int p2), .val (.int p3), .val (.int u9), .val (.int u12), .val (.int u18), .val (.ref a28), .val (.int u59), .unset] [(.ref a28)]))) (fun _ k => XS.aload X80.here hx rfl (hb hby at_69) rfl rfl k) ?_
      have hs32 := c_imul (32 : Int32) u18
      rw [show (32 : Int32).toInt = 32 by decide] at hs32
      have := rng32 ((32 : Int32) * u18)
      refine oCallV (y := (⟨"com/example/andesite/andesite/data/ValueCounts", "grow", "()V"⟩ : MethodName)) (z := (⟨"com/example/andesite/andesite/data/ValueCounts", "grow", "()V"⟩ : MethodName)) X80 hx hZ hown (hw _ (List.mem_of_getElem? (i := 40) rfl)) (hw _ (List.mem_of_getElem? (i := 41) rfl)) (hw _ (List.mem_of_getElem? (i := 43) rfl)) (hw _ (List.mem_of_getElem? (i := 42) rfl)) (hw _ (List.mem_of_getElem? (i := 2) rfl)) (hw _ (List.mem_of_getElem? (i := 44) rfl)) (by decide) (rmG16 l Z a0 hw a28 T38.heap n0 Z56 u18 0 sh44 d42 c43 E46 F49 F50 F51 F52 F53 A48 ab36 nq55.symm (by omega) (by omega) (by omega)) e83 E46 [] [] rfl rfl (by rw [hml]; rfl) (notFace_of_selects (args := #[]) (mvT hZ (hw _ (List.mem_of_getElem? (i := 43) rfl)))) (lenOf own_pd___V rfl) 0 (Nat.le_of_eq rfl) (by decide) (by decide) (by decide) (by decide) (hb hby at_71) ?_
      intro v86 T87 L88 X89 q90
      obtain ⟨d91, c92, sh93, rfl, N94, E95, F98, F99, F100, F101, F102, A97, K96⟩ := q90
      have N103 := Fr.app N84 N94
      have nq104 := oNeA E95 (hw _ (List.mem_of_getElem? (i := 1) rfl)) A97
      have Z105 : n0 ≤ T87.heap.size := Nat.le_trans ab36 (Nat.le_of_lt E95.lt)
      show OGoal p e below s _ _ _ (T87.setTop (mkF m 74 #[.val (.int p1), .val (.int p2), .val (.int p3), .val (.int u9), .val (.int u12), .val (.int u18), .val (.ref a28), .val (.int u59), .unset] []))
      refine OGoal.mp (S' := (T87.setTop (mkF m 76 #[.val (.int p1), .val (.int p2), .val (.int p3), .val (.int u9), .val (.int u12), .val (.int u18), .val (.ref a28), .val (.int u59), .unset] [(.int u59)]))) (fun _ k => XS.iload X89.here hx rfl (hb hby at_74) rfl k) ?_
      refine OGoal.mp (S' := (T87.setTop (mkF m 77 #[.val (.int p1), .val (.int p2), .val (.int p3), .val (.int u9), .val (.int u12), .val (.int u18), .val (.ref a28), .val (.int u59), .unset] [(.int (2 : Int32)), (.int u59)]))) (fun _ k => XS.iconst X89.here hx rfl (hb hby at_76) k) ?_
      by_cases hc106 : u59 < (2 : Int32)
      · have g107 := oLt hc106
        refine OGoal.mp (S' := (T87.setTop (mkF m 95 #[.val (.int p1), .val (.int p2), .val (.int p3), .val (.int u9), .val (.int u12), .val (.int u18), .val (.ref a28), .val (.int u59), .unset] []))) (fun _ k => XS.icmpYes X89.here hx rfl (pc0 := 77) (pc' := 95) rfl (hb hby at_77) rfl (XT.ii_lt_t hc106) (by decide) (by decide) k) ?_
        refine OGoal.mp (S' := (T87.setTop (mkF m 97 #[.val (.int p1), .val (.int p2), .val (.int p3), .val (.int u9), .val (.int u12), .val (.int u18), .val (.ref a28), .val (.int u59), .unset] [(.int u59)]))) (fun _ k => XS.iload X89.here hx rfl (hb hby at_95) rfl k) ?_
        refine OGoal.mp (S' := (T87.setTop (mkF m 98 #[.val (.int p1), .val (.int p2), .val (.int p3), .val (.int u9), .val (.int u12), .val (.int u18), .val (.ref a28), .val (.int u59), .unset] [(.int (3 : Int32)), (.int u59)]))) (fun _ k => XS.iconst X89.here hx rfl (hb hby at_97) k) ?_
        have hd108 : u59 < (3 : Int32) := mLt (by omega)
        refine OGoal.mp (S' := (T87.setTop (mkF m 116 #[.val (.int p1), .val (.int p2), .val (.int p3), .val (.int u9), .val (.int u12), .val (.int u18), .val (.ref a28), .val (.int u59), .unset] []))) (fun _ k => XS.icmpYes X89.here hx rfl (pc0 := 98) (pc' := 116) rfl (hb hby at_98) rfl (XT.ii_lt_t hd108) (by decide) (by decide) k) ?_
        refine OGoal.mp (S' := (T87.setTop (mkF m 118 #[.val (.int p1), .val (.int p2), .val (.int p3), .val (.int u9), .val (.int u12), .val (.int u18), .val (.ref a28), .val (.int u59), .unset] [(.int u12)]))) (fun _ k => XS.iload X89.here hx rfl (hb hby at_116) rfl k) ?_
        have hd109 : u12 = 0 := mEq (by omega)
        refine OGoal.mp (S' := (T87.setTop (mkF m 128 #[.val (.int p1), .val (.int p2), .val (.int p3), .val (.int u9), .val (.int u12), .val (.int u18), .val (.ref a28), .val (.int u59), .unset] []))) (fun _ k => XS.ifYes X89.here hx rfl (pc0 := 118) (pc' := 128) rfl (hb hby at_118) rfl (XT.i0_eq_t hd109) (by decide) (by decide) k) ?_
        refine OGoal.mp (S' := (T87.setTop (mkF m 129 #[.val (.int p1), .val (.int p2), .val (.int p3), .val (.int u9), .val (.int u12), .val (.int u18), .val (.ref a28), .val (.int u59), .unset] [(.int (1 : Int32))]))) (fun _ k => XS.iconst X89.here hx rfl (hb hby at_128) k) ?_
        refine OGoal.mp (S' := (T87.setTop (mkF m 133 #[.val (.int p1), .val (.int p2), .val (.int p3), .val (.int u9), .val (.int u12), .val (.int u18), .val (.ref a28), .val (.int u59), .unset] [(.int (1 : Int32))]))) (fun _ k => XS.goto X89.here hx rfl (pc0 := 129) (pc' := 133) rfl (hb hby at_129) (by decide) (by decide) k) ?_
        refine OGoal.mp (S' := (T87.setTop (mkF m 135 #[.val (.int p1), .val (.int p2), .val (.int p3), .val (.int u9), .val (.int u12), .val (.int u18), .val (.ref a28), .val (.int u59), .val (.int (1 : Int32))] []))) (fun _ k => XS.istore X89.here hx rfl (hb hby at_133) rfl (l' := #[.val (.int p1), .val (.int p2), .val (.int p3), .val (.int u9), .val (.int u12), .val (.int u18), .val (.ref a28), .val (.int u59), .val (.int (1 : Int32))]) rfl k) ?_
        refine OGoal.mp (S' := (T87.setTop (mkF m 137 #[.val (.int p1), .val (.int p2), .val (.int p3), .val (.int u9), .val (.int u12), .val (.int u18), .val (.ref a28), .val (.int u59), .val (.int (1 : Int32))] [(.ref a28)]))) (fun _ k => XS.aload X89.here hx rfl (hb hby at_135) rfl rfl k) ?_
        refine oCallV (y := (⟨"com/example/andesite/andesite/data/ValueCounts", "canGrow", "()Z"⟩ : MethodName)) (z := (⟨"com/example/andesite/andesite/data/ValueCounts", "canGrow", "()Z"⟩ : MethodName)) X89 hx hZ hown (hw _ (List.mem_of_getElem? (i := 33) rfl)) (hw _ (List.mem_of_getElem? (i := 34) rfl)) (hw _ (List.mem_of_getElem? (i := 36) rfl)) (hw _ (List.mem_of_getElem? (i := 35) rfl)) (hw _ (List.mem_of_getElem? (i := 2) rfl)) (hw _ (List.mem_of_getElem? (i := 37) rfl)) (by decide) (rmC32 l Z a0 hw a28 T87.heap n0 Z105 u18 d91 _ F98 F99 A97) rfl E95 [] [] rfl rfl (by rw [hml]; rfl) (notFace_of_selects (args := #[]) (mvT hZ (hw _ (List.mem_of_getElem? (i := 36) rfl)))) (lenOf own_pd___Z rfl) 0 (Nat.le_of_eq rfl) (by decide) (by decide) (by decide) (by decide) (hb hby at_137) ?_
        intro v110 T111 L112 X113 q114
        obtain ⟨rfl, N115, e116⟩ := q114
        have N117 := Fr.app N103 N115
        rw [if_pos (by omega)]
        show OGoal p e below s _ _ _ (T111.setTop (mkF m 140 #[.val (.int p1), .val (.int p2), .val (.int p3), .val (.int u9), .val (.int u12), .val (.int u18), .val (.ref a28), .val (.int u59), .val (.int (1 : Int32))] [(.int (1 : Int32))]))
        refine OGoal.mp (S' := (T111.setTop (mkF m 142 #[.val (.int p1), .val (.int p2), .val (.int p3), .val (.int u9), .val (.int u12), .val (.int u18), .val (.ref a28), .val (.int u59), .val (.int (1 : Int32))] [(.int (1 : Int32)), (.int (1 : Int32))]))) (fun _ k => XS.iload X113.here hx rfl (hb hby at_140) rfl k) ?_
        have hd118 : (1 : Int32) = (1 : Int32) := mEq (by omega)
        refine OGoal.mp (S' := (T111.setTop (mkF m 145 #[.val (.int p1), .val (.int p2), .val (.int p3), .val (.int u9), .val (.int u12), .val (.int u18), .val (.ref a28), .val (.int u59), .val (.int (1 : Int32))] []))) (fun _ k => XS.icmpNo X113.here hx rfl (hb hby at_142) rfl (XT.ii_ne_f hd118) k) ?_
        refine OGoal.mp (S' := (T111.setTop (mkF m 146 #[.val (.int p1), .val (.int p2), .val (.int p3), .val (.int u9), .val (.int u12), .val (.int u18), .val (.ref a28), .val (.int u59), .val (.int (1 : Int32))] [(.int (1 : Int32))]))) (fun _ k => XS.iconst X113.here hx rfl (hb hby at_145) k) ?_
        refine OGoal.mp (S' := (T111.setTop (mkF m 150 #[.val (.int p1), .val (.int p2), .val (.int p3), .val (.int u9), .val (.int u12), .val (.int u18), .val (.ref a28), .val (.int u59), .val (.int (1 : Int32))] [(.int (1 : Int32))]))) (fun _ k => XS.goto X113.here hx rfl (pc0 := 146) (pc' := 150) rfl (hb hby at_146) (by decide) (by decide) k) ?_
        refine oRetZ X113 hx hlk hret (Or.inr rfl) (hb hby at_150) ?_ (by decide) (by decide)
        exact ⟨rfl, N117⟩
      · have g119 := oNlt hc106
        refine OGoal.mp (S' := (T87.setTop (mkF m 80 #[.val (.int p1), .val (.int p2), .val (.int p3), .val (.int u9), .val (.int u12), .val (.int u18), .val (.ref a28), .val (.int u59), .unset] []))) (fun _ k => XS.icmpNo X89.here hx rfl (hb hby at_77) rfl (XT.ii_lt_f hc106) k) ?_
        refine OGoal.mp (S' := (T87.setTop (mkF m 82 #[.val (.int p1), .val (.int p2), .val (.int p3), .val (.int u9), .val (.int u12), .val (.int u18), .val (.ref a28), .val (.int u59), .unset] [(.ref a28)]))) (fun _ k => XS.aload X89.here hx rfl (hb hby at_80) rfl rfl k) ?_
        refine oCallV (y := (⟨"com/example/andesite/andesite/data/ValueCounts", "canGrow", "()Z"⟩ : MethodName)) (z := (⟨"com/example/andesite/andesite/data/ValueCounts", "canGrow", "()Z"⟩ : MethodName)) X89 hx hZ hown (hw _ (List.mem_of_getElem? (i := 33) rfl)) (hw _ (List.mem_of_getElem? (i := 34) rfl)) (hw _ (List.mem_of_getElem? (i := 36) rfl)) (hw _ (List.mem_of_getElem? (i := 35) rfl)) (hw _ (List.mem_of_getElem? (i := 2) rfl)) (hw _ (List.mem_of_getElem? (i := 37) rfl)) (by decide) (rmC32 l Z a0 hw a28 T87.heap n0 Z105 u18 d91 _ F98 F99 A97) rfl E95 [] [] rfl rfl (by rw [hml]; rfl) (notFace_of_selects (args := #[]) (mvT hZ (hw _ (List.mem_of_getElem? (i := 36) rfl)))) (lenOf own_pd___Z rfl) 0 (Nat.le_of_eq rfl) (by decide) (by decide) (by decide) (by decide) (hb hby at_82) ?_
        intro v120 T121 L122 X123 q124
        obtain ⟨rfl, N125, e126⟩ := q124
        have N127 := Fr.app N103 N125
        rw [if_pos (by omega)]
        show OGoal p e below s _ _ _ (T121.setTop (mkF m 85 #[.val (.int p1), .val (.int p2), .val (.int p3), .val (.int u9), .val (.int u12), .val (.int u18), .val (.ref a28), .val (.int u59), .unset] [(.int (1 : Int32))]))
        have hd128 : ¬ ((1 : Int32) = 0) := mNe (by omega)
        refine OGoal.mp (S' := (T121.setTop (mkF m 90 #[.val (.int p1), .val (.int p2), .val (.int p3), .val (.int u9), .val (.int u12), .val (.int u18), .val (.ref a28), .val (.int u59), .unset] []))) (fun _ k => XS.ifYes X123.here hx rfl (pc0 := 85) (pc' := 90) rfl (hb hby at_85) rfl (XT.i0_ne_t hd128) (by decide) (by decide) k) ?_
        refine OGoal.mp (S' := (T121.setTop (mkF m 92 #[.val (.int p1), .val (.int p2), .val (.int p3), .val (.int u9), .val (.int u12), .val (.int u18), .val (.ref a28), .val (.int u59), .unset] [(.ref a28)]))) (fun _ k => XS.aload X123.here hx rfl (hb hby at_90) rfl rfl k) ?_
        have hs64 := c_imul (64 : Int32) u18
        rw [show (64 : Int32).toInt = 64 by decide] at hs64
        have := rng32 ((64 : Int32) * u18)
        refine oCallV (y := (⟨"com/example/andesite/andesite/data/ValueCounts", "grow", "()V"⟩ : MethodName)) (z := (⟨"com/example/andesite/andesite/data/ValueCounts", "grow", "()V"⟩ : MethodName)) X123 hx hZ hown (hw _ (List.mem_of_getElem? (i := 40) rfl)) (hw _ (List.mem_of_getElem? (i := 41) rfl)) (hw _ (List.mem_of_getElem? (i := 43) rfl)) (hw _ (List.mem_of_getElem? (i := 42) rfl)) (hw _ (List.mem_of_getElem? (i := 2) rfl)) (hw _ (List.mem_of_getElem? (i := 44) rfl)) (by decide) (rmG32 l Z a0 hw a28 T87.heap n0 Z105 u18 0 sh93 d91 c92 E95 F98 F99 F100 F101 F102 A97 ab36 nq104.symm (by omega) (by omega) (by omega)) e126 E95 [] [] rfl rfl (by rw [hml]; rfl) (notFace_of_selects (args := #[]) (mvT hZ (hw _ (List.mem_of_getElem? (i := 43) rfl)))) (lenOf own_pd___V rfl) 0 (Nat.le_of_eq rfl) (by decide) (by decide) (by decide) (by decide) (hb hby at_92) ?_
        intro v129 T130 L131 X132 q133
        obtain ⟨d134, c135, sh136, rfl, N137, E138, F141, F142, F143, F144, F145, A140, K139⟩ := q133
        have N146 := Fr.app N127 N137
        have nq147 := oNeA E138 (hw _ (List.mem_of_getElem? (i := 1) rfl)) A140
        have Z148 : n0 ≤ T130.heap.size := Nat.le_trans ab36 (Nat.le_of_lt E138.lt)
        show OGoal p e below s _ _ _ (T130.setTop (mkF m 95 #[.val (.int p1), .val (.int p2), .val (.int p3), .val (.int u9), .val (.int u12), .val (.int u18), .val (.ref a28), .val (.int u59), .unset] []))
        refine OGoal.mp (S' := (T130.setTop (mkF m 97 #[.val (.int p1), .val (.int p2), .val (.int p3), .val (.int u9), .val (.int u12), .val (.int u18), .val (.ref a28), .val (.int u59), .unset] [(.int u59)]))) (fun _ k => XS.iload X132.here hx rfl (hb hby at_95) rfl k) ?_
        refine OGoal.mp (S' := (T130.setTop (mkF m 98 #[.val (.int p1), .val (.int p2), .val (.int p3), .val (.int u9), .val (.int u12), .val (.int u18), .val (.ref a28), .val (.int u59), .unset] [(.int (3 : Int32)), (.int u59)]))) (fun _ k => XS.iconst X132.here hx rfl (hb hby at_97) k) ?_
        by_cases hc149 : u59 < (3 : Int32)
        · have g150 := oLt hc149
          refine OGoal.mp (S' := (T130.setTop (mkF m 116 #[.val (.int p1), .val (.int p2), .val (.int p3), .val (.int u9), .val (.int u12), .val (.int u18), .val (.ref a28), .val (.int u59), .unset] []))) (fun _ k => XS.icmpYes X132.here hx rfl (pc0 := 98) (pc' := 116) rfl (hb hby at_98) rfl (XT.ii_lt_t hc149) (by decide) (by decide) k) ?_
          refine OGoal.mp (S' := (T130.setTop (mkF m 118 #[.val (.int p1), .val (.int p2), .val (.int p3), .val (.int u9), .val (.int u12), .val (.int u18), .val (.ref a28), .val (.int u59), .unset] [(.int u12)]))) (fun _ k => XS.iload X132.here hx rfl (hb hby at_116) rfl k) ?_
          have hd151 : u12 = 0 := mEq (by omega)
          refine OGoal.mp (S' := (T130.setTop (mkF m 128 #[.val (.int p1), .val (.int p2), .val (.int p3), .val (.int u9), .val (.int u12), .val (.int u18), .val (.ref a28), .val (.int u59), .unset] []))) (fun _ k => XS.ifYes X132.here hx rfl (pc0 := 118) (pc' := 128) rfl (hb hby at_118) rfl (XT.i0_eq_t hd151) (by decide) (by decide) k) ?_
          refine OGoal.mp (S' := (T130.setTop (mkF m 129 #[.val (.int p1), .val (.int p2), .val (.int p3), .val (.int u9), .val (.int u12), .val (.int u18), .val (.ref a28), .val (.int u59), .unset] [(.int (1 : Int32))]))) (fun _ k => XS.iconst X132.here hx rfl (hb hby at_128) k) ?_
          refine OGoal.mp (S' := (T130.setTop (mkF m 133 #[.val (.int p1), .val (.int p2), .val (.int p3), .val (.int u9), .val (.int u12), .val (.int u18), .val (.ref a28), .val (.int u59), .unset] [(.int (1 : Int32))]))) (fun _ k => XS.goto X132.here hx rfl (pc0 := 129) (pc' := 133) rfl (hb hby at_129) (by decide) (by decide) k) ?_
          refine OGoal.mp (S' := (T130.setTop (mkF m 135 #[.val (.int p1), .val (.int p2), .val (.int p3), .val (.int u9), .val (.int u12), .val (.int u18), .val (.ref a28), .val (.int u59), .val (.int (1 : Int32))] []))) (fun _ k => XS.istore X132.here hx rfl (hb hby at_133) rfl (l' := #[.val (.int p1), .val (.int p2), .val (.int p3), .val (.int u9), .val (.int u12), .val (.int u18), .val (.ref a28), .val (.int u59), .val (.int (1 : Int32))]) rfl k) ?_
          refine OGoal.mp (S' := (T130.setTop (mkF m 137 #[.val (.int p1), .val (.int p2), .val (.int p3), .val (.int u9), .val (.int u12), .val (.int u18), .val (.ref a28), .val (.int u59), .val (.int (1 : Int32))] [(.ref a28)]))) (fun _ k => XS.aload X132.here hx rfl (hb hby at_135) rfl rfl k) ?_
          refine oCallV (y := (⟨"com/example/andesite/andesite/data/ValueCounts", "canGrow", "()Z"⟩ : MethodName)) (z := (⟨"com/example/andesite/andesite/data/ValueCounts", "canGrow", "()Z"⟩ : MethodName)) X132 hx hZ hown (hw _ (List.mem_of_getElem? (i := 33) rfl)) (hw _ (List.mem_of_getElem? (i := 34) rfl)) (hw _ (List.mem_of_getElem? (i := 36) rfl)) (hw _ (List.mem_of_getElem? (i := 35) rfl)) (hw _ (List.mem_of_getElem? (i := 2) rfl)) (hw _ (List.mem_of_getElem? (i := 37) rfl)) (by decide) (rmC64 l Z a0 hw a28 T130.heap n0 Z148 u18 d134 _ F141 F142 A140) rfl E138 [] [] rfl rfl (by rw [hml]; rfl) (notFace_of_selects (args := #[]) (mvT hZ (hw _ (List.mem_of_getElem? (i := 36) rfl)))) (lenOf own_pd___Z rfl) 0 (Nat.le_of_eq rfl) (by decide) (by decide) (by decide) (by decide) (hb hby at_137) ?_
          intro v152 T153 L154 X155 q156
          obtain ⟨rfl, N157, e158⟩ := q156
          have N159 := Fr.app N146 N157
          rw [if_pos (by omega)]
          show OGoal p e below s _ _ _ (T153.setTop (mkF m 140 #[.val (.int p1), .val (.int p2), .val (.int p3), .val (.int u9), .val (.int u12), .val (.int u18), .val (.ref a28), .val (.int u59), .val (.int (1 : Int32))] [(.int (1 : Int32))]))
          refine OGoal.mp (S' := (T153.setTop (mkF m 142 #[.val (.int p1), .val (.int p2), .val (.int p3), .val (.int u9), .val (.int u12), .val (.int u18), .val (.ref a28), .val (.int u59), .val (.int (1 : Int32))] [(.int (1 : Int32)), (.int (1 : Int32))]))) (fun _ k => XS.iload X155.here hx rfl (hb hby at_140) rfl k) ?_
          have hd160 : (1 : Int32) = (1 : Int32) := mEq (by omega)
          refine OGoal.mp (S' := (T153.setTop (mkF m 145 #[.val (.int p1), .val (.int p2), .val (.int p3), .val (.int u9), .val (.int u12), .val (.int u18), .val (.ref a28), .val (.int u59), .val (.int (1 : Int32))] []))) (fun _ k => XS.icmpNo X155.here hx rfl (hb hby at_142) rfl (XT.ii_ne_f hd160) k) ?_
          refine OGoal.mp (S' := (T153.setTop (mkF m 146 #[.val (.int p1), .val (.int p2), .val (.int p3), .val (.int u9), .val (.int u12), .val (.int u18), .val (.ref a28), .val (.int u59), .val (.int (1 : Int32))] [(.int (1 : Int32))]))) (fun _ k => XS.iconst X155.here hx rfl (hb hby at_145) k) ?_
          refine OGoal.mp (S' := (T153.setTop (mkF m 150 #[.val (.int p1), .val (.int p2), .val (.int p3), .val (.int u9), .val (.int u12), .val (.int u18), .val (.ref a28), .val (.int u59), .val (.int (1 : Int32))] [(.int (1 : Int32))]))) (fun _ k => XS.goto X155.here hx rfl (pc0 := 146) (pc' := 150) rfl (hb hby at_146) (by decide) (by decide) k) ?_
          refine oRetZ X155 hx hlk hret (Or.inr rfl) (hb hby at_150) ?_ (by decide) (by decide)
          exact ⟨rfl, N159⟩
        · have g161 := oNlt hc149
          refine OGoal.mp (S' := (T130.setTop (mkF m 101 #[.val (.int p1), .val (.int p2), .val (.int p3), .val (.int u9), .val (.int u12), .val (.int u18), .val (.ref a28), .val (.int u59), .unset] []))) (fun _ k => XS.icmpNo X132.here hx rfl (hb hby at_98) rfl (XT.ii_lt_f hc149) k) ?_
          refine OGoal.mp (S' := (T130.setTop (mkF m 103 #[.val (.int p1), .val (.int p2), .val (.int p3), .val (.int u9), .val (.int u12), .val (.int u18), .val (.ref a28), .val (.int u59), .unset] [(.ref a28)]))) (fun _ k => XS.aload X132.here hx rfl (hb hby at_101) rfl rfl k) ?_
          refine oCallV (y := (⟨"com/example/andesite/andesite/data/ValueCounts", "canGrow", "()Z"⟩ : MethodName)) (z := (⟨"com/example/andesite/andesite/data/ValueCounts", "canGrow", "()Z"⟩ : MethodName)) X132 hx hZ hown (hw _ (List.mem_of_getElem? (i := 33) rfl)) (hw _ (List.mem_of_getElem? (i := 34) rfl)) (hw _ (List.mem_of_getElem? (i := 36) rfl)) (hw _ (List.mem_of_getElem? (i := 35) rfl)) (hw _ (List.mem_of_getElem? (i := 2) rfl)) (hw _ (List.mem_of_getElem? (i := 37) rfl)) (by decide) (rmC64 l Z a0 hw a28 T130.heap n0 Z148 u18 d134 _ F141 F142 A140) rfl E138 [] [] rfl rfl (by rw [hml]; rfl) (notFace_of_selects (args := #[]) (mvT hZ (hw _ (List.mem_of_getElem? (i := 36) rfl)))) (lenOf own_pd___Z rfl) 0 (Nat.le_of_eq rfl) (by decide) (by decide) (by decide) (by decide) (hb hby at_103) ?_
          intro v162 T163 L164 X165 q166
          obtain ⟨rfl, N167, e168⟩ := q166
          have N169 := Fr.app N146 N167
          rw [if_pos (by omega)]
          show OGoal p e below s _ _ _ (T163.setTop (mkF m 106 #[.val (.int p1), .val (.int p2), .val (.int p3), .val (.int u9), .val (.int u12), .val (.int u18), .val (.ref a28), .val (.int u59), .unset] [(.int (1 : Int32))]))
          have hd170 : ¬ ((1 : Int32) = 0) := mNe (by omega)
          refine OGoal.mp (S' := (T163.setTop (mkF m 111 #[.val (.int p1), .val (.int p2), .val (.int p3), .val (.int u9), .val (.int u12), .val (.int u18), .val (.ref a28), .val (.int u59), .unset] []))) (fun _ k => XS.ifYes X165.here hx rfl (pc0 := 106) (pc' := 111) rfl (hb hby at_106) rfl (XT.i0_ne_t hd170) (by decide) (by decide) k) ?_
          refine OGoal.mp (S' := (T163.setTop (mkF m 113 #[.val (.int p1), .val (.int p2), .val (.int p3), .val (.int u9), .val (.int u12), .val (.int u18), .val (.ref a28), .val (.int u59), .unset] [(.ref a28)]))) (fun _ k => XS.aload X165.here hx rfl (hb hby at_111) rfl rfl k) ?_
          have hs128 := c_imul (128 : Int32) u18
          rw [show (128 : Int32).toInt = 128 by decide] at hs128
          have := rng32 ((128 : Int32) * u18)
          refine oCallV (y := (⟨"com/example/andesite/andesite/data/ValueCounts", "grow", "()V"⟩ : MethodName)) (z := (⟨"com/example/andesite/andesite/data/ValueCounts", "grow", "()V"⟩ : MethodName)) X165 hx hZ hown (hw _ (List.mem_of_getElem? (i := 40) rfl)) (hw _ (List.mem_of_getElem? (i := 41) rfl)) (hw _ (List.mem_of_getElem? (i := 43) rfl)) (hw _ (List.mem_of_getElem? (i := 42) rfl)) (hw _ (List.mem_of_getElem? (i := 2) rfl)) (hw _ (List.mem_of_getElem? (i := 44) rfl)) (by decide) (rmG64 l Z a0 hw a28 T130.heap n0 Z148 u18 0 sh136 d134 c135 E138 F141 F142 F143 F144 F145 A140 ab36 nq147.symm (by omega) (by omega) (by omega)) e168 E138 [] [] rfl rfl (by rw [hml]; rfl) (notFace_of_selects (args := #[]) (mvT hZ (hw _ (List.mem_of_getElem? (i := 43) rfl)))) (lenOf own_pd___V rfl) 0 (Nat.le_of_eq rfl) (by decide) (by decide) (by decide) (by decide) (hb hby at_113) ?_
          intro v171 T172 L173 X174 q175
          obtain ⟨d176, c177, sh178, rfl, N179, E180, F183, F184, F185, F186, F187, A182, K181⟩ := q175
          have N188 := Fr.app N169 N179
          have nq189 := oNeA E180 (hw _ (List.mem_of_getElem? (i := 1) rfl)) A182
          have Z190 : n0 ≤ T172.heap.size := Nat.le_trans ab36 (Nat.le_of_lt E180.lt)
          show OGoal p e below s _ _ _ (T172.setTop (mkF m 116 #[.val (.int p1), .val (.int p2), .val (.int p3), .val (.int u9), .val (.int u12), .val (.int u18), .val (.ref a28), .val (.int u59), .unset] []))
          refine OGoal.mp (S' := (T172.setTop (mkF m 118 #[.val (.int p1), .val (.int p2), .val (.int p3), .val (.int u9), .val (.int u12), .val (.int u18), .val (.ref a28), .val (.int u59), .unset] [(.int u12)]))) (fun _ k => XS.iload X174.here hx rfl (hb hby at_116) rfl k) ?_
          have hd191 : u12 = 0 := mEq (by omega)
          refine OGoal.mp (S' := (T172.setTop (mkF m 128 #[.val (.int p1), .val (.int p2), .val (.int p3), .val (.int u9), .val (.int u12), .val (.int u18), .val (.ref a28), .val (.int u59), .unset] []))) (fun _ k => XS.ifYes X174.here hx rfl (pc0 := 118) (pc' := 128) rfl (hb hby at_118) rfl (XT.i0_eq_t hd191) (by decide) (by decide) k) ?_
          refine OGoal.mp (S' := (T172.setTop (mkF m 129 #[.val (.int p1), .val (.int p2), .val (.int p3), .val (.int u9), .val (.int u12), .val (.int u18), .val (.ref a28), .val (.int u59), .unset] [(.int (1 : Int32))]))) (fun _ k => XS.iconst X174.here hx rfl (hb hby at_128) k) ?_
          refine OGoal.mp (S' := (T172.setTop (mkF m 133 #[.val (.int p1), .val (.int p2), .val (.int p3), .val (.int u9), .val (.int u12), .val (.int u18), .val (.ref a28), .val (.int u59), .unset] [(.int (1 : Int32))]))) (fun _ k => XS.goto X174.here hx rfl (pc0 := 129) (pc' := 133) rfl (hb hby at_129) (by decide) (by decide) k) ?_
          refine OGoal.mp (S' := (T172.setTop (mkF m 135 #[.val (.int p1), .val (.int p2), .val (.int p3), .val (.int u9), .val (.int u12), .val (.int u18), .val (.ref a28), .val (.int u59), .val (.int (1 : Int32))] []))) (fun _ k => XS.istore X174.here hx rfl (hb hby at_133) rfl (l' := #[.val (.int p1), .val (.int p2), .val (.int p3), .val (.int u9), .val (.int u12), .val (.int u18), .val (.ref a28), .val (.int u59), .val (.int (1 : Int32))]) rfl k) ?_
          refine OGoal.mp (S' := (T172.setTop (mkF m 137 #[.val (.int p1), .val (.int p2), .val (.int p3), .val (.int u9), .val (.int u12), .val (.int u18), .val (.ref a28), .val (.int u59), .val (.int (1 : Int32))] [(.ref a28)]))) (fun _ k => XS.aload X174.here hx rfl (hb hby at_135) rfl rfl k) ?_
          refine oCallV (y := (⟨"com/example/andesite/andesite/data/ValueCounts", "canGrow", "()Z"⟩ : MethodName)) (z := (⟨"com/example/andesite/andesite/data/ValueCounts", "canGrow", "()Z"⟩ : MethodName)) X174 hx hZ hown (hw _ (List.mem_of_getElem? (i := 33) rfl)) (hw _ (List.mem_of_getElem? (i := 34) rfl)) (hw _ (List.mem_of_getElem? (i := 36) rfl)) (hw _ (List.mem_of_getElem? (i := 35) rfl)) (hw _ (List.mem_of_getElem? (i := 2) rfl)) (hw _ (List.mem_of_getElem? (i := 37) rfl)) (by decide) (rmC128 l Z a0 hw a28 T172.heap n0 Z190 u18 d176 _ F183 F184 A182) rfl E180 [] [] rfl rfl (by rw [hml]; rfl) (notFace_of_selects (args := #[]) (mvT hZ (hw _ (List.mem_of_getElem? (i := 36) rfl)))) (lenOf own_pd___Z rfl) 0 (Nat.le_of_eq rfl) (by decide) (by decide) (by decide) (by decide) (hb hby at_137) ?_
          intro v192 T193 L194 X195 q196
          obtain ⟨rfl, N197, e198⟩ := q196
          have N199 := Fr.app N188 N197
          rw [if_pos (by omega)]
          show OGoal p e below s _ _ _ (T193.setTop (mkF m 140 #[.val (.int p1), .val (.int p2), .val (.int p3), .val (.int u9), .val (.int u12), .val (.int u18), .val (.ref a28), .val (.int u59), .val (.int (1 : Int32))] [(.int (1 : Int32))]))
          refine OGoal.mp (S' := (T193.setTop (mkF m 142 #[.val (.int p1), .val (.int p2), .val (.int p3), .val (.int u9), .val (.int u12), .val (.int u18), .val (.ref a28), .val (.int u59), .val (.int (1 : Int32))] [(.int (1 : Int32)), (.int (1 : Int32))]))) (fun _ k => XS.iload X195.here hx rfl (hb hby at_140) rfl k) ?_
          have hd200 : (1 : Int32) = (1 : Int32) := mEq (by omega)
          refine OGoal.mp (S' := (T193.setTop (mkF m 145 #[.val (.int p1), .val (.int p2), .val (.int p3), .val (.int u9), .val (.int u12), .val (.int u18), .val (.ref a28), .val (.int u59), .val (.int (1 : Int32))] []))) (fun _ k => XS.icmpNo X195.here hx rfl (hb hby at_142) rfl (XT.ii_ne_f hd200) k) ?_
          refine OGoal.mp (S' := (T193.setTop (mkF m 146 #[.val (.int p1), .val (.int p2), .val (.int p3), .val (.int u9), .val (.int u12), .val (.int u18), .val (.ref a28), .val (.int u59), .val (.int (1 : Int32))] [(.int (1 : Int32))]))) (fun _ k => XS.iconst X195.here hx rfl (hb hby at_145) k) ?_
          refine OGoal.mp (S' := (T193.setTop (mkF m 150 #[.val (.int p1), .val (.int p2), .val (.int p3), .val (.int u9), .val (.int u12), .val (.int u18), .val (.ref a28), .val (.int u59), .val (.int (1 : Int32))] [(.int (1 : Int32))]))) (fun _ k => XS.goto X195.here hx rfl (pc0 := 146) (pc' := 150) rfl (hb hby at_146) (by decide) (by decide) k) ?_
          refine oRetZ X195 hx hlk hret (Or.inr rfl) (hb hby at_150) ?_ (by decide) (by decide)
          exact ⟨rfl, N199⟩
  · have g201 := oNe hc57
    refine OGoal.mp (S' := (T38.setTop (mkF m 37 #[.val (.int p1), .val (.int p2), .val (.int p3), .val (.int u9), .val (.int u12), .val (.int u18), .val (.ref a28), .unset, .unset] []))) (fun _ k => XS.ifNo X40.here hx rfl (hb hby at_34) rfl (XT.i0_eq_f hc57) k) ?_
    refine OGoal.mp (S' := (T38.setTop (mkF m 39 #[.val (.int p1), .val (.int p2), .val (.int p3), .val (.int u9), .val (.int u12), .val (.int u18), .val (.ref a28), .unset, .unset] [(.int u12)]))) (fun _ k => XS.iload X40.here hx rfl (hb hby at_37) rfl k) ?_
    refine OGoal.mp (S' := (T38.setTop (mkF m 41 #[.val (.int p1), .val (.int p2), .val (.int p3), .val (.int u9), .val (.int u12), .val (.int u18), .val (.ref a28), .unset, .unset] [(.int (8 : Int32)), (.int u12)]))) (fun _ k => XS.bipush X40.here hx rfl (hb hby at_39) k) ?_
    by_cases hc202 : u12 < (8 : Int32)
    · have g203 := oLt hc202
      refine OGoal.mp (S' := (T38.setTop (mkF m 50 #[.val (.int p1), .val (.int p2), .val (.int p3), .val (.int u9), .val (.int u12), .val (.int u18), .val (.ref a28), .unset, .unset] []))) (fun _ k => XS.icmpYes X40.here hx rfl (pc0 := 41) (pc' := 50) rfl (hb hby at_41) rfl (XT.ii_lt_t hc202) (by decide) (by decide) k) ?_
      refine OGoal.mp (S' := (T38.setTop (mkF m 51 #[.val (.int p1), .val (.int p2), .val (.int p3), .val (.int u9), .val (.int u12), .val (.int u18), .val (.ref a28), .unset, .unset] [(.int (0 : Int32))]))) (fun _ k => XS.iconst X40.here hx rfl (hb hby at_50) k) ?_
      refine OGoal.mp (S' := (T38.setTop (mkF m 53 #[.val (.int p1), .val (.int p2), .val (.int p3), .val (.int u9), .val (.int u12), .val (.int u18), .val (.ref a28), .val (.int (0 : Int32)), .unset] []))) (fun _ k => XS.istore X40.here hx rfl (hb hby at_51) rfl (l' := #[.val (.int p1), .val (.int p2), .val (.int p3), .val (.int u9), .val (.int u12), .val (.int u18), .val (.ref a28), .val (.int (0 : Int32)), .unset]) rfl k) ?_
      refine OGoal.mp (S' := (T38.setTop (mkF m 55 #[.val (.int p1), .val (.int p2), .val (.int p3), .val (.int u9), .val (.int u12), .val (.int u18), .val (.ref a28), .val (.int (0 : Int32)), .unset] [(.int (0 : Int32))]))) (fun _ k => XS.iload X40.here hx rfl (hb hby at_53) rfl k) ?_
      refine OGoal.mp (S' := (T38.setTop (mkF m 56 #[.val (.int p1), .val (.int p2), .val (.int p3), .val (.int u9), .val (.int u12), .val (.int u18), .val (.ref a28), .val (.int (0 : Int32)), .unset] [(.int (1 : Int32)), (.int (0 : Int32))]))) (fun _ k => XS.iconst X40.here hx rfl (hb hby at_55) k) ?_
      have hd204 : (0 : Int32) < (1 : Int32) := mLt (by omega)
      refine OGoal.mp (S' := (T38.setTop (mkF m 74 #[.val (.int p1), .val (.int p2), .val (.int p3), .val (.int u9), .val (.int u12), .val (.int u18), .val (.ref a28), .val (.int (0 : Int32)), .unset] []))) (fun _ k => XS.icmpYes X40.here hx rfl (pc0 := 56) (pc' := 74) rfl (hb hby at_56) rfl (XT.ii_lt_t hd204) (by decide) (by decide) k) ?_
      refine OGoal.mp (S' := (T38.setTop (mkF m 76 #[.val (.int p1), .val (.int p2), .val (.int p3), .val (.int u9), .val (.int u12), .val (.int u18), .val (.ref a28), .val (.int (0 : Int32)), .unset] [(.int (0 : Int32))]))) (fun _ k => XS.iload X40.here hx rfl (hb hby at_74) rfl k) ?_
      refine OGoal.mp (S' := (T38.setTop (mkF m 77 #[.val (.int p1), .val (.int p2), .val (.int p3), .val (.int u9), .val (.int u12), .val (.int u18), .val (.ref a28), .val (.int (0 : Int32)), .unset] [(.int (2 : Int32)), (.int (0 : Int32))]))) (fun _ k => XS.iconst X40.here hx rfl (hb hby at_76) k) ?_
      have hd205 : (0 : Int32) < (2 : Int32) := mLt (by omega)
      refine OGoal.mp (S' := (T38.setTop (mkF m 95 #[.val (.int p1), .val (.int p2), .val (.int p3), .val (.int u9), .val (.int u12), .val (.int u18), .val (.ref a28), .val (.int (0 : Int32)), .unset] []))) (fun _ k => XS.icmpYes X40.here hx rfl (pc0 := 77) (pc' := 95) rfl (hb hby at_77) rfl (XT.ii_lt_t hd205) (by decide) (by decide) k) ?_
      refine OGoal.mp (S' := (T38.setTop (mkF m 97 #[.val (.int p1), .val (.int p2), .val (.int p3), .val (.int u9), .val (.int u12), .val (.int u18), .val (.ref a28), .val (.int (0 : Int32)), .unset] [(.int (0 : Int32))]))) (fun _ k => XS.iload X40.here hx rfl (hb hby at_95) rfl k) ?_
      refine OGoal.mp (S' := (T38.setTop (mkF m 98 #[.val (.int p1), .val (.int p2), .val (.int p3), .val (.int u9), .val (.int u12), .val (.int u18), .val (.ref a28), .val (.int (0 : Int32)), .unset] [(.int (3 : Int32)), (.int (0 : Int32))]))) (fun _ k => XS.iconst X40.here hx rfl (hb hby at_97) k) ?_
      have hd206 : (0 : Int32) < (3 : Int32) := mLt (by omega)
      refine OGoal.mp (S' := (T38.setTop (mkF m 116 #[.val (.int p1), .val (.int p2), .val (.int p3), .val (.int u9), .val (.int u12), .val (.int u18), .val (.ref a28), .val (.int (0 : Int32)), .unset] []))) (fun _ k => XS.icmpYes X40.here hx rfl (pc0 := 98) (pc' := 116) rfl (hb hby at_98) rfl (XT.ii_lt_t hd206) (by decide) (by decide) k) ?_
      refine OGoal.mp (S' := (T38.setTop (mkF m 118 #[.val (.int p1), .val (.int p2), .val (.int p3), .val (.int u9), .val (.int u12), .val (.int u18), .val (.ref a28), .val (.int (0 : Int32)), .unset] [(.int u12)]))) (fun _ k => XS.iload X40.here hx rfl (hb hby at_116) rfl k) ?_
      have hd207 : ¬ (u12 = 0) := mNe (by omega)
      refine OGoal.mp (S' := (T38.setTop (mkF m 121 #[.val (.int p1), .val (.int p2), .val (.int p3), .val (.int u9), .val (.int u12), .val (.int u18), .val (.ref a28), .val (.int (0 : Int32)), .unset] []))) (fun _ k => XS.ifNo X40.here hx rfl (hb hby at_118) rfl (XT.i0_eq_f hd207) k) ?_
      refine OGoal.mp (S' := (T38.setTop (mkF m 123 #[.val (.int p1), .val (.int p2), .val (.int p3), .val (.int u9), .val (.int u12), .val (.int u18), .val (.ref a28), .val (.int (0 : Int32)), .unset] [(.int u12)]))) (fun _ k => XS.iload X40.here hx rfl (hb hby at_121) rfl k) ?_
      refine OGoal.mp (S' := (T38.setTop (mkF m 125 #[.val (.int p1), .val (.int p2), .val (.int p3), .val (.int u9), .val (.int u12), .val (.int u18), .val (.ref a28), .val (.int (0 : Int32)), .unset] [(.int (8 : Int32)), (.int u12)]))) (fun _ k => XS.bipush X40.here hx rfl (hb hby at_123) k) ?_
      have hd208 : u12 < (8 : Int32) := mLt (by omega)
      refine OGoal.mp (S' := (T38.setTop (mkF m 132 #[.val (.int p1), .val (.int p2), .val (.int p3), .val (.int u9), .val (.int u12), .val (.int u18), .val (.ref a28), .val (.int (0 : Int32)), .unset] []))) (fun _ k => XS.icmpYes X40.here hx rfl (pc0 := 125) (pc' := 132) rfl (hb hby at_125) rfl (XT.ii_lt_t hd208) (by decide) (by decide) k) ?_
      refine OGoal.mp (S' := (T38.setTop (mkF m 133 #[.val (.int p1), .val (.int p2), .val (.int p3), .val (.int u9), .val (.int u12), .val (.int u18), .val (.ref a28), .val (.int (0 : Int32)), .unset] [(.int (0 : Int32))]))) (fun _ k => XS.iconst X40.here hx rfl (hb hby at_132) k) ?_
      refine OGoal.mp (S' := (T38.setTop (mkF m 135 #[.val (.int p1), .val (.int p2), .val (.int p3), .val (.int u9), .val (.int u12), .val (.int u18), .val (.ref a28), .val (.int (0 : Int32)), .val (.int (0 : Int32))] []))) (fun _ k => XS.istore X40.here hx rfl (hb hby at_133) rfl (l' := #[.val (.int p1), .val (.int p2), .val (.int p3), .val (.int u9), .val (.int u12), .val (.int u18), .val (.ref a28), .val (.int (0 : Int32)), .val (.int (0 : Int32))]) rfl k) ?_
      refine OGoal.mp (S' := (T38.setTop (mkF m 137 #[.val (.int p1), .val (.int p2), .val (.int p3), .val (.int u9), .val (.int u12), .val (.int u18), .val (.ref a28), .val (.int (0 : Int32)), .val (.int (0 : Int32))] [(.ref a28)]))) (fun _ k => XS.aload X40.here hx rfl (hb hby at_135) rfl rfl k) ?_
      refine oCallV (y := (⟨"com/example/andesite/andesite/data/ValueCounts", "canGrow", "()Z"⟩ : MethodName)) (z := (⟨"com/example/andesite/andesite/data/ValueCounts", "canGrow", "()Z"⟩ : MethodName)) X40 hx hZ hown (hw _ (List.mem_of_getElem? (i := 33) rfl)) (hw _ (List.mem_of_getElem? (i := 34) rfl)) (hw _ (List.mem_of_getElem? (i := 36) rfl)) (hw _ (List.mem_of_getElem? (i := 35) rfl)) (hw _ (List.mem_of_getElem? (i := 2) rfl)) (hw _ (List.mem_of_getElem? (i := 37) rfl)) (by decide) (rmC16 l Z a0 hw a28 T38.heap n0 Z56 u18 d42 _ F49 F50 A48) rfl E46 [] [] rfl rfl (by rw [hml]; rfl) (notFace_of_selects (args := #[]) (mvT hZ (hw _ (List.mem_of_getElem? (i := 36) rfl)))) (lenOf own_pd___Z rfl) 0 (Nat.le_of_eq rfl) (by decide) (by decide) (by decide) (by decide) (hb hby at_137) ?_
      intro v209 T210 L211 X212 q213
      obtain ⟨rfl, N214, e215⟩ := q213
      have N216 := Fr.app N54 N214
      rw [if_neg (by omega)]
      show OGoal p e below s _ _ _ (T210.setTop (mkF m 140 #[.val (.int p1), .val (.int p2), .val (.int p3), .val (.int u9), .val (.int u12), .val (.int u18), .val (.ref a28), .val (.int (0 : Int32)), .val (.int (0 : Int32))] [(.int (0 : Int32))]))
      refine OGoal.mp (S' := (T210.setTop (mkF m 142 #[.val (.int p1), .val (.int p2), .val (.int p3), .val (.int u9), .val (.int u12), .val (.int u18), .val (.ref a28), .val (.int (0 : Int32)), .val (.int (0 : Int32))] [(.int (0 : Int32)), (.int (0 : Int32))]))) (fun _ k => XS.iload X212.here hx rfl (hb hby at_140) rfl k) ?_
      have hd217 : (0 : Int32) = (0 : Int32) := mEq (by omega)
      refine OGoal.mp (S' := (T210.setTop (mkF m 145 #[.val (.int p1), .val (.int p2), .val (.int p3), .val (.int u9), .val (.int u12), .val (.int u18), .val (.ref a28), .val (.int (0 : Int32)), .val (.int (0 : Int32))] []))) (fun _ k => XS.icmpNo X212.here hx rfl (hb hby at_142) rfl (XT.ii_ne_f hd217) k) ?_
      refine OGoal.mp (S' := (T210.setTop (mkF m 146 #[.val (.int p1), .val (.int p2), .val (.int p3), .val (.int u9), .val (.int u12), .val (.int u18), .val (.ref a28), .val (.int (0 : Int32)), .val (.int (0 : Int32))] [(.int (1 : Int32))]))) (fun _ k => XS.iconst X212.here hx rfl (hb hby at_145) k) ?_
      refine OGoal.mp (S' := (T210.setTop (mkF m 150 #[.val (.int p1), .val (.int p2), .val (.int p3), .val (.int u9), .val (.int u12), .val (.int u18), .val (.ref a28), .val (.int (0 : Int32)), .val (.int (0 : Int32))] [(.int (1 : Int32))]))) (fun _ k => XS.goto X212.here hx rfl (pc0 := 146) (pc' := 150) rfl (hb hby at_146) (by decide) (by decide) k) ?_
      refine oRetZ X212 hx hlk hret (Or.inr rfl) (hb hby at_150) ?_ (by decide) (by decide)
      exact ⟨rfl, N216⟩
    · have g218 := oNlt hc202
      refine OGoal.mp (S' := (T38.setTop (mkF m 44 #[.val (.int p1), .val (.int p2), .val (.int p3), .val (.int u9), .val (.int u12), .val (.int u18), .val (.ref a28), .unset, .unset] []))) (fun _ k => XS.icmpNo X40.here hx rfl (hb hby at_41) rfl (XT.ii_lt_f hc202) k) ?_
      refine OGoal.mp (S' := (T38.setTop (mkF m 45 #[.val (.int p1), .val (.int p2), .val (.int p3), .val (.int u9), .val (.int u12), .val (.int u18), .val (.ref a28), .unset, .unset] [(.int p3)]))) (fun _ k => XS.iloadN X40.here hx rfl (hb hby at_44) rfl k) ?_
      refine OGoal.mp (S' := (T38.setTop (mkF m 46 #[.val (.int p1), .val (.int p2), .val (.int p3), .val (.int u9), .val (.int u12), .val (.int u18), .val (.ref a28), .unset, .unset] [(.int (3 : Int32)), (.int p3)]))) (fun _ k => XS.iconst X40.here hx rfl (hb hby at_45) k) ?_
      refine OGoal.mp (S' := (T38.setTop (mkF m 47 #[.val (.int p1), .val (.int p2), .val (.int p3), .val (.int u9), .val (.int u12), .val (.int u18), .val (.ref a28), .unset, .unset] [(.int (p3 &&& (3 : Int32)))]))) (fun _ k => XS.iand X40.here hx rfl (hb hby at_46) rfl k) ?_
      obtain ⟨u219, hu219⟩ : ∃ z : Int32, z = (p3 &&& (3 : Int32)) := ⟨_, rfl⟩
      rw [← hu219]
      have t220 : u219.toInt = (p3).toInt % 4 := by rw [hu219]; exact c_mask p3 (3 : Int32) 2 (by decide) (by decide)
      have r221 := rng32 u219
      refine OGoal.mp (S' := (T38.setTop (mkF m 51 #[.val (.int p1), .val (.int p2), .val (.int p3), .val (.int u9), .val (.int u12), .val (.int u18), .val (.ref a28), .unset, .unset] [(.int u219)]))) (fun _ k => XS.goto X40.here hx rfl (pc0 := 47) (pc' := 51) rfl (hb hby at_47) (by decide) (by decide) k) ?_
      refine OGoal.mp (S' := (T38.setTop (mkF m 53 #[.val (.int p1), .val (.int p2), .val (.int p3), .val (.int u9), .val (.int u12), .val (.int u18), .val (.ref a28), .val (.int u219), .unset] []))) (fun _ k => XS.istore X40.here hx rfl (hb hby at_51) rfl (l' := #[.val (.int p1), .val (.int p2), .val (.int p3), .val (.int u9), .val (.int u12), .val (.int u18), .val (.ref a28), .val (.int u219), .unset]) rfl k) ?_
      refine OGoal.mp (S' := (T38.setTop (mkF m 55 #[.val (.int p1), .val (.int p2), .val (.int p3), .val (.int u9), .val (.int u12), .val (.int u18), .val (.ref a28), .val (.int u219), .unset] [(.int u219)]))) (fun _ k => XS.iload X40.here hx rfl (hb hby at_53) rfl k) ?_
      refine OGoal.mp (S' := (T38.setTop (mkF m 56 #[.val (.int p1), .val (.int p2), .val (.int p3), .val (.int u9), .val (.int u12), .val (.int u18), .val (.ref a28), .val (.int u219), .unset] [(.int (1 : Int32)), (.int u219)]))) (fun _ k => XS.iconst X40.here hx rfl (hb hby at_55) k) ?_
      by_cases hc222 : u219 < (1 : Int32)
      · have g223 := oLt hc222
        refine OGoal.mp (S' := (T38.setTop (mkF m 74 #[.val (.int p1), .val (.int p2), .val (.int p3), .val (.int u9), .val (.int u12), .val (.int u18), .val (.ref a28), .val (.int u219), .unset] []))) (fun _ k => XS.icmpYes X40.here hx rfl (pc0 := 56) (pc' := 74) rfl (hb hby at_56) rfl (XT.ii_lt_t hc222) (by decide) (by decide) k) ?_
        refine OGoal.mp (S' := (T38.setTop (mkF m 76 #[.val (.int p1), .val (.int p2), .val (.int p3), .val (.int u9), .val (.int u12), .val (.int u18), .val (.ref a28), .val (.int u219), .unset] [(.int u219)]))) (fun _ k => XS.iload X40.here hx rfl (hb hby at_74) rfl k) ?_
        refine OGoal.mp (S' := (T38.setTop (mkF m 77 #[.val (.int p1), .val (.int p2), .val (.int p3), .val (.int u9), .val (.int u12), .val (.int u18), .val (.ref a28), .val (.int u219), .unset] [(.int (2 : Int32)), (.int u219)]))) (fun _ k => XS.iconst X40.here hx rfl (hb hby at_76) k) ?_
        have hd224 : u219 < (2 : Int32) := mLt (by omega)
        refine OGoal.mp (S' := (T38.setTop (mkF m 95 #[.val (.int p1), .val (.int p2), .val (.int p3), .val (.int u9), .val (.int u12), .val (.int u18), .val (.ref a28), .val (.int u219), .unset] []))) (fun _ k => XS.icmpYes X40.here hx rfl (pc0 := 77) (pc' := 95) rfl (hb hby at_77) rfl (XT.ii_lt_t hd224) (by decide) (by decide) k) ?_
        refine OGoal.mp (S' := (T38.setTop (mkF m 97 #[.val (.int p1), .val (.int p2), .val (.int p3), .val (.int u9), .val (.int u12), .val (.int u18), .val (.ref a28), .val (.int u219), .unset] [(.int u219)]))) (fun _ k => XS.iload X40.here hx rfl (hb hby at_95) rfl k) ?_
        refine OGoal.mp (S' := (T38.setTop (mkF m 98 #[.val (.int p1), .val (.int p2), .val (.int p3), .val (.int u9), .val (.int u12), .val (.int u18), .val (.ref a28), .val (.int u219), .unset] [(.int (3 : Int32)), (.int u219)]))) (fun _ k => XS.iconst X40.here hx rfl (hb hby at_97) k) ?_
        have hd225 : u219 < (3 : Int32) := mLt (by omega)
        refine OGoal.mp (S' := (T38.setTop (mkF m 116 #[.val (.int p1), .val (.int p2), .val (.int p3), .val (.int u9), .val (.int u12), .val (.int u18), .val (.ref a28), .val (.int u219), .unset] []))) (fun _ k => XS.icmpYes X40.here hx rfl (pc0 := 98) (pc' := 116) rfl (hb hby at_98) rfl (XT.ii_lt_t hd225) (by decide) (by decide) k) ?_
        refine OGoal.mp (S' := (T38.setTop (mkF m 118 #[.val (.int p1), .val (.int p2), .val (.int p3), .val (.int u9), .val (.int u12), .val (.int u18), .val (.ref a28), .val (.int u219), .unset] [(.int u12)]))) (fun _ k => XS.iload X40.here hx rfl (hb hby at_116) rfl k) ?_
        have hd226 : ¬ (u12 = 0) := mNe (by omega)
        refine OGoal.mp (S' := (T38.setTop (mkF m 121 #[.val (.int p1), .val (.int p2), .val (.int p3), .val (.int u9), .val (.int u12), .val (.int u18), .val (.ref a28), .val (.int u219), .unset] []))) (fun _ k => XS.ifNo X40.here hx rfl (hb hby at_118) rfl (XT.i0_eq_f hd226) k) ?_
        refine OGoal.mp (S' := (T38.setTop (mkF m 123 #[.val (.int p1), .val (.int p2), .val (.int p3), .val (.int u9), .val (.int u12), .val (.int u18), .val (.ref a28), .val (.int u219), .unset] [(.int u12)]))) (fun _ k => XS.iload X40.here hx rfl (hb hby at_121) rfl k) ?_
        refine OGoal.mp (S' := (T38.setTop (mkF m 125 #[.val (.int p1), .val (.int p2), .val (.int p3), .val (.int u9), .val (.int u12), .val (.int u18), .val (.ref a28), .val (.int u219), .unset] [(.int (8 : Int32)), (.int u12)]))) (fun _ k => XS.bipush X40.here hx rfl (hb hby at_123) k) ?_
        have hd227 : ¬ (u12 < (8 : Int32)) := mNlt (by omega)
        refine OGoal.mp (S' := (T38.setTop (mkF m 128 #[.val (.int p1), .val (.int p2), .val (.int p3), .val (.int u9), .val (.int u12), .val (.int u18), .val (.ref a28), .val (.int u219), .unset] []))) (fun _ k => XS.icmpNo X40.here hx rfl (hb hby at_125) rfl (XT.ii_lt_f hd227) k) ?_
        refine OGoal.mp (S' := (T38.setTop (mkF m 129 #[.val (.int p1), .val (.int p2), .val (.int p3), .val (.int u9), .val (.int u12), .val (.int u18), .val (.ref a28), .val (.int u219), .unset] [(.int (1 : Int32))]))) (fun _ k => XS.iconst X40.here hx rfl (hb hby at_128) k) ?_
        refine OGoal.mp (S' := (T38.setTop (mkF m 133 #[.val (.int p1), .val (.int p2), .val (.int p3), .val (.int u9), .val (.int u12), .val (.int u18), .val (.ref a28), .val (.int u219), .unset] [(.int (1 : Int32))]))) (fun _ k => XS.goto X40.here hx rfl (pc0 := 129) (pc' := 133) rfl (hb hby at_129) (by decide) (by decide) k) ?_
        refine OGoal.mp (S' := (T38.setTop (mkF m 135 #[.val (.int p1), .val (.int p2), .val (.int p3), .val (.int u9), .val (.int u12), .val (.int u18), .val (.ref a28), .val (.int u219), .val (.int (1 : Int32))] []))) (fun _ k => XS.istore X40.here hx rfl (hb hby at_133) rfl (l' := #[.val (.int p1), .val (.int p2), .val (.int p3), .val (.int u9), .val (.int u12), .val (.int u18), .val (.ref a28), .val (.int u219), .val (.int (1 : Int32))]) rfl k) ?_
        refine OGoal.mp (S' := (T38.setTop (mkF m 137 #[.val (.int p1), .val (.int p2), .val (.int p3), .val (.int u9), .val (.int u12), .val (.int u18), .val (.ref a28), .val (.int u219), .val (.int (1 : Int32))] [(.ref a28)]))) (fun _ k => XS.aload X40.here hx rfl (hb hby at_135) rfl rfl k) ?_
        refine oCallV (y := (⟨"com/example/andesite/andesite/data/ValueCounts", "canGrow", "()Z"⟩ : MethodName)) (z := (⟨"com/example/andesite/andesite/data/ValueCounts", "canGrow", "()Z"⟩ : MethodName)) X40 hx hZ hown (hw _ (List.mem_of_getElem? (i := 33) rfl)) (hw _ (List.mem_of_getElem? (i := 34) rfl)) (hw _ (List.mem_of_getElem? (i := 36) rfl)) (hw _ (List.mem_of_getElem? (i := 35) rfl)) (hw _ (List.mem_of_getElem? (i := 2) rfl)) (hw _ (List.mem_of_getElem? (i := 37) rfl)) (by decide) (rmC16 l Z a0 hw a28 T38.heap n0 Z56 u18 d42 _ F49 F50 A48) rfl E46 [] [] rfl rfl (by rw [hml]; rfl) (notFace_of_selects (args := #[]) (mvT hZ (hw _ (List.mem_of_getElem? (i := 36) rfl)))) (lenOf own_pd___Z rfl) 0 (Nat.le_of_eq rfl) (by decide) (by decide) (by decide) (by decide) (hb hby at_137) ?_
        intro v228 T229 L230 X231 q232
        obtain ⟨rfl, N233, e234⟩ := q232
        have N235 := Fr.app N54 N233
        rw [if_pos (by omega)]
        show OGoal p e below s _ _ _ (T229.setTop (mkF m 140 #[.val (.int p1), .val (.int p2), .val (.int p3), .val (.int u9), .val (.int u12), .val (.int u18), .val (.ref a28), .val (.int u219), .val (.int (1 : Int32))] [(.int (1 : Int32))]))
        refine OGoal.mp (S' := (T229.setTop (mkF m 142 #[.val (.int p1), .val (.int p2), .val (.int p3), .val (.int u9), .val (.int u12), .val (.int u18), .val (.ref a28), .val (.int u219), .val (.int (1 : Int32))] [(.int (1 : Int32)), (.int (1 : Int32))]))) (fun _ k => XS.iload X231.here hx rfl (hb hby at_140) rfl k) ?_
        have hd236 : (1 : Int32) = (1 : Int32) := mEq (by omega)
        refine OGoal.mp (S' := (T229.setTop (mkF m 145 #[.val (.int p1), .val (.int p2), .val (.int p3), .val (.int u9), .val (.int u12), .val (.int u18), .val (.ref a28), .val (.int u219), .val (.int (1 : Int32))] []))) (fun _ k => XS.icmpNo X231.here hx rfl (hb hby at_142) rfl (XT.ii_ne_f hd236) k) ?_
        refine OGoal.mp (S' := (T229.setTop (mkF m 146 #[.val (.int p1), .val (.int p2), .val (.int p3), .val (.int u9), .val (.int u12), .val (.int u18), .val (.ref a28), .val (.int u219), .val (.int (1 : Int32))] [(.int (1 : Int32))]))) (fun _ k => XS.iconst X231.here hx rfl (hb hby at_145) k) ?_
        refine OGoal.mp (S' := (T229.setTop (mkF m 150 #[.val (.int p1), .val (.int p2), .val (.int p3), .val (.int u9), .val (.int u12), .val (.int u18), .val (.ref a28), .val (.int u219), .val (.int (1 : Int32))] [(.int (1 : Int32))]))) (fun _ k => XS.goto X231.here hx rfl (pc0 := 146) (pc' := 150) rfl (hb hby at_146) (by decide) (by decide) k) ?_
        refine oRetZ X231 hx hlk hret (Or.inr rfl) (hb hby at_150) ?_ (by decide) (by decide)
        exact ⟨rfl, N235⟩
      · have g237 := oNlt hc222
        refine OGoal.mp (S' := (T38.setTop (mkF m 59 #[.val (.int p1), .val (.int p2), .val (.int p3), .val (.int u9), .val (.int u12), .val (.int u18), .val (.ref a28), .val (.int u219), .unset] []))) (fun _ k => XS.icmpNo X40.here hx rfl (hb hby at_56) rfl (XT.ii_lt_f hc222) k) ?_
        refine OGoal.mp (S' := (T38.setTop (mkF m 61 #[.val (.int p1), .val (.int p2), .val (.int p3), .val (.int u9), .val (.int u12), .val (.int u18), .val (.ref a28), .val (.int u219), .unset] [(.ref a28)]))) (fun _ k => XS.aload X40.here hx rfl (hb hby at_59) rfl rfl k) ?_
        refine oCallV (y := (⟨"com/example/andesite/andesite/data/ValueCounts", "canGrow", "()Z"⟩ : MethodName)) (z := (⟨"com/example/andesite/andesite/data/ValueCounts", "canGrow", "()Z"⟩ : MethodName)) X40 hx hZ hown (hw _ (List.mem_of_getElem? (i := 33) rfl)) (hw _ (List.mem_of_getElem? (i := 34) rfl)) (hw _ (List.mem_of_getElem? (i := 36) rfl)) (hw _ (List.mem_of_getElem? (i := 35) rfl)) (hw _ (List.mem_of_getElem? (i := 2) rfl)) (hw _ (List.mem_of_getElem? (i := 37) rfl)) (by decide) (rmC16 l Z a0 hw a28 T38.heap n0 Z56 u18 d42 _ F49 F50 A48) rfl E46 [] [] rfl rfl (by rw [hml]; rfl) (notFace_of_selects (args := #[]) (mvT hZ (hw _ (List.mem_of_getElem? (i := 36) rfl)))) (lenOf own_pd___Z rfl) 0 (Nat.le_of_eq rfl) (by decide) (by decide) (by decide) (by decide) (hb hby at_61) ?_
        intro v238 T239 L240 X241 q242
        obtain ⟨rfl, N243, e244⟩ := q242
        have N245 := Fr.app N54 N243
        rw [if_pos (by omega)]
        show OGoal p e below s _ _ _ (T239.setTop (mkF m 64 #[.val (.int p1), .val (.int p2), .val (.int p3), .val (.int u9), .val (.int u12), .val (.int u18), .val (.ref a28), .val (.int u219), .unset] [(.int (1 : Int32))]))
        have hd246 : ¬ ((1 : Int32) = 0) := mNe (by omega)
        refine OGoal.mp (S' := (T239.setTop (mkF m 69 #[.val (.int p1), .val (.int p2), .val (.int p3), .val (.int u9), .val (.int u12), .val (.int u18), .val (.ref a28), .val (.int u219), .unset] []))) (fun _ k => XS.ifYes X241.here hx rfl (pc0 := 64) (pc' := 69) rfl (hb hby at_64) rfl (XT.i0_ne_t hd246) (by decide) (by decide) k) ?_
        refine OGoal.mp (S' := (T239.setTop (mkF m 71 #[.val (.int p1), .val (.int p2), .val (.int p3), .val (.int u9), .val (.int u12), .val (.int u18), .val (.ref a28), .val (.int u219), .unset] [(.ref a28)]))) (fun _ k => XS.aload X241.here hx rfl (hb hby at_69) rfl rfl k) ?_
        have hs32 := c_imul (32 : Int32) u18
        rw [show (32 : Int32).toInt = 32 by decide] at hs32
        have := rng32 ((32 : Int32) * u18)
        refine oCallV (y := (⟨"com/example/andesite/andesite/data/ValueCounts", "grow", "()V"⟩ : MethodName)) (z := (⟨"com/example/andesite/andesite/data/ValueCounts", "grow", "()V"⟩ : MethodName)) X241 hx hZ hown (hw _ (List.mem_of_getElem? (i := 40) rfl)) (hw _ (List.mem_of_getElem? (i := 41) rfl)) (hw _ (List.mem_of_getElem? (i := 43) rfl)) (hw _ (List.mem_of_getElem? (i := 42) rfl)) (hw _ (List.mem_of_getElem? (i := 2) rfl)) (hw _ (List.mem_of_getElem? (i := 44) rfl)) (by decide) (rmG16 l Z a0 hw a28 T38.heap n0 Z56 u18 0 sh44 d42 c43 E46 F49 F50 F51 F52 F53 A48 ab36 nq55.symm (by omega) (by omega) (by omega)) e244 E46 [] [] rfl rfl (by rw [hml]; rfl) (notFace_of_selects (args := #[]) (mvT hZ (hw _ (List.mem_of_getElem? (i := 43) rfl)))) (lenOf own_pd___V rfl) 0 (Nat.le_of_eq rfl) (by decide) (by decide) (by decide) (by decide) (hb hby at_71) ?_
        intro v247 T248 L249 X250 q251
        obtain ⟨d252, c253, sh254, rfl, N255, E256, F259, F260, F261, F262, F263, A258, K257⟩ := q251
        have N264 := Fr.app N245 N255
        have nq265 := oNeA E256 (hw _ (List.mem_of_getElem? (i := 1) rfl)) A258
        have Z266 : n0 ≤ T248.heap.size := Nat.le_trans ab36 (Nat.le_of_lt E256.lt)
        show OGoal p e below s _ _ _ (T248.setTop (mkF m 74 #[.val (.int p1), .val (.int p2), .val (.int p3), .val (.int u9), .val (.int u12), .val (.int u18), .val (.ref a28), .val (.int u219), .unset] []))
        refine OGoal.mp (S' := (T248.setTop (mkF m 76 #[.val (.int p1), .val (.int p2), .val (.int p3), .val (.int u9), .val (.int u12), .val (.int u18), .val (.ref a28), .val (.int u219), .unset] [(.int u219)]))) (fun _ k => XS.iload X250.here hx rfl (hb hby at_74) rfl k) ?_
        refine OGoal.mp (S' := (T248.setTop (mkF m 77 #[.val (.int p1), .val (.int p2), .val (.int p3), .val (.int u9), .val (.int u12), .val (.int u18), .val (.ref a28), .val (.int u219), .unset] [(.int (2 : Int32)), (.int u219)]))) (fun _ k => XS.iconst X250.here hx rfl (hb hby at_76) k) ?_
        by_cases hc267 : u219 < (2 : Int32)
        · have g268 := oLt hc267
          refine OGoal.mp (S' := (T248.setTop (mkF m 95 #[.val (.int p1), .val (.int p2), .val (.int p3), .val (.int u9), .val (.int u12), .val (.int u18), .val (.ref a28), .val (.int u219), .unset] []))) (fun _ k => XS.icmpYes X250.here hx rfl (pc0 := 77) (pc' := 95) rfl (hb hby at_77) rfl (XT.ii_lt_t hc267) (by decide) (by decide) k) ?_
          refine OGoal.mp (S' := (T248.setTop (mkF m 97 #[.val (.int p1), .val (.int p2), .val (.int p3), .val (.int u9), .val (.int u12), .val (.int u18), .val (.ref a28), .val (.int u219), .unset] [(.int u219)]))) (fun _ k => XS.iload X250.here hx rfl (hb hby at_95) rfl k) ?_
          refine OGoal.mp (S' := (T248.setTop (mkF m 98 #[.val (.int p1), .val (.int p2), .val (.int p3), .val (.int u9), .val (.int u12), .val (.int u18), .val (.ref a28), .val (.int u219), .unset] [(.int (3 : Int32)), (.int u219)]))) (fun _ k => XS.iconst X250.here hx rfl (hb hby at_97) k) ?_
          have hd269 : u219 < (3 : Int32) := mLt (by omega)
          refine OGoal.mp (S' := (T248.setTop (mkF m 116 #[.val (.int p1), .val (.int p2), .val (.int p3), .val (.int u9), .val (.int u12), .val (.int u18), .val (.ref a28), .val (.int u219), .unset] []))) (fun _ k => XS.icmpYes X250.here hx rfl (pc0 := 98) (pc' := 116) rfl (hb hby at_98) rfl (XT.ii_lt_t hd269) (by decide) (by decide) k) ?_
          refine OGoal.mp (S' := (T248.setTop (mkF m 118 #[.val (.int p1), .val (.int p2), .val (.int p3), .val (.int u9), .val (.int u12), .val (.int u18), .val (.ref a28), .val (.int u219), .unset] [(.int u12)]))) (fun _ k => XS.iload X250.here hx rfl (hb hby at_116) rfl k) ?_
          have hd270 : ¬ (u12 = 0) := mNe (by omega)
          refine OGoal.mp (S' := (T248.setTop (mkF m 121 #[.val (.int p1), .val (.int p2), .val (.int p3), .val (.int u9), .val (.int u12), .val (.int u18), .val (.ref a28), .val (.int u219), .unset] []))) (fun _ k => XS.ifNo X250.here hx rfl (hb hby at_118) rfl (XT.i0_eq_f hd270) k) ?_
          refine OGoal.mp (S' := (T248.setTop (mkF m 123 #[.val (.int p1), .val (.int p2), .val (.int p3), .val (.int u9), .val (.int u12), .val (.int u18), .val (.ref a28), .val (.int u219), .unset] [(.int u12)]))) (fun _ k => XS.iload X250.here hx rfl (hb hby at_121) rfl k) ?_
          refine OGoal.mp (S' := (T248.setTop (mkF m 125 #[.val (.int p1), .val (.int p2), .val (.int p3), .val (.int u9), .val (.int u12), .val (.int u18), .val (.ref a28), .val (.int u219), .unset] [(.int (8 : Int32)), (.int u12)]))) (fun _ k => XS.bipush X250.here hx rfl (hb hby at_123) k) ?_
          have hd271 : ¬ (u12 < (8 : Int32)) := mNlt (by omega)
          refine OGoal.mp (S' := (T248.setTop (mkF m 128 #[.val (.int p1), .val (.int p2), .val (.int p3), .val (.int u9), .val (.int u12), .val (.int u18), .val (.ref a28), .val (.int u219), .unset] []))) (fun _ k => XS.icmpNo X250.here hx rfl (hb hby at_125) rfl (XT.ii_lt_f hd271) k) ?_
          refine OGoal.mp (S' := (T248.setTop (mkF m 129 #[.val (.int p1), .val (.int p2), .val (.int p3), .val (.int u9), .val (.int u12), .val (.int u18), .val (.ref a28), .val (.int u219), .unset] [(.int (1 : Int32))]))) (fun _ k => XS.iconst X250.here hx rfl (hb hby at_128) k) ?_
          refine OGoal.mp (S' := (T248.setTop (mkF m 133 #[.val (.int p1), .val (.int p2), .val (.int p3), .val (.int u9), .val (.int u12), .val (.int u18), .val (.ref a28), .val (.int u219), .unset] [(.int (1 : Int32))]))) (fun _ k => XS.goto X250.here hx rfl (pc0 := 129) (pc' := 133) rfl (hb hby at_129) (by decide) (by decide) k) ?_
          refine OGoal.mp (S' := (T248.setTop (mkF m 135 #[.val (.int p1), .val (.int p2), .val (.int p3), .val (.int u9), .val (.int u12), .val (.int u18), .val (.ref a28), .val (.int u219), .val (.int (1 : Int32))] []))) (fun _ k => XS.istore X250.here hx rfl (hb hby at_133) rfl (l' := #[.val (.int p1), .val (.int p2), .val (.int p3), .val (.int u9), .val (.int u12), .val (.int u18), .val (.ref a28), .val (.int u219), .val (.int (1 : Int32))]) rfl k) ?_
          refine OGoal.mp (S' := (T248.setTop (mkF m 137 #[.val (.int p1), .val (.int p2), .val (.int p3), .val (.int u9), .val (.int u12), .val (.int u18), .val (.ref a28), .val (.int u219), .val (.int (1 : Int32))] [(.ref a28)]))) (fun _ k => XS.aload X250.here hx rfl (hb hby at_135) rfl rfl k) ?_
          refine oCallV (y := (⟨"com/example/andesite/andesite/data/ValueCounts", "canGrow", "()Z"⟩ : MethodName)) (z := (⟨"com/example/andesite/andesite/data/ValueCounts", "canGrow", "()Z"⟩ : MethodName)) X250 hx hZ hown (hw _ (List.mem_of_getElem? (i := 33) rfl)) (hw _ (List.mem_of_getElem? (i := 34) rfl)) (hw _ (List.mem_of_getElem? (i := 36) rfl)) (hw _ (List.mem_of_getElem? (i := 35) rfl)) (hw _ (List.mem_of_getElem? (i := 2) rfl)) (hw _ (List.mem_of_getElem? (i := 37) rfl)) (by decide) (rmC32 l Z a0 hw a28 T248.heap n0 Z266 u18 d252 _ F259 F260 A258) rfl E256 [] [] rfl rfl (by rw [hml]; rfl) (notFace_of_selects (args := #[]) (mvT hZ (hw _ (List.mem_of_getElem? (i := 36) rfl)))) (lenOf own_pd___Z rfl) 0 (Nat.le_of_eq rfl) (by decide) (by decide) (by decide) (by decide) (hb hby at_137) ?_
          intro v272 T273 L274 X275 q276
          obtain ⟨rfl, N277, e278⟩ := q276
          have N279 := Fr.app N264 N277
          rw [if_pos (by omega)]
          show OGoal p e below s _ _ _ (T273.setTop (mkF m 140 #[.val (.int p1), .val (.int p2), .val (.int p3), .val (.int u9), .val (.int u12), .val (.int u18), .val (.ref a28), .val (.int u219), .val (.int (1 : Int32))] [(.int (1 : Int32))]))
          refine OGoal.mp (S' := (T273.setTop (mkF m 142 #[.val (.int p1), .val (.int p2), .val (.int p3), .val (.int u9), .val (.int u12), .val (.int u18), .val (.ref a28), .val (.int u219), .val (.int (1 : Int32))] [(.int (1 : Int32)), (.int (1 : Int32))]))) (fun _ k => XS.iload X275.here hx rfl (hb hby at_140) rfl k) ?_
          have hd280 : (1 : Int32) = (1 : Int32) := mEq (by omega)
          refine OGoal.mp (S' := (T273.setTop (mkF m 145 #[.val (.int p1), .val (.int p2), .val (.int p3), .val (.int u9), .val (.int u12), .val (.int u18), .val (.ref a28), .val (.int u219), .val (.int (1 : Int32))] []))) (fun _ k => XS.icmpNo X275.here hx rfl (hb hby at_142) rfl (XT.ii_ne_f hd280) k) ?_
          refine OGoal.mp (S' := (T273.setTop (mkF m 146 #[.val (.int p1), .val (.int p2), .val (.int p3), .val (.int u9), .val (.int u12), .val (.int u18), .val (.ref a28), .val (.int u219), .val (.int (1 : Int32))] [(.int (1 : Int32))]))) (fun _ k => XS.iconst X275.here hx rfl (hb hby at_145) k) ?_
          refine OGoal.mp (S' := (T273.setTop (mkF m 150 #[.val (.int p1), .val (.int p2), .val (.int p3), .val (.int u9), .val (.int u12), .val (.int u18), .val (.ref a28), .val (.int u219), .val (.int (1 : Int32))] [(.int (1 : Int32))]))) (fun _ k => XS.goto X275.here hx rfl (pc0 := 146) (pc' := 150) rfl (hb hby at_146) (by decide) (by decide) k) ?_
          refine oRetZ X275 hx hlk hret (Or.inr rfl) (hb hby at_150) ?_ (by decide) (by decide)
          exact ⟨rfl, N279⟩
        · have g281 := oNlt hc267
          refine OGoal.mp (S' := (T248.setTop (mkF m 80 #[.val (.int p1), .val (.int p2), .val (.int p3), .val (.int u9), .val (.int u12), .val (.int u18), .val (.ref a28), .val (.int u219), .unset] []))) (fun _ k => XS.icmpNo X250.here hx rfl (hb hby at_77) rfl (XT.ii_lt_f hc267) k) ?_
          refine OGoal.mp (S' := (T248.setTop (mkF m 82 #[.val (.int p1), .val (.int p2), .val (.int p3), .val (.int u9), .val (.int u12), .val (.int u18), .val (.ref a28), .val (.int u219), .unset] [(.ref a28)]))) (fun _ k => XS.aload X250.here hx rfl (hb hby at_80) rfl rfl k) ?_
          refine oCallV (y := (⟨"com/example/andesite/andesite/data/ValueCounts", "canGrow", "()Z"⟩ : MethodName)) (z := (⟨"com/example/andesite/andesite/data/ValueCounts", "canGrow", "()Z"⟩ : MethodName)) X250 hx hZ hown (hw _ (List.mem_of_getElem? (i := 33) rfl)) (hw _ (List.mem_of_getElem? (i := 34) rfl)) (hw _ (List.mem_of_getElem? (i := 36) rfl)) (hw _ (List.mem_of_getElem? (i := 35) rfl)) (hw _ (List.mem_of_getElem? (i := 2) rfl)) (hw _ (List.mem_of_getElem? (i := 37) rfl)) (by decide) (rmC32 l Z a0 hw a28 T248.heap n0 Z266 u18 d252 _ F259 F260 A258) rfl E256 [] [] rfl rfl (by rw [hml]; rfl) (notFace_of_selects (args := #[]) (mvT hZ (hw _ (List.mem_of_getElem? (i := 36) rfl)))) (lenOf own_pd___Z rfl) 0 (Nat.le_of_eq rfl) (by decide) (by decide) (by decide) (by decide) (hb hby at_82) ?_
          intro v282 T283 L284 X285 q286
          obtain ⟨rfl, N287, e288⟩ := q286
          have N289 := Fr.app N264 N287
          rw [if_pos (by omega)]
          show OGoal p e below s _ _ _ (T283.setTop (mkF m 85 #[.val (.int p1), .val (.int p2), .val (.int p3), .val (.int u9), .val (.int u12), .val (.int u18), .val (.ref a28), .val (.int u219), .unset] [(.int (1 : Int32))]))
          have hd290 : ¬ ((1 : Int32) = 0) := mNe (by omega)
          refine OGoal.mp (S' := (T283.setTop (mkF m 90 #[.val (.int p1), .val (.int p2), .val (.int p3), .val (.int u9), .val (.int u12), .val (.int u18), .val (.ref a28), .val (.int u219), .unset] []))) (fun _ k => XS.ifYes X285.here hx rfl (pc0 := 85) (pc' := 90) rfl (hb hby at_85) rfl (XT.i0_ne_t hd290) (by decide) (by decide) k) ?_
          refine OGoal.mp (S' := (T283.setTop (mkF m 92 #[.val (.int p1), .val (.int p2), .val (.int p3), .val (.int u9), .val (.int u12), .val (.int u18), .val (.ref a28), .val (.int u219), .unset] [(.ref a28)]))) (fun _ k => XS.aload X285.here hx rfl (hb hby at_90) rfl rfl k) ?_
          have hs64 := c_imul (64 : Int32) u18
          rw [show (64 : Int32).toInt = 64 by decide] at hs64
          have := rng32 ((64 : Int32) * u18)
          refine oCallV (y := (⟨"com/example/andesite/andesite/data/ValueCounts", "grow", "()V"⟩ : MethodName)) (z := (⟨"com/example/andesite/andesite/data/ValueCounts", "grow", "()V"⟩ : MethodName)) X285 hx hZ hown (hw _ (List.mem_of_getElem? (i := 40) rfl)) (hw _ (List.mem_of_getElem? (i := 41) rfl)) (hw _ (List.mem_of_getElem? (i := 43) rfl)) (hw _ (List.mem_of_getElem? (i := 42) rfl)) (hw _ (List.mem_of_getElem? (i := 2) rfl)) (hw _ (List.mem_of_getElem? (i := 44) rfl)) (by decide) (rmG32 l Z a0 hw a28 T248.heap n0 Z266 u18 0 sh254 d252 c253 E256 F259 F260 F261 F262 F263 A258 ab36 nq265.symm (by omega) (by omega) (by omega)) e288 E256 [] [] rfl rfl (by rw [hml]; rfl) (notFace_of_selects (args := #[]) (mvT hZ (hw _ (List.mem_of_getElem? (i := 43) rfl)))) (lenOf own_pd___V rfl) 0 (Nat.le_of_eq rfl) (by decide) (by decide) (by decide) (by decide) (hb hby at_92) ?_
          intro v291 T292 L293 X294 q295
          obtain ⟨d296, c297, sh298, rfl, N299, E300, F303, F304, F305, F306, F307, A302, K301⟩ := q295
          have N308 := Fr.app N289 N299
          have nq309 := oNeA E300 (hw _ (List.mem_of_getElem? (i := 1) rfl)) A302
          have Z310 : n0 ≤ T292.heap.size := Nat.le_trans ab36 (Nat.le_of_lt E300.lt)
          show OGoal p e below s _ _ _ (T292.setTop (mkF m 95 #[.val (.int p1), .val (.int p2), .val (.int p3), .val (.int u9), .val (.int u12), .val (.int u18), .val (.ref a28), .val (.int u219), .unset] []))
          refine OGoal.mp (S' := (T292.setTop (mkF m 97 #[.val (.int p1), .val (.int p2), .val (.int p3), .val (.int u9), .val (.int u12), .val (.int u18), .val (.ref a28), .val (.int u219), .unset] [(.int u219)]))) (fun _ k => XS.iload X294.here hx rfl (hb hby at_95) rfl k) ?_
          refine OGoal.mp (S' := (T292.setTop (mkF m 98 #[.val (.int p1), .val (.int p2), .val (.int p3), .val (.int u9), .val (.int u12), .val (.int u18), .val (.ref a28), .val (.int u219), .unset] [(.int (3 : Int32)), (.int u219)]))) (fun _ k => XS.iconst X294.here hx rfl (hb hby at_97) k) ?_
          by_cases hc311 : u219 < (3 : Int32)
          · have g312 := oLt hc311
            refine OGoal.mp (S' := (T292.setTop (mkF m 116 #[.val (.int p1), .val (.int p2), .val (.int p3), .val (.int u9), .val (.int u12), .val (.int u18), .val (.ref a28), .val (.int u219), .unset] []))) (fun _ k => XS.icmpYes X294.here hx rfl (pc0 := 98) (pc' := 116) rfl (hb hby at_98) rfl (XT.ii_lt_t hc311) (by decide) (by decide) k) ?_
            refine OGoal.mp (S' := (T292.setTop (mkF m 118 #[.val (.int p1), .val (.int p2), .val (.int p3), .val (.int u9), .val (.int u12), .val (.int u18), .val (.ref a28), .val (.int u219), .unset] [(.int u12)]))) (fun _ k => XS.iload X294.here hx rfl (hb hby at_116) rfl k) ?_
            have hd313 : ¬ (u12 = 0) := mNe (by omega)
            refine OGoal.mp (S' := (T292.setTop (mkF m 121 #[.val (.int p1), .val (.int p2), .val (.int p3), .val (.int u9), .val (.int u12), .val (.int u18), .val (.ref a28), .val (.int u219), .unset] []))) (fun _ k => XS.ifNo X294.here hx rfl (hb hby at_118) rfl (XT.i0_eq_f hd313) k) ?_
            refine OGoal.mp (S' := (T292.setTop (mkF m 123 #[.val (.int p1), .val (.int p2), .val (.int p3), .val (.int u9), .val (.int u12), .val (.int u18), .val (.ref a28), .val (.int u219), .unset] [(.int u12)]))) (fun _ k => XS.iload X294.here hx rfl (hb hby at_121) rfl k) ?_
            refine OGoal.mp (S' := (T292.setTop (mkF m 125 #[.val (.int p1), .val (.int p2), .val (.int p3), .val (.int u9), .val (.int u12), .val (.int u18), .val (.ref a28), .val (.int u219), .unset] [(.int (8 : Int32)), (.int u12)]))) (fun _ k => XS.bipush X294.here hx rfl (hb hby at_123) k) ?_
            have hd314 : ¬ (u12 < (8 : Int32)) := mNlt (by omega)
            refine OGoal.mp (S' := (T292.setTop (mkF m 128 #[.val (.int p1), .val (.int p2), .val (.int p3), .val (.int u9), .val (.int u12), .val (.int u18), .val (.ref a28), .val (.int u219), .unset] []))) (fun _ k => XS.icmpNo X294.here hx rfl (hb hby at_125) rfl (XT.ii_lt_f hd314) k) ?_
            refine OGoal.mp (S' := (T292.setTop (mkF m 129 #[.val (.int p1), .val (.int p2), .val (.int p3), .val (.int u9), .val (.int u12), .val (.int u18), .val (.ref a28), .val (.int u219), .unset] [(.int (1 : Int32))]))) (fun _ k => XS.iconst X294.here hx rfl (hb hby at_128) k) ?_
            refine OGoal.mp (S' := (T292.setTop (mkF m 133 #[.val (.int p1), .val (.int p2), .val (.int p3), .val (.int u9), .val (.int u12), .val (.int u18), .val (.ref a28), .val (.int u219), .unset] [(.int (1 : Int32))]))) (fun _ k => XS.goto X294.here hx rfl (pc0 := 129) (pc' := 133) rfl (hb hby at_129) (by decide) (by decide) k) ?_
            refine OGoal.mp (S' := (T292.setTop (mkF m 135 #[.val (.int p1), .val (.int p2), .val (.int p3), .val (.int u9), .val (.int u12), .val (.int u18), .val (.ref a28), .val (.int u219), .val (.int (1 : Int32))] []))) (fun _ k => XS.istore X294.here hx rfl (hb hby at_133) rfl (l' := #[.val (.int p1), .val (.int p2), .val (.int p3), .val (.int u9), .val (.int u12), .val (.int u18), .val (.ref a28), .val (.int u219), .val (.int (1 : Int32))]) rfl k) ?_
            refine OGoal.mp (S' := (T292.setTop (mkF m 137 #[.val (.int p1), .val (.int p2), .val (.int p3), .val (.int u9), .val (.int u12), .val (.int u18), .val (.ref a28), .val (.int u219), .val (.int (1 : Int32))] [(.ref a28)]))) (fun _ k => XS.aload X294.here hx rfl (hb hby at_135) rfl rfl k) ?_
            refine oCallV (y := (⟨"com/example/andesite/andesite/data/ValueCounts", "canGrow", "()Z"⟩ : MethodName)) (z := (⟨"com/example/andesite/andesite/data/ValueCounts", "canGrow", "()Z"⟩ : MethodName)) X294 hx hZ hown (hw _ (List.mem_of_getElem? (i := 33) rfl)) (hw _ (List.mem_of_getElem? (i := 34) rfl)) (hw _ (List.mem_of_getElem? (i := 36) rfl)) (hw _ (List.mem_of_getElem? (i := 35) rfl)) (hw _ (List.mem_of_getElem? (i := 2) rfl)) (hw _ (List.mem_of_getElem? (i := 37) rfl)) (by decide) (rmC64 l Z a0 hw a28 T292.heap n0 Z310 u18 d296 _ F303 F304 A302) rfl E300 [] [] rfl rfl (by rw [hml]; rfl) (notFace_of_selects (args := #[]) (mvT hZ (hw _ (List.mem_of_getElem? (i := 36) rfl)))) (lenOf own_pd___Z rfl) 0 (Nat.le_of_eq rfl) (by decide) (by decide) (by decide) (by decide) (hb hby at_137) ?_
            intro v315 T316 L317 X318 q319
            obtain ⟨rfl, N320, e321⟩ := q319
            have N322 := Fr.app N308 N320
            rw [if_pos (by omega)]
            show OGoal p e below s _ _ _ (T316.setTop (mkF m 140 #[.val (.int p1), .val (.int p2), .val (.int p3), .val (.int u9), .val (.int u12), .val (.int u18), .val (.ref a28), .val (.int u219), .val (.int (1 : Int32))] [(.int (1 : Int32))]))
            refine OGoal.mp (S' := (T316.setTop (mkF m 142 #[.val (.int p1), .val (.int p2), .val (.int p3), .val (.int u9), .val (.int u12), .val (.int u18), .val (.ref a28), .val (.int u219), .val (.int (1 : Int32))] [(.int (1 : Int32)), (.int (1 : Int32))]))) (fun _ k => XS.iload X318.here hx rfl (hb hby at_140) rfl k) ?_
            have hd323 : (1 : Int32) = (1 : Int32) := mEq (by omega)
            refine OGoal.mp (S' := (T316.setTop (mkF m 145 #[.val (.int p1), .val (.int p2), .val (.int p3), .val (.int u9), .val (.int u12), .val (.int u18), .val (.ref a28), .val (.int u219), .val (.int (1 : Int32))] []))) (fun _ k => XS.icmpNo X318.here hx rfl (hb hby at_142) rfl (XT.ii_ne_f hd323) k) ?_
            refine OGoal.mp (S' := (T316.setTop (mkF m 146 #[.val (.int p1), .val (.int p2), .val (.int p3), .val (.int u9), .val (.int u12), .val (.int u18), .val (.ref a28), .val (.int u219), .val (.int (1 : Int32))] [(.int (1 : Int32))]))) (fun _ k => XS.iconst X318.here hx rfl (hb hby at_145) k) ?_
            refine OGoal.mp (S' := (T316.setTop (mkF m 150 #[.val (.int p1), .val (.int p2), .val (.int p3), .val (.int u9), .val (.int u12), .val (.int u18), .val (.ref a28), .val (.int u219), .val (.int (1 : Int32))] [(.int (1 : Int32))]))) (fun _ k => XS.goto X318.here hx rfl (pc0 := 146) (pc' := 150) rfl (hb hby at_146) (by decide) (by decide) k) ?_
            refine oRetZ X318 hx hlk hret (Or.inr rfl) (hb hby at_150) ?_ (by decide) (by decide)
            exact ⟨rfl, N322⟩
          · have g324 := oNlt hc311
            refine OGoal.mp (S' := (T292.setTop (mkF m 101 #[.val (.int p1), .val (.int p2), .val (.int p3), .val (.int u9), .val (.int u12), .val (.int u18), .val (.ref a28), .val (.int u219), .unset] []))) (fun _ k => XS.icmpNo X294.here hx rfl (hb hby at_98) rfl (XT.ii_lt_f hc311) k) ?_
            refine OGoal.mp (S' := (T292.setTop (mkF m 103 #[.val (.int p1), .val (.int p2), .val (.int p3), .val (.int u9), .val (.int u12), .val (.int u18), .val (.ref a28), .val (.int u219), .unset] [(.ref a28)]))) (fun _ k => XS.aload X294.here hx rfl (hb hby at_101) rfl rfl k) ?_
            refine oCallV (y := (⟨"com/example/andesite/andesite/data/ValueCounts", "canGrow", "()Z"⟩ : MethodName)) (z := (⟨"com/example/andesite/andesite/data/ValueCounts", "canGrow", "()Z"⟩ : MethodName)) X294 hx hZ hown (hw _ (List.mem_of_getElem? (i := 33) rfl)) (hw _ (List.mem_of_getElem? (i := 34) rfl)) (hw _ (List.mem_of_getElem? (i := 36) rfl)) (hw _ (List.mem_of_getElem? (i := 35) rfl)) (hw _ (List.mem_of_getElem? (i := 2) rfl)) (hw _ (List.mem_of_getElem? (i := 37) rfl)) (by decide) (rmC64 l Z a0 hw a28 T292.heap n0 Z310 u18 d296 _ F303 F304 A302) rfl E300 [] [] rfl rfl (by rw [hml]; rfl) (notFace_of_selects (args := #[]) (mvT hZ (hw _ (List.mem_of_getElem? (i := 36) rfl)))) (lenOf own_pd___Z rfl) 0 (Nat.le_of_eq rfl) (by decide) (by decide) (by decide) (by decide) (hb hby at_103) ?_
            intro v325 T326 L327 X328 q329
            obtain ⟨rfl, N330, e331⟩ := q329
            have N332 := Fr.app N308 N330
            rw [if_pos (by omega)]
            show OGoal p e below s _ _ _ (T326.setTop (mkF m 106 #[.val (.int p1), .val (.int p2), .val (.int p3), .val (.int u9), .val (.int u12), .val (.int u18), .val (.ref a28), .val (.int u219), .unset] [(.int (1 : Int32))]))
            have hd333 : ¬ ((1 : Int32) = 0) := mNe (by omega)
            refine OGoal.mp (S' := (T326.setTop (mkF m 111 #[.val (.int p1), .val (.int p2), .val (.int p3), .val (.int u9), .val (.int u12), .val (.int u18), .val (.ref a28), .val (.int u219), .unset] []))) (fun _ k => XS.ifYes X328.here hx rfl (pc0 := 106) (pc' := 111) rfl (hb hby at_106) rfl (XT.i0_ne_t hd333) (by decide) (by decide) k) ?_
            refine OGoal.mp (S' := (T326.setTop (mkF m 113 #[.val (.int p1), .val (.int p2), .val (.int p3), .val (.int u9), .val (.int u12), .val (.int u18), .val (.ref a28), .val (.int u219), .unset] [(.ref a28)]))) (fun _ k => XS.aload X328.here hx rfl (hb hby at_111) rfl rfl k) ?_
            have hs128 := c_imul (128 : Int32) u18
            rw [show (128 : Int32).toInt = 128 by decide] at hs128
            have := rng32 ((128 : Int32) * u18)
            refine oCallV (y := (⟨"com/example/andesite/andesite/data/ValueCounts", "grow", "()V"⟩ : MethodName)) (z := (⟨"com/example/andesite/andesite/data/ValueCounts", "grow", "()V"⟩ : MethodName)) X328 hx hZ hown (hw _ (List.mem_of_getElem? (i := 40) rfl)) (hw _ (List.mem_of_getElem? (i := 41) rfl)) (hw _ (List.mem_of_getElem? (i := 43) rfl)) (hw _ (List.mem_of_getElem? (i := 42) rfl)) (hw _ (List.mem_of_getElem? (i := 2) rfl)) (hw _ (List.mem_of_getElem? (i := 44) rfl)) (by decide) (rmG64 l Z a0 hw a28 T292.heap n0 Z310 u18 0 sh298 d296 c297 E300 F303 F304 F305 F306 F307 A302 ab36 nq309.symm (by omega) (by omega) (by omega)) e331 E300 [] [] rfl rfl (by rw [hml]; rfl) (notFace_of_selects (args := #[]) (mvT hZ (hw _ (List.mem_of_getElem? (i := 43) rfl)))) (lenOf own_pd___V rfl) 0 (Nat.le_of_eq rfl) (by decide) (by decide) (by decide) (by decide) (hb hby at_113) ?_
            intro v334 T335 L336 X337 q338
            obtain ⟨d339, c340, sh341, rfl, N342, E343, F346, F347, F348, F349, F350, A345, K344⟩ := q338
            have N351 := Fr.app N332 N342
            have nq352 := oNeA E343 (hw _ (List.mem_of_getElem? (i := 1) rfl)) A345
            have Z353 : n0 ≤ T335.heap.size := Nat.le_trans ab36 (Nat.le_of_lt E343.lt)
            show OGoal p e below s _ _ _ (T335.setTop (mkF m 116 #[.val (.int p1), .val (.int p2), .val (.int p3), .val (.int u9), .val (.int u12), .val (.int u18), .val (.ref a28), .val (.int u219), .unset] []))
            refine OGoal.mp (S' := (T335.setTop (mkF m 118 #[.val (.int p1), .val (.int p2), .val (.int p3), .val (.int u9), .val (.int u12), .val (.int u18), .val (.ref a28), .val (.int u219), .unset] [(.int u12)]))) (fun _ k => XS.iload X337.here hx rfl (hb hby at_116) rfl k) ?_
            have hd354 : ¬ (u12 = 0) := mNe (by omega)
            refine OGoal.mp (S' := (T335.setTop (mkF m 121 #[.val (.int p1), .val (.int p2), .val (.int p3), .val (.int u9), .val (.int u12), .val (.int u18), .val (.ref a28), .val (.int u219), .unset] []))) (fun _ k => XS.ifNo X337.here hx rfl (hb hby at_118) rfl (XT.i0_eq_f hd354) k) ?_
            refine OGoal.mp (S' := (T335.setTop (mkF m 123 #[.val (.int p1), .val (.int p2), .val (.int p3), .val (.int u9), .val (.int u12), .val (.int u18), .val (.ref a28), .val (.int u219), .unset] [(.int u12)]))) (fun _ k => XS.iload X337.here hx rfl (hb hby at_121) rfl k) ?_
            refine OGoal.mp (S' := (T335.setTop (mkF m 125 #[.val (.int p1), .val (.int p2), .val (.int p3), .val (.int u9), .val (.int u12), .val (.int u18), .val (.ref a28), .val (.int u219), .unset] [(.int (8 : Int32)), (.int u12)]))) (fun _ k => XS.bipush X337.here hx rfl (hb hby at_123) k) ?_
            have hd355 : ¬ (u12 < (8 : Int32)) := mNlt (by omega)
            refine OGoal.mp (S' := (T335.setTop (mkF m 128 #[.val (.int p1), .val (.int p2), .val (.int p3), .val (.int u9), .val (.int u12), .val (.int u18), .val (.ref a28), .val (.int u219), .unset] []))) (fun _ k => XS.icmpNo X337.here hx rfl (hb hby at_125) rfl (XT.ii_lt_f hd355) k) ?_
            refine OGoal.mp (S' := (T335.setTop (mkF m 129 #[.val (.int p1), .val (.int p2), .val (.int p3), .val (.int u9), .val (.int u12), .val (.int u18), .val (.ref a28), .val (.int u219), .unset] [(.int (1 : Int32))]))) (fun _ k => XS.iconst X337.here hx rfl (hb hby at_128) k) ?_
            refine OGoal.mp (S' := (T335.setTop (mkF m 133 #[.val (.int p1), .val (.int p2), .val (.int p3), .val (.int u9), .val (.int u12), .val (.int u18), .val (.ref a28), .val (.int u219), .unset] [(.int (1 : Int32))]))) (fun _ k => XS.goto X337.here hx rfl (pc0 := 129) (pc' := 133) rfl (hb hby at_129) (by decide) (by decide) k) ?_
            refine OGoal.mp (S' := (T335.setTop (mkF m 135 #[.val (.int p1), .val (.int p2), .val (.int p3), .val (.int u9), .val (.int u12), .val (.int u18), .val (.ref a28), .val (.int u219), .val (.int (1 : Int32))] []))) (fun _ k => XS.istore X337.here hx rfl (hb hby at_133) rfl (l' := #[.val (.int p1), .val (.int p2), .val (.int p3), .val (.int u9), .val (.int u12), .val (.int u18), .val (.ref a28), .val (.int u219), .val (.int (1 : Int32))]) rfl k) ?_
            refine OGoal.mp (S' := (T335.setTop (mkF m 137 #[.val (.int p1), .val (.int p2), .val (.int p3), .val (.int u9), .val (.int u12), .val (.int u18), .val (.ref a28), .val (.int u219), .val (.int (1 : Int32))] [(.ref a28)]))) (fun _ k => XS.aload X337.here hx rfl (hb hby at_135) rfl rfl k) ?_
            refine oCallV (y := (⟨"com/example/andesite/andesite/data/ValueCounts", "canGrow", "()Z"⟩ : MethodName)) (z := (⟨"com/example/andesite/andesite/data/ValueCounts", "canGrow", "()Z"⟩ : MethodName)) X337 hx hZ hown (hw _ (List.mem_of_getElem? (i := 33) rfl)) (hw _ (List.mem_of_getElem? (i := 34) rfl)) (hw _ (List.mem_of_getElem? (i := 36) rfl)) (hw _ (List.mem_of_getElem? (i := 35) rfl)) (hw _ (List.mem_of_getElem? (i := 2) rfl)) (hw _ (List.mem_of_getElem? (i := 37) rfl)) (by decide) (rmC128 l Z a0 hw a28 T335.heap n0 Z353 u18 d339 _ F346 F347 A345) rfl E343 [] [] rfl rfl (by rw [hml]; rfl) (notFace_of_selects (args := #[]) (mvT hZ (hw _ (List.mem_of_getElem? (i := 36) rfl)))) (lenOf own_pd___Z rfl) 0 (Nat.le_of_eq rfl) (by decide) (by decide) (by decide) (by decide) (hb hby at_137) ?_
            intro v356 T357 L358 X359 q360
            obtain ⟨rfl, N361, e362⟩ := q360
            have N363 := Fr.app N351 N361
            rw [if_pos (by omega)]
            show OGoal p e below s _ _ _ (T357.setTop (mkF m 140 #[.val (.int p1), .val (.int p2), .val (.int p3), .val (.int u9), .val (.int u12), .val (.int u18), .val (.ref a28), .val (.int u219), .val (.int (1 : Int32))] [(.int (1 : Int32))]))
            refine OGoal.mp (S' := (T357.setTop (mkF m 142 #[.val (.int p1), .val (.int p2), .val (.int p3), .val (.int u9), .val (.int u12), .val (.int u18), .val (.ref a28), .val (.int u219), .val (.int (1 : Int32))] [(.int (1 : Int32)), (.int (1 : Int32))]))) (fun _ k => XS.iload X359.here hx rfl (hb hby at_140) rfl k) ?_
            have hd364 : (1 : Int32) = (1 : Int32) := mEq (by omega)
            refine OGoal.mp (S' := (T357.setTop (mkF m 145 #[.val (.int p1), .val (.int p2), .val (.int p3), .val (.int u9), .val (.int u12), .val (.int u18), .val (.ref a28), .val (.int u219), .val (.int (1 : Int32))] []))) (fun _ k => XS.icmpNo X359.here hx rfl (hb hby at_142) rfl (XT.ii_ne_f hd364) k) ?_
            refine OGoal.mp (S' := (T357.setTop (mkF m 146 #[.val (.int p1), .val (.int p2), .val (.int p3), .val (.int u9), .val (.int u12), .val (.int u18), .val (.ref a28), .val (.int u219), .val (.int (1 : Int32))] [(.int (1 : Int32))]))) (fun _ k => XS.iconst X359.here hx rfl (hb hby at_145) k) ?_
            refine OGoal.mp (S' := (T357.setTop (mkF m 150 #[.val (.int p1), .val (.int p2), .val (.int p3), .val (.int u9), .val (.int u12), .val (.int u18), .val (.ref a28), .val (.int u219), .val (.int (1 : Int32))] [(.int (1 : Int32))]))) (fun _ k => XS.goto X359.here hx rfl (pc0 := 146) (pc' := 150) rfl (hb hby at_146) (by decide) (by decide) k) ?_
            refine oRetZ X359 hx hlk hret (Or.inr rfl) (hb hby at_150) ?_ (by decide) (by decide)
            exact ⟨rfl, N363⟩
set_option maxRecDepth 65536 in
set_option maxHeartbeats 40000000 in
theorem comes_1 {Post : Tables → Env → Array Value → State → Outcome → State → Prop} (hpost : ∀ tb e args s v u, (limb_1_1.after args s (.returned v) u = true ∧ limb_1_2.after args s (.returned v) u = true ∧ True) → FrameEnd s (.returned v) u (Jvm.fieldLocs frame_1_writes args s ++ Jvm.arrayLocs frame_1_arrays args s ++ Jvm.staticLocs frame_1_statics s) 32 123008 → Post tb e args s (.returned v) u) :
    ArmFor flags0 classFile x code maxLocals ret World_1 tables_1 room_1 Calls_1 rest_1 Pre_1 Post := by
  intro l hfl _ _ p e ha hc hk s m args below hf hA hF happ hP
  obtain ⟨hcalls, hrest, hpre⟩ := hP
  obtain ⟨-, -, -, hnamed, -, -, -, hat⟩ := (Spec.applies_iff hf).mp happ
  obtain ⟨hg, hn⟩ := and_e (Cond.before_iff.mp (show (Jvm.Cond.and given_1 narrow_1).before args s = true from hpre))
  obtain ⟨hcnt, hg⟩ := and_e hg
  obtain ⟨w0, w1, w2, rfl⟩ : ∃ w0 w1 w2 : Value, args = #[w0, w1, w2] := by
    have hs : args.size = 3 := by simpa [Cond.value, given_1] using hcnt
    obtain ⟨L⟩ := args
    match L, hs with
    | [w0, w1, w2], _ => exact ⟨w0, w1, w2, rfl⟩
  have hw := fun d (hd : d ∈ tables_1) => atoms_spec (ws := Jvm.Cond.code x code maxLocals ret :: tables_1) hat d (List.mem_cons_of_mem _ hd)
  have hfit : Fit s := fun {y c} hc i hi => by
    obtain ⟨ha, rfl⟩ := Array.getElem?_eq_some_iff.mp hc
    have q := List.all_eq_true.mp ((Array.all_eq_true_iff_forall_mem.mp hF) _ (Array.getElem_mem ha)) i (List.mem_range.mpr hi)
    simpa [Array.getElem?_eq_getElem hi] using q
  obtain ⟨hg0, hg⟩ := and_e hg
  obtain ⟨i0, ei0⟩ := is_v hg0
  obtain rfl : w0 = (.int i0) := Option.some.inj ei0
  obtain ⟨hg1, hg⟩ := and_e hg
  obtain ⟨i1, ei1⟩ := is_v hg1
  obtain rfl : w1 = (.int i1) := Option.some.inj ei1
  obtain ⟨i2, ei2⟩ := is_v hg
  obtain rfl : w2 = (.int i2) := Option.some.inj ei2
  obtain ⟨n, o, h1, h2, h3, _, L, rfl, ⟨rfl, N⟩, hq⟩ := rm0 l s _ hw i0 i1 i2 s.heap s.heap.size (Nat.le_refl _)  tables_1 p e ha hc hk s m _ below hf ((Spec.applies_iff_loose hf).mp happ).1 ⟨rfl, State.Warmed39.refl s, rfl⟩ trivial
  refine ⟨n, _, h1, h2, h3, hpost _ _ _ _ _ _ ⟨Cond.after_iff.mpr rfl, Cond.after_iff.mpr (eq_i res_at (Term.int_eval (1)) rfl), trivial⟩ ⟨hq.1, hq.2.1, (hq.2.2.sift fun y hy => Or.inr (N y hy)).mono (by decide) (by decide)⟩⟩
theorem main_1_1 : Claimed_1_1 := comes_1 fun _ _ _ _ _ _ h hF => ⟨h.1, hF⟩
theorem main_1_2 : Claimed_1_2 := comes_1 fun _ _ _ _ _ _ h hF => ⟨h.2.1, hF⟩
end Jvm.Pilot.@@N@@
namespace Jvm.Pilot.@@N@@
open Jvm Jvm.ClassFile Sem Op Lib Jvm.Free Jvm.Stand Jvm.Pilot.@@N@@.Jvm.D
/-! MADE BY PROGRAM (witnessworld.py) out of the Statement's table words and the real class files: 20 classes; the members and pool entries that the words name. The judged class is class 1, her method 1. -/
namespace start1
open Jvm.ClassFile
def u (s : String) : CpInfo := .utf8 (stringToUtf16 s)
/-- a pool by its gaps: so many unusable entries, then the entry; so many at the end -/
def gap : Nat → List CpInfo → List CpInfo
  | 0, r => r
  | n + 1, r => .unusable :: gap n r
def poolList (es : List (Nat × CpInfo)) (last : Nat) : List CpInfo := es.foldr (fun e r => gap e.1 (e.2 :: r)) (gap last [])
def pool (es : List (Nat × CpInfo)) (last : Nat) : Array CpInfo := ⟨poolList es last⟩
def fileOf (pool : Array CpInfo) (this : Nat) (attrs : Array Attribute := #[]) (ms : Array MethodInfo := #[]) (fl : Nat := 33) (sup : Nat := 0) (ifs : Array Nat := #[]) (fds : Array FieldInfo := #[]) : ClassFile where
  minorVersion := 0
  majorVersion := 65
  constantPool := pool
  accessFlags := fl
  thisClass := this
  superClass := sup
  interfaces := ifs
  fields := fds
  methods := ms
  attributes := attrs
def plain (name : String) (sup : Option ClassId) : Class where
  name := name
  kind := .ordinary
  loader := none
  accessFlags := 33
  super := sup
  interfaces := #[]
  cf := none
  fields := #[]
  methods := #[]
  instanceTypes := #[]
  staticTypes := #[]
  resolved := #[]
  callSites := []
  init := .initialized
  statics := none
  mirror := none

def pool0 : Array CpInfo := pool [(5, u "<init>"), (0, u "()V"), (1, .class_ 10), (1, u "java/lang/Object")] 113

def k0c0 : Code := { maxStack := 0, maxLocals := 1, code := object_method_1_code, exceptionTable := #[], attributes := #[] }
def k0m0 : Method := { name := "<init>", desc := "()V", sig := { parameters := [], returnType := none }, accessFlags := 1, code := some k0c0 }
/-- java/lang/Object -/
def k0 : Class := { plain "java/lang/Object" none with
  accessFlags := 33
  interfaces := #[]
  cf := some (fileOf pool0 8 #[] #[{ accessFlags := 1, nameIndex := 5, descriptorIndex := 6, attributes := #[] }] 33 0 #[] #[])
  fields := #[]
  methods := #[k0m0]
  instanceTypes := #[]
  staticTypes := #[]
  resolved := Array.replicate 124 none
  statics := none }

def pool1 : Array CpInfo := pool [(2, .class_ 4), (1, u "java/lang/Object"), (0, u "<init>"), (0, u "()V"), (0, .class_ 8), (0, u "com/example/andesite/andesite/data/ValueCounts"), (0, .methodref 7 10), (0, .nameAndType 5 11), (0, u "(I)V"), (0, .methodref 7 13), (0, .nameAndType 14 15), (0, u "canGrow"), (0, u "()Z"), (0, .methodref 7 17), (0, .nameAndType 18 6), (0, u "grow"), (0, .class_ 20), (0, u "com/example/andesite/andesite/data/ValueCountsCanGrowPinLaw"), (2, u "law"), (0, u "(III)Z")] 3

def k1m0 : Method := { name := "<init>", desc := "()V", sig := { parameters := [], returnType := none }, accessFlags := 1, code := none }
def k1c1 : Code := { maxStack := 3, maxLocals := 9, code := code, exceptionTable := #[], attributes := #[] }
def k1m1 : Method := { name := "law", desc := "(III)Z", sig := { parameters := [.int, .int, .int], returnType := some .boolean }, accessFlags := 9, code := some k1c1 }
/-- com/example/andesite/andesite/data/ValueCountsCanGrowPinLaw -/
def k1 : Class := { plain "com/example/andesite/andesite/data/ValueCountsCanGrowPinLaw" (some 0) with
  accessFlags := 49
  interfaces := #[]
  cf := some (fileOf pool1 19 #[] #[{ accessFlags := 1, nameIndex := 5, descriptorIndex := 6, attributes := #[] }, { accessFlags := 9, nameIndex := 23, descriptorIndex := 24, attributes := #[] }] 49 2 #[] #[])
  fields := #[]
  methods := #[k1m0, k1m1]
  instanceTypes := #[]
  staticTypes := #[]
  resolved := Array.replicate 28 none
  statics := none }

def pool2 : Array CpInfo := pool [(1, .class_ 2), (0, u "java/lang/Integer"), (0, .methodref 4 5), (0, .class_ 6), (0, .nameAndType 7 8), (0, u "java/lang/Object"), (0, u "<init>"), (0, u "()V"), (0, .fieldref 10 11), (0, .class_ 12), (0, .nameAndType 13 14), (0, u "com/example/andesite/andesite/data/ValueCounts"), (0, u "classValues"), (0, u "I"), (0, .methodref 10 16), (0, .nameAndType 17 18), (0, u "allocate"), (0, u "(I)V"), (4, .fieldref 10 24), (0, .nameAndType 25 26), (0, u "slotValues"), (0, u "[D"), (0, .methodref 28 29), (0, .class_ 30), (0, .nameAndType 31 32), (0, u "java/lang/Double"), (0, u "isNaN"), (0, u "(D)Z"), (0, .fieldref 10 34), (0, .nameAndType 35 14), (0, u "used"), (0, .fieldref 10 37), (0, .nameAndType 38 39), (0, u "slotCounts"), (0, u "[J"), (4, .long 2), (1, .long 2147483639), (1, .methodref 10 49), (0, .nameAndType 50 51), (0, u "canGrow"), (0, u "()Z"), (14, .class_ 68), (1, u "java/util/Arrays"), (2, .class_ 72), (0, u "com/example/andesite/andesite/data/ValueCounts$1"), (3, .double 9221120237041090560), (1, .methodref 66 79), (0, .nameAndType 80 81), (0, u "fill"), (0, u "([DD)V"), (0, .methodref 1 83), (0, .nameAndType 84 85), (0, u "numberOfTrailingZeros"), (0, u "(I)I"), (0, .fieldref 10 87), (0, .nameAndType 88 14), (0, u "shift"), (6, u "MOST_ARRAY_LENGTH"), (0, u "J"), (1, u "FIRST_SLOTS"), (8, u "grow")] 11

def k2c0 : Code := { maxStack := 2, maxLocals := 2, code := prog_52_method_1_code, exceptionTable := #[], attributes := #[] }
def k2m0 : Method := { name := "<init>", desc := "(I)V", sig := { parameters := [.int], returnType := none }, accessFlags := 0, code := some k2c0 }
def k2c1 : Code := { maxStack := 4, maxLocals := 1, code := prog_52_method_4_code, exceptionTable := #[], attributes := #[] }
def k2m1 : Method := { name := "canGrow", desc := "()Z", sig := { parameters := [], returnType := some .boolean }, accessFlags := 0, code := some k2c1 }
def k2c2 : Code := { maxStack := 5, maxLocals := 5, code := prog_52_method_5_code, exceptionTable := #[], attributes := #[] }
def k2m2 : Method := { name := "grow", desc := "()V", sig := { parameters := [], returnType := none }, accessFlags := 0, code := some k2c2 }
def k2c3 : Code := { maxStack := 3, maxLocals := 2, code := prog_52_method_8_code, exceptionTable := #[], attributes := #[] }
def k2m3 : Method := { name := "allocate", desc := "(I)V", sig := { parameters := [.int], returnType := none }, accessFlags := 2, code := some k2c3 }
/-- com/example/andesite/andesite/data/ValueCounts -/
def k2 : Class := { plain "com/example/andesite/andesite/data/ValueCounts" (some 0) with
  accessFlags := 32
  interfaces := #[]
  cf := some (fileOf pool2 10 #[.nestMembers #[71]] #[{ accessFlags := 0, nameIndex := 7, descriptorIndex := 18, attributes := #[] }, { accessFlags := 0, nameIndex := 50, descriptorIndex := 51, attributes := #[] }, { accessFlags := 0, nameIndex := 107, descriptorIndex := 8, attributes := #[] }, { accessFlags := 2, nameIndex := 17, descriptorIndex := 18, attributes := #[] }] 32 4 #[] #[{ accessFlags := 26, nameIndex := 95, descriptorIndex := 96, attributes := #[] }, { accessFlags := 26, nameIndex := 98, descriptorIndex := 14, attributes := #[] }, { accessFlags := 18, nameIndex := 13, descriptorIndex := 14, attributes := #[] }, { accessFlags := 2, nameIndex := 25, descriptorIndex := 26, attributes := #[] }, { accessFlags := 2, nameIndex := 38, descriptorIndex := 39, attributes := #[] }, { accessFlags := 2, nameIndex := 35, descriptorIndex := 14, attributes := #[] }, { accessFlags := 2, nameIndex := 88, descriptorIndex := 14, attributes := #[] }])
  fields := #[{ name := "MOST_ARRAY_LENGTH", type := .long, accessFlags := 26, slot := 0, constantValue := 0 }, { name := "FIRST_SLOTS", type := .int, accessFlags := 26, slot := 1, constantValue := 0 }, { name := "classValues", type := .int, accessFlags := 18, slot := 0, constantValue := 0 }, { name := "slotValues", type := (.array .double), accessFlags := 2, slot := 1, constantValue := 0 }, { name := "slotCounts", type := (.array .long), accessFlags := 2, slot := 2, constantValue := 0 }, { name := "used", type := .int, accessFlags := 2, slot := 3, constantValue := 0 }, { name := "shift", type := .int, accessFlags := 2, slot := 4, constantValue := 0 }]
  methods := #[k2m0, k2m1, k2m2, k2m3]
  instanceTypes := #[.int, (.array .double), (.array .long), .int, .int]
  staticTypes := #[.long, .int]
  resolved := Array.replicate 119 none
  statics := none }

def pool3 : Array CpInfo := pool [(2, .class_ 4), (1, u "java/lang/Object"), (0, u "<init>"), (0, u "()V"), (7, .class_ 16), (1, u "java/util/Arrays"), (57, .class_ 76), (1, u "java/util/Arrays$NaturalOrder"), (36, .class_ 115), (1, u "java/util/Arrays$LegacyMergeSort"), (1, u "Z"), (257, .class_ 376), (0, u "java/util/Arrays$ArrayList"), (68, u "$assertionsDisabled"), (269, u "MIN_ARRAY_SORT_GRAN"), (0, u "I"), (2, u "INSERTIONSORT_THRESHOLD"), (120, u "fill"), (13, u "([DD)V"), (120, .class_ 976), (0, u "java/util/Arrays$ArrayItr")] 52

def k3m0 : Method := { name := "<init>", desc := "()V", sig := { parameters := [], returnType := none }, accessFlags := 2, code := none }
def k3c1 : Code := { maxStack := 4, maxLocals := 5, code := jdk_65_method_113_code, exceptionTable := #[], attributes := #[] }
def k3m1 : Method := { name := "fill", desc := "([DD)V", sig := { parameters := [(.array .double), .double], returnType := none }, accessFlags := 9, code := some k3c1 }
/-- java/util/Arrays -/
def k3 : Class := { plain "java/util/Arrays" (some 0) with
  accessFlags := 49
  interfaces := #[]
  cf := some (fileOf pool3 14 #[.nestMembers #[975, 375, 113, 74]] #[{ accessFlags := 2, nameIndex := 5, descriptorIndex := 6, attributes := #[] }, { accessFlags := 9, nameIndex := 840, descriptorIndex := 854, attributes := #[] }] 49 2 #[] #[{ accessFlags := 26, nameIndex := 715, descriptorIndex := 716, attributes := #[] }, { accessFlags := 26, nameIndex := 719, descriptorIndex := 716, attributes := #[] }, { accessFlags := 4120, nameIndex := 445, descriptorIndex := 117, attributes := #[] }])
  fields := #[{ name := "MIN_ARRAY_SORT_GRAN", type := .int, accessFlags := 26, slot := 0, constantValue := 0 }, { name := "INSERTIONSORT_THRESHOLD", type := .int, accessFlags := 26, slot := 1, constantValue := 0 }, { name := "$assertionsDisabled", type := .boolean, accessFlags := 4120, slot := 2, constantValue := 0 }]
  methods := #[k3m0, k3m1]
  instanceTypes := #[]
  staticTypes := #[.int, .int, .boolean]
  resolved := Array.replicate 1029 none
  statics := none }

def pool4 : Array CpInfo := pool [(1, .class_ 2), (0, u "java/io/Serializable"), (0, .class_ 4), (0, u "java/lang/Object")] 2

/-- java/io/Serializable -/
def k4 : Class := { plain "java/io/Serializable" (some 0) with
  accessFlags := 1537
  interfaces := #[]
  cf := some (fileOf pool4 1 #[] #[] 1537 3 #[] #[])
  fields := #[]
  methods := #[]
  instanceTypes := #[]
  staticTypes := #[]
  resolved := Array.replicate 7 none
  statics := none }

def pool5 : Array CpInfo := pool [(2, .class_ 4), (1, u "java/lang/Object"), (0, u "<init>"), (0, u "()V"), (1, .class_ 10), (1, u "java/lang/Number"), (2, .class_ 14), (0, u "java/io/Serializable"), (0, u "serialVersionUID"), (0, u "J")] 20

def k5m0 : Method := { name := "<init>", desc := "()V", sig := { parameters := [], returnType := none }, accessFlags := 1, code := none }
/-- java/lang/Number -/
def k5 : Class := { plain "java/lang/Number" (some 0) with
  accessFlags := 1057
  interfaces := #[4]
  cf := some (fileOf pool5 8 #[] #[{ accessFlags := 1, nameIndex := 5, descriptorIndex := 6, attributes := #[] }] 1057 2 #[13] #[{ accessFlags := 26, nameIndex := 15, descriptorIndex := 16, attributes := #[] }])
  fields := #[{ name := "serialVersionUID", type := .long, accessFlags := 26, slot := 0, constantValue := 0 }]
  methods := #[k5m0]
  instanceTypes := #[]
  staticTypes := #[.long]
  resolved := Array.replicate 37 none
  statics := none }

def pool6 : Array CpInfo := pool [(1, .class_ 2), (0, u "java/lang/Comparable"), (0, .class_ 4), (0, u "java/lang/Object")] 7

/-- java/lang/Comparable -/
def k6 : Class := { plain "java/lang/Comparable" (some 0) with
  accessFlags := 1537
  interfaces := #[]
  cf := some (fileOf pool6 1 #[] #[] 1537 3 #[] #[])
  fields := #[]
  methods := #[]
  instanceTypes := #[]
  staticTypes := #[]
  resolved := Array.replicate 12 none
  statics := none }

def pool7 : Array CpInfo := pool [(1, .class_ 2), (0, u "java/lang/constant/Constable"), (0, .class_ 4), (0, u "java/lang/Object")] 6

/-- java/lang/constant/Constable -/
def k7 : Class := { plain "java/lang/constant/Constable" (some 0) with
  accessFlags := 1537
  interfaces := #[]
  cf := some (fileOf pool7 1 #[] #[] 1537 3 #[] #[])
  fields := #[]
  methods := #[]
  instanceTypes := #[]
  staticTypes := #[]
  resolved := Array.replicate 11 none
  statics := none }

def pool8 : Array CpInfo := pool [(1, .class_ 2), (0, u "java/lang/constant/ConstantDesc"), (0, .class_ 4), (0, u "java/lang/Object")] 32

/-- java/lang/constant/ConstantDesc -/
def k8 : Class := { plain "java/lang/constant/ConstantDesc" (some 0) with
  accessFlags := 1537
  interfaces := #[]
  cf := some (fileOf pool8 1 #[] #[] 1537 3 #[] #[])
  fields := #[]
  methods := #[]
  instanceTypes := #[]
  staticTypes := #[]
  resolved := Array.replicate 37 none
  statics := none }

def pool9 : Array CpInfo := pool [(1, .class_ 2), (0, u "java/lang/Integer"), (16, u "digits"), (0, u "[C"), (33, u "(I)I"), (30, u "DigitOnes"), (0, u "[B"), (2, u "DigitTens"), (99, .class_ 190), (0, u "java/lang/Integer$IntegerCache"), (3, u "I"), (8, .class_ 204), (0, u "java/lang/Number"), (2, u "value"), (56, .integer 65536), (37, u "TYPE"), (0, u "Ljava/lang/Class;"), (0, .class_ 305), (0, u "java/lang/Comparable"), (0, .class_ 307), (0, u "java/lang/constant/Constable"), (0, .class_ 309), (0, u "java/lang/constant/ConstantDesc"), (0, u "MIN_VALUE"), (1, u "MAX_VALUE"), (3, u "SIZE"), (1, u "BYTES"), (1, u "serialVersionUID"), (0, u "J"), (84, u "numberOfTrailingZeros")] 46

def k9c0 : Code := { maxStack := 3, maxLocals := 2, code := jdk_33_method_48_code, exceptionTable := #[], attributes := #[] }
def k9m0 : Method := { name := "numberOfTrailingZeros", desc := "(I)I", sig := { parameters := [.int], returnType := some .int }, accessFlags := 9, code := some k9c0 }
/-- java/lang/Integer -/
def k9 : Class := { plain "java/lang/Integer" (some 5) with
  accessFlags := 49
  interfaces := #[6, 7, 8]
  cf := some (fileOf pool9 1 #[.nestMembers #[189]] #[{ accessFlags := 9, nameIndex := 406, descriptorIndex := 54, attributes := #[] }] 49 203 #[304, 306, 308] #[{ accessFlags := 25, nameIndex := 310, descriptorIndex := 194, attributes := #[] }, { accessFlags := 25, nameIndex := 312, descriptorIndex := 194, attributes := #[] }, { accessFlags := 25, nameIndex := 302, descriptorIndex := 303, attributes := #[] }, { accessFlags := 24, nameIndex := 19, descriptorIndex := 20, attributes := #[] }, { accessFlags := 24, nameIndex := 89, descriptorIndex := 86, attributes := #[] }, { accessFlags := 24, nameIndex := 85, descriptorIndex := 86, attributes := #[] }, { accessFlags := 18, nameIndex := 207, descriptorIndex := 194, attributes := #[] }, { accessFlags := 25, nameIndex := 316, descriptorIndex := 194, attributes := #[] }, { accessFlags := 25, nameIndex := 318, descriptorIndex := 194, attributes := #[] }, { accessFlags := 26, nameIndex := 320, descriptorIndex := 321, attributes := #[] }])
  fields := #[{ name := "MIN_VALUE", type := .int, accessFlags := 25, slot := 0, constantValue := 0 }, { name := "MAX_VALUE", type := .int, accessFlags := 25, slot := 1, constantValue := 0 }, { name := "TYPE", type := (.object "java/lang/Class"), accessFlags := 25, slot := 2, constantValue := 0 }, { name := "digits", type := (.array .char), accessFlags := 24, slot := 3, constantValue := 0 }, { name := "DigitTens", type := (.array .byte), accessFlags := 24, slot := 4, constantValue := 0 }, { name := "DigitOnes", type := (.array .byte), accessFlags := 24, slot := 5, constantValue := 0 }, { name := "value", type := .int, accessFlags := 18, slot := 0, constantValue := 0 }, { name := "SIZE", type := .int, accessFlags := 25, slot := 6, constantValue := 0 }, { name := "BYTES", type := .int, accessFlags := 25, slot := 7, constantValue := 0 }, { name := "serialVersionUID", type := .long, accessFlags := 26, slot := 8, constantValue := 0 }]
  methods := #[k9m0]
  instanceTypes := #[.int]
  staticTypes := #[.int, .int, (.object "java/lang/Class"), (.array .char), (.array .byte), (.array .byte), .int, .int, .long]
  resolved := Array.replicate 453 none
  statics := none }

def pool10 : Array CpInfo := pool [(1, .class_ 2), (0, u "java/lang/Double"), (11, u "(D)Z"), (99, .class_ 116), (1, u "java/lang/Number"), (3, u "value"), (0, u "D"), (2, u "isNaN"), (48, u "TYPE"), (0, u "Ljava/lang/Class;"), (0, .class_ 176), (0, u "java/lang/Comparable"), (0, .class_ 178), (0, u "java/lang/constant/Constable"), (0, .class_ 180), (0, u "java/lang/constant/ConstantDesc"), (0, u "POSITIVE_INFINITY"), (3, u "NEGATIVE_INFINITY"), (2, u "NaN"), (2, u "MAX_VALUE"), (0, u "MIN_NORMAL"), (0, u "MIN_VALUE"), (2, u "SIZE"), (0, u "I"), (1, u "PRECISION"), (1, u "MAX_EXPONENT"), (1, u "MIN_EXPONENT"), (1, u "BYTES"), (3, u "serialVersionUID"), (0, u "J")] 79

def k10c0 : Code := { maxStack := 4, maxLocals := 2, code := jdk_117_method_6_code, exceptionTable := #[], attributes := #[] }
def k10m0 : Method := { name := "isNaN", desc := "(D)Z", sig := { parameters := [.double], returnType := some .boolean }, accessFlags := 9, code := some k10c0 }
/-- java/lang/Double -/
def k10 : Class := { plain "java/lang/Double" (some 5) with
  accessFlags := 49
  interfaces := #[6, 7, 8]
  cf := some (fileOf pool10 1 #[] #[{ accessFlags := 9, nameIndex := 124, descriptorIndex := 14, attributes := #[] }] 49 114 #[175, 177, 179] #[{ accessFlags := 25, nameIndex := 181, descriptorIndex := 121, attributes := #[] }, { accessFlags := 25, nameIndex := 185, descriptorIndex := 121, attributes := #[] }, { accessFlags := 25, nameIndex := 188, descriptorIndex := 121, attributes := #[] }, { accessFlags := 25, nameIndex := 191, descriptorIndex := 121, attributes := #[] }, { accessFlags := 25, nameIndex := 192, descriptorIndex := 121, attributes := #[] }, { accessFlags := 25, nameIndex := 193, descriptorIndex := 121, attributes := #[] }, { accessFlags := 25, nameIndex := 196, descriptorIndex := 197, attributes := #[] }, { accessFlags := 25, nameIndex := 199, descriptorIndex := 197, attributes := #[] }, { accessFlags := 25, nameIndex := 201, descriptorIndex := 197, attributes := #[] }, { accessFlags := 25, nameIndex := 203, descriptorIndex := 197, attributes := #[] }, { accessFlags := 25, nameIndex := 205, descriptorIndex := 197, attributes := #[] }, { accessFlags := 25, nameIndex := 173, descriptorIndex := 174, attributes := #[] }, { accessFlags := 18, nameIndex := 120, descriptorIndex := 121, attributes := #[] }, { accessFlags := 26, nameIndex := 209, descriptorIndex := 210, attributes := #[] }])
  fields := #[{ name := "POSITIVE_INFINITY", type := .double, accessFlags := 25, slot := 0, constantValue := 0 }, { name := "NEGATIVE_INFINITY", type := .double, accessFlags := 25, slot := 1, constantValue := 0 }, { name := "NaN", type := .double, accessFlags := 25, slot := 2, constantValue := 0 }, { name := "MAX_VALUE", type := .double, accessFlags := 25, slot := 3, constantValue := 0 }, { name := "MIN_NORMAL", type := .double, accessFlags := 25, slot := 4, constantValue := 0 }, { name := "MIN_VALUE", type := .double, accessFlags := 25, slot := 5, constantValue := 0 }, { name := "SIZE", type := .int, accessFlags := 25, slot := 6, constantValue := 0 }, { name := "PRECISION", type := .int, accessFlags := 25, slot := 7, constantValue := 0 }, { name := "MAX_EXPONENT", type := .int, accessFlags := 25, slot := 8, constantValue := 0 }, { name := "MIN_EXPONENT", type := .int, accessFlags := 25, slot := 9, constantValue := 0 }, { name := "BYTES", type := .int, accessFlags := 25, slot := 10, constantValue := 0 }, { name := "TYPE", type := (.object "java/lang/Class"), accessFlags := 25, slot := 11, constantValue := 0 }, { name := "value", type := .double, accessFlags := 18, slot := 0, constantValue := 0 }, { name := "serialVersionUID", type := .long, accessFlags := 26, slot := 12, constantValue := 0 }]
  methods := #[k10m0]
  instanceTypes := #[.double]
  staticTypes := #[.double, .double, .double, .double, .double, .double, .int, .int, .int, .int, .int, (.object "java/lang/Class"), .long]
  resolved := Array.replicate 290 none
  statics := none }

def pool11 : Array CpInfo := pool [(1, u "java/lang/Cloneable"), (0, .class_ 1), (0, u "java/lang/Object"), (0, .class_ 3)] 3

/-- java/lang/Cloneable -/
def k11 : Class := { plain "java/lang/Cloneable" (some 0) with
  accessFlags := 1537
  interfaces := #[]
  cf := some (fileOf pool11 2 #[] #[] 1537 4 #[] #[])
  fields := #[]
  methods := #[]
  instanceTypes := #[]
  staticTypes := #[]
  resolved := Array.replicate 8 none
  statics := none }

/-- the primitive byte -/
def k12 : Class := { plain "byte" none with kind := .primitive 'B', accessFlags := 0x411 }
/-- [B -/
def k13 : Class := { plain "[B" (some 0) with kind := .array 12 .byte, interfaces := #[11, 4], accessFlags := 1041 }

/-- the primitive double -/
def k14 : Class := { plain "double" none with kind := .primitive 'D', accessFlags := 0x411 }
/-- [D -/
def k15 : Class := { plain "[D" (some 0) with kind := .array 14 .double, interfaces := #[11, 4], accessFlags := 1041 }

/-- the primitive int -/
def k16 : Class := { plain "int" none with kind := .primitive 'I', accessFlags := 0x411 }
/-- [I -/
def k17 : Class := { plain "[I" (some 0) with kind := .array 16 .int, interfaces := #[11, 4], accessFlags := 1041 }

/-- the primitive long -/
def k18 : Class := { plain "long" none with kind := .primitive 'J', accessFlags := 0x411 }
/-- [J -/
def k19 : Class := { plain "[J" (some 0) with kind := .array 18 .long, interfaces := #[11, 4], accessFlags := 1041 }

def heap : Heap := #[]
def classes : Array Class := #[k0, k1, k2, k3, k4, k5, k6, k7, k8, k9, k10, k11, k12, k13, k14, k15, k16, k17, k18, k19]
def interned : List (Array UInt16 × Addr) := []
def slotsUsed : Nat := 0
def theMethod : MethodId := ⟨1, 1⟩
def args0 : Array Value := #[.int 5, .int 0, .int 3]
def aboutOver (below : List Frame) : State where
  vm := { classes := classes, interned := interned.toArray }
  heap := heap
  slotsUsed := slotsUsed
  threads := #[{ frames := .invoking theMethod args0 :: below }]
def below0 : List Frame := [.native { method := ⟨0, 0⟩, args := #[] }]
def about1 : State := aboutOver below0
def p0 : Program := .bare "" "" ""
def e0 : Env := launch0.env 0 0 0
theorem w_frames : about1.frames = Frame.invoking theMethod args0 :: below0 := rfl
set_option maxRecDepth 65536 in
theorem w_args : argsFit about1.vm theMethod args0 = true := by decide +kernel
set_option maxRecDepth 65536 in
theorem w_heap : heapFits about1 = true := by decide +kernel
set_option maxRecDepth 65536 in
theorem w_runnable : about1.curStatus? = some .runnable := by decide +kernel
set_option maxRecDepth 65536 in
theorem w_alone : about1.alone = true := by decide +kernel
set_option maxRecDepth 65536 in
theorem w_named : about1.methodNamed? x = some theMethod := by decide +kernel
set_option maxRecDepth 65536 in
theorem w_hears : about1.hears theMethod below0 = true := by decide +kernel
set_option maxRecDepth 65536 in
theorem w_ripe : about1.ripe theMethod args0 below0 = true := by decide +kernel
theorem w_running : about1.status = .running := rfl
set_option maxRecDepth 65536 in
theorem w_room : about1.hasRoom e0.platform room_1 = true :=
  launch0.hasRoom_least _ room_1 (by decide +kernel) (by decide +kernel) (by decide +kernel) (by decide +kernel) (by decide +kernel) (by decide +kernel)
theorem allAtoms_all (ts : List Jvm.Cond) (a : Array Jvm.Value) (st : Jvm.State) : (allAtoms ts).before a st = ts.all (fun c => c.before a st) := by
  induction ts with
  | nil => rfl
  | cons c t ih =>
    show (Jvm.Cond.and c (allAtoms t)).before a st = _
    rw [Jvm.Cond.before_and, ih, List.all_cons]
def words1 : List Jvm.Cond := Jvm.Cond.code x code maxLocals ret :: tables_1
/-- a 'code' word, met by the world's own term for the bytes: nothing is compared byte by byte -/
theorem code_word {y : MethodName} {bytes : ByteArray} {mx : Nat} {rt : Option FieldType} {a : Array Value} {s : State} {m : MethodId} {meth : Method} {c : Code} (h1 : s.methodNamed? y = some m) (h2 : s.vm.method? m = some meth) (h3 : meth.code = some c) (h4 : c.code = bytes)
    (h5 : (c.maxLocals == mx && c.exceptionTable.isEmpty && decide (c.maxStack ≤ mostOperands) && decide (meth.sig.returnType = rt) && !meth.locks && decide (parseMethodDescriptor y.desc = some meth.sig)) = true) : (Jvm.Cond.code y bytes mx rt).before a s = true := by
  simp only [Bool.and_eq_true, beq_iff_eq, Bool.not_eq_true', decide_eq_true_eq] at h5
  obtain ⟨⟨⟨⟨⟨g1, g2⟩, g3⟩, g4⟩, g5⟩, g6⟩ := h5
  simp [Cond.before, Cond.holds, Cond.value, h1, h2, h3, h4, g1, g2, g3, g4, g5, g6]
def isCode : Jvm.Cond → Bool
  | .code _ _ _ _ => true
  | _ => false
theorem all_split {L : List Jvm.Cond} {P : Jvm.Cond → Bool} (h1 : L.all (fun c => isCode c || P c) = true) (h2 : ∀ c ∈ L.filter isCode, P c = true) : L.all P = true := by
  refine List.all_eq_true.mpr fun c hc => ?_
  have h := List.all_eq_true.mp h1 c hc
  rcases Bool.eq_false_or_eq_true (isCode c) with hi | hi
  · exact h2 c (List.mem_filter.mpr ⟨hc, hi⟩)
  · simpa [hi] using h
set_option maxRecDepth 65536 in
theorem w_c0 : (Jvm.Cond.code x code maxLocals ret).before args0 about1 = true := code_word (m := ⟨1, 1⟩) (meth := k1m1) (c := k1c1) (by decide +kernel) rfl rfl rfl (by decide +kernel)
set_option maxRecDepth 65536 in
theorem w_c1 : (Jvm.Cond.code ({ cls := "com/example/andesite/andesite/data/ValueCounts", name := "<init>", desc := "(I)V" } : Jvm.MethodName) prog_52_method_1_code (2 : Nat) (Option.none : Option Jvm.ClassFile.FieldType)).before args0 about1 = true := code_word (m := ⟨2, 0⟩) (meth := k2m0) (c := k2c0) (by decide +kernel) rfl rfl rfl (by decide +kernel)
set_option maxRecDepth 65536 in
theorem w_c2 : (Jvm.Cond.code ({ cls := "java/lang/Object", name := "<init>", desc := "()V" } : Jvm.MethodName) object_method_1_code (1 : Nat) (Option.none : Option Jvm.ClassFile.FieldType)).before args0 about1 = true := code_word (m := ⟨0, 0⟩) (meth := k0m0) (c := k0c0) (by decide +kernel) rfl rfl rfl (by decide +kernel)
set_option maxRecDepth 65536 in
theorem w_c3 : (Jvm.Cond.code ({ cls := "com/example/andesite/andesite/data/ValueCounts", name := "allocate", desc := "(I)V" } : Jvm.MethodName) prog_52_method_8_code (2 : Nat) (Option.none : Option Jvm.ClassFile.FieldType)).before args0 about1 = true := code_word (m := ⟨2, 3⟩) (meth := k2m3) (c := k2c3) (by decide +kernel) rfl rfl rfl (by decide +kernel)
set_option maxRecDepth 65536 in
theorem w_c4 : (Jvm.Cond.code ({ cls := "java/util/Arrays", name := "fill", desc := "([DD)V" } : Jvm.MethodName) jdk_65_method_113_code (5 : Nat) (Option.none : Option Jvm.ClassFile.FieldType)).before args0 about1 = true := code_word (m := ⟨3, 1⟩) (meth := k3m1) (c := k3c1) (by decide +kernel) rfl rfl rfl (by decide +kernel)
set_option maxRecDepth 65536 in
theorem w_c5 : (Jvm.Cond.code ({ cls := "java/lang/Integer", name := "numberOfTrailingZeros", desc := "(I)I" } : Jvm.MethodName) jdk_33_method_48_code (2 : Nat) (Option.some Jvm.ClassFile.FieldType.int)).before args0 about1 = true := code_word (m := ⟨9, 0⟩) (meth := k9m0) (c := k9c0) (by decide +kernel) rfl rfl rfl (by decide +kernel)
set_option maxRecDepth 65536 in
theorem w_c6 : (Jvm.Cond.code ({ cls := "com/example/andesite/andesite/data/ValueCounts", name := "canGrow", desc := "()Z" } : Jvm.MethodName) prog_52_method_4_code (1 : Nat) (Option.some Jvm.ClassFile.FieldType.boolean)).before args0 about1 = true := code_word (m := ⟨2, 1⟩) (meth := k2m1) (c := k2c1) (by decide +kernel) rfl rfl rfl (by decide +kernel)
set_option maxRecDepth 65536 in
theorem w_c7 : (Jvm.Cond.code ({ cls := "com/example/andesite/andesite/data/ValueCounts", name := "grow", desc := "()V" } : Jvm.MethodName) prog_52_method_5_code (5 : Nat) (Option.none : Option Jvm.ClassFile.FieldType)).before args0 about1 = true := code_word (m := ⟨2, 2⟩) (meth := k2m2) (c := k2c2) (by decide +kernel) rfl rfl rfl (by decide +kernel)
set_option maxRecDepth 65536 in
theorem w_c8 : (Jvm.Cond.code ({ cls := "java/lang/Double", name := "isNaN", desc := "(D)Z" } : Jvm.MethodName) jdk_117_method_6_code (2 : Nat) (Option.some Jvm.ClassFile.FieldType.boolean)).before args0 about1 = true := code_word (m := ⟨10, 0⟩) (meth := k10m0) (c := k10c0) (by decide +kernel) rfl rfl rfl (by decide +kernel)
def codes1 : List Jvm.Cond := [Jvm.Cond.code x code maxLocals ret, Jvm.Cond.code ({ cls := "com/example/andesite/andesite/data/ValueCounts", name := "<init>", desc := "(I)V" } : Jvm.MethodName) prog_52_method_1_code (2 : Nat) (Option.none : Option Jvm.ClassFile.FieldType), Jvm.Cond.code ({ cls := "java/lang/Object", name := "<init>", desc := "()V" } : Jvm.MethodName) object_method_1_code (1 : Nat) (Option.none : Option Jvm.ClassFile.FieldType), Jvm.Cond.code ({ cls := "com/example/andesite/andesite/data/ValueCounts", name := "allocate", desc := "(I)V" } : Jvm.MethodName) prog_52_method_8_code (2 : Nat) (Option.none : Option Jvm.ClassFile.FieldType), Jvm.Cond.code ({ cls := "java/util/Arrays", name := "fill", desc := "([DD)V" } : Jvm.MethodName) jdk_65_method_113_code (5 : Nat) (Option.none : Option Jvm.ClassFile.FieldType), Jvm.Cond.code ({ cls := "java/lang/Integer", name := "numberOfTrailingZeros", desc := "(I)I" } : Jvm.MethodName) jdk_33_method_48_code (2 : Nat) (Option.some Jvm.ClassFile.FieldType.int), Jvm.Cond.code ({ cls := "com/example/andesite/andesite/data/ValueCounts", name := "canGrow", desc := "()Z" } : Jvm.MethodName) prog_52_method_4_code (1 : Nat) (Option.some Jvm.ClassFile.FieldType.boolean), Jvm.Cond.code ({ cls := "com/example/andesite/andesite/data/ValueCounts", name := "grow", desc := "()V" } : Jvm.MethodName) prog_52_method_5_code (5 : Nat) (Option.none : Option Jvm.ClassFile.FieldType), Jvm.Cond.code ({ cls := "java/lang/Double", name := "isNaN", desc := "(D)Z" } : Jvm.MethodName) jdk_117_method_6_code (2 : Nat) (Option.some Jvm.ClassFile.FieldType.boolean)]
set_option maxRecDepth 65536 in
theorem codes_eq : words1.filter isCode = codes1 := rfl
theorem w_codes : ∀ c ∈ words1.filter isCode, c.before args0 about1 = true := by
  rw [codes_eq]
  intro c hc
  simp only [codes1, List.mem_cons, List.not_mem_nil, or_false] at hc
  rcases hc with rfl | rfl | rfl | rfl | rfl | rfl | rfl | rfl | rfl
  · exact w_c0
  · exact w_c1
  · exact w_c2
  · exact w_c3
  · exact w_c4
  · exact w_c5
  · exact w_c6
  · exact w_c7
  · exact w_c8
set_option maxRecDepth 65536 in
theorem w_t1 : (words1.take 24).all (fun c => isCode c || c.before args0 about1) = true := by decide +kernel
set_option maxRecDepth 65536 in
theorem w_t2 : ((words1.drop 24).take 24).all (fun c => isCode c || c.before args0 about1) = true := by decide +kernel
set_option maxRecDepth 65536 in
theorem w_t3 : ((words1.drop 24).drop 24).all (fun c => isCode c || c.before args0 about1) = true := by decide +kernel
theorem w_tables : (allAtoms (Jvm.Cond.code x code maxLocals ret :: tables_1)).before args0 about1 = true := by
  rw [allAtoms_all]
  show words1.all (fun c => c.before args0 about1) = true
  refine all_split ?_ w_codes
  rw [← List.take_append_drop 24 words1, List.all_append, w_t1, ← List.take_append_drop 24 (words1.drop 24), List.all_append, w_t2, w_t3]
  rfl
set_option maxRecDepth 65536 in
theorem w_case : (Jvm.Cond.and given_1 narrow_1).before args0 about1 = true := by decide +kernel
theorem w_applies : (headSpec (Jvm.Cond.code x code maxLocals ret :: tables_1) room_1).applies x e0.platform about1 = true :=
  (Spec.applies_iff w_frames).mpr ⟨w_running, w_runnable, w_alone, w_named, w_hears, w_ripe, w_room, w_tables⟩
theorem atStart : AtStart classFile x code maxLocals ret World_1 tables_1 room_1 Calls_1 rest_1 Pre_1 launch0 p0 e0 about1 theMethod args0 below0 :=
  ⟨lists_1, trivial, launch0.admits_env _ _ _, launch0.least_env, fairChoices_fair.cas, fairChoices_fair.clock, w_frames, w_args, w_heap, w_applies, trivial, trivial, w_case⟩
end start1
theorem witness_1 : WitnessClaimed_1 := ⟨start1.p0, start1.e0, start1.about1, start1.theMethod, start1.args0, start1.below0, start1.atStart⟩
end Jvm.Pilot.@@N@@
