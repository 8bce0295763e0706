import JvmDerived
import JvmDerived.Pilot.@@N@@Statement
import JvmDerived.Pilot.@@N@@Code
set_option linter.unusedVariables false
set_option linter.unusedSimpArgs false
namespace Jvm.Pilot.@@N@@
open Jvm Jvm.ClassFile Sem Op Lib Jvm.Free Jvm.Stand Jvm.LawKit Jvm.RoadKit Bundle Jvm.Pilot.@@N@@.Jvm.D
/-! own helpers: the goal of a walk as one predicate, its steps, its calls -/
section OwnKit
variable {p : Program} {l : Launch} {e : Env} {R : Room} {s : State} {m : MethodId} {args : Array Value} {below : List Frame} {meth : Method} {c : Code} {T : State} {locs : List Loc} {cells slots : Nat} {Z : State} {a0 : Array Value} {h : Heap} {Q : Option Value → Heap → List Loc → Prop} {kc ks : Nat}
/-- from S the run ends, returns, and Q holds of what it returns, of the heap and of the places written -/
def OGoal (p : Program) (e : Env) (below : List Frame) (s : State) (Q : Option Value → Heap → List Loc → Prop) (kc ks : Nat) (S : State) : Prop :=
  ∃ s₂ o, Steps p.tables e below S s₂ ∧ s₂.status = .running ∧ Ended s₂ below o ∧ ∃ v L, o = .returned v ∧ Q v s₂.heap L ∧ FrameEnd s o s₂ L kc ks
theorem OGoal.mp {S S' : State} (k : ∀ t, Steps p.tables e below S' t → Steps p.tables e below S t) (g : OGoal p e below s Q kc ks S') : OGoal p e below s Q kc ks S := by
  obtain ⟨s₂, o, h1, h2⟩ := g
  exact ⟨s₂, o, k _ h1, h2⟩
theorem oRet (X : Stand p l e R s m args below meth c T locs cells slots) (hx : p.tables.exec = Jvm.exec) (hlk : meth.locks = false) {pc : Nat} {Ls : Array Slot} {w : Value} {t : FieldType} {i : Instr} {rest : List Value} (hret : meth.sig.returnType = some t) (hn : narrow t w = w)
    (hi : (i = .ireturn ∧ (t = .int ∨ t = .boolean ∨ t = .byte ∨ t = .char ∨ t = .short) ∧ ∃ z, w = .int z) ∨ (i = .lreturn ∧ t = .long ∧ ∃ z, w = .long z) ∨ (i = .dreturn ∧ t = .double ∧ ∃ z, w = .double z) ∨ (i = .freturn ∧ t = .float ∧ ∃ z, w = .float z) ∨ (i = .areturn ∧ t.isReference = true ∧ w.isRef = true))
    (hd : decode c.code pc = .ok (i, 1)) (hQ : Q (some w) T.heap locs) (hc : cells ≤ kc) (hs : slots ≤ ks) : OGoal p e below s Q kc ks (T.setTop (mkF m pc Ls (w :: rest))) := by
  obtain ⟨fs, hr, hrun, hended, hW, hsame⟩ := X.leave (v := some w) (fun q => by rw [hret] at q; cases q) hlk
  exact ⟨_, _, retOut X hx hret hn hi hd hr, hrun, hended, _, _, rfl, hQ, ⟨_, rfl⟩, hW, hsame.mono hc hs⟩
theorem oRetI (X : Stand p l e R s m args below meth c T locs cells slots) (hx : p.tables.exec = Jvm.exec) (hlk : meth.locks = false) {pc : Nat} {Ls : Array Slot} {z : Int32} {rest : List Value} (hret : meth.sig.returnType = some .int)
    (hd : decode c.code pc = .ok (.ireturn, 1)) (hQ : Q (some (.int z)) T.heap locs) (hc : cells ≤ kc) (hs : slots ≤ ks) : OGoal p e below s Q kc ks (T.setTop (mkF m pc Ls (.int z :: rest))) :=
  oRet X hx hlk hret rfl (Or.inl ⟨rfl, Or.inl rfl, _, rfl⟩) hd hQ hc hs
theorem oRetZ (X : Stand p l e R s m args below meth c T locs cells slots) (hx : p.tables.exec = Jvm.exec) (hlk : meth.locks = false) {pc : Nat} {Ls : Array Slot} {z : Int32} {rest : List Value} (hret : meth.sig.returnType = some .boolean) (hz : z = 0 ∨ z = 1)
    (hd : decode c.code pc = .ok (.ireturn, 1)) (hQ : Q (some (.int z)) T.heap locs) (hc : cells ≤ kc) (hs : slots ≤ ks) : OGoal p e below s Q kc ks (T.setTop (mkF m pc Ls (.int z :: rest))) :=
  oRet X hx hlk hret (by rcases hz with rfl | rfl <;> rfl) (Or.inl ⟨rfl, Or.inr (Or.inl rfl), _, rfl⟩) hd hQ hc hs
theorem oRetJ (X : Stand p l e R s m args below meth c T locs cells slots) (hx : p.tables.exec = Jvm.exec) (hlk : meth.locks = false) {pc : Nat} {Ls : Array Slot} {z : Int64} {rest : List Value} (hret : meth.sig.returnType = some .long)
    (hd : decode c.code pc = .ok (.lreturn, 1)) (hQ : Q (some (.long z)) T.heap locs) (hc : cells ≤ kc) (hs : slots ≤ ks) : OGoal p e below s Q kc ks (T.setTop (mkF m pc Ls (.long z :: rest))) :=
  oRet X hx hlk hret rfl (Or.inr (Or.inl ⟨rfl, rfl, _, rfl⟩)) hd hQ hc hs
theorem oRetD (X : Stand p l e R s m args below meth c T locs cells slots) (hx : p.tables.exec = Jvm.exec) (hlk : meth.locks = false) {pc : Nat} {Ls : Array Slot} {z : UInt64} {rest : List Value} (hret : meth.sig.returnType = some .double)
    (hd : decode c.code pc = .ok (.dreturn, 1)) (hQ : Q (some (.double z)) T.heap locs) (hc : cells ≤ kc) (hs : slots ≤ ks) : OGoal p e below s Q kc ks (T.setTop (mkF m pc Ls (.double z :: rest))) :=
  oRet X hx hlk hret rfl (Or.inr (Or.inr (Or.inl ⟨rfl, rfl, _, rfl⟩))) hd hQ hc hs
theorem oNarC {x : Int32} (h : 0 ≤ x.toInt ∧ x.toInt < 65536) : x.toUInt32.toUInt16.toUInt32.toInt32 = x := Int32.toInt_inj.mp (by have q := c_i2c x; omega)
theorem oNarB {x : Int32} (h : -128 ≤ x.toInt ∧ x.toInt < 128) : x.toInt8.toInt32 = x := Int32.toInt_inj.mp (by have q := c_i2b x; omega)
theorem oNarBB (x : Int32) : nar .byte x.toInt8.toInt32 = x.toInt8.toInt32 := oNarB ⟨(c_i2b x).2.1, (c_i2b x).2.2⟩
theorem oRetC (X : Stand p l e R s m args below meth c T locs cells slots) (hx : p.tables.exec = Jvm.exec) (hlk : meth.locks = false) {pc : Nat} {Ls : Array Slot} {z : Int32} {rest : List Value} (hret : meth.sig.returnType = some .char) (hz : 0 ≤ z.toInt ∧ z.toInt < 65536)
    (hd : decode c.code pc = .ok (.ireturn, 1)) (hQ : Q (some (.int z)) T.heap locs) (hc : cells ≤ kc) (hs : slots ≤ ks) : OGoal p e below s Q kc ks (T.setTop (mkF m pc Ls (.int z :: rest))) :=
  oRet X hx hlk hret (congrArg Value.int (oNarC hz)) (Or.inl ⟨rfl, Or.inr (Or.inr (Or.inr (Or.inl rfl))), _, rfl⟩) hd hQ hc hs
theorem oRetB (X : Stand p l e R s m args below meth c T locs cells slots) (hx : p.tables.exec = Jvm.exec) (hlk : meth.locks = false) {pc : Nat} {Ls : Array Slot} {z : Int32} {rest : List Value} (hret : meth.sig.returnType = some .byte) (hz : -128 ≤ z.toInt ∧ z.toInt < 128)
    (hd : decode c.code pc = .ok (.ireturn, 1)) (hQ : Q (some (.int z)) T.heap locs) (hc : cells ≤ kc) (hs : slots ≤ ks) : OGoal p e below s Q kc ks (T.setTop (mkF m pc Ls (.int z :: rest))) :=
  oRet X hx hlk hret (congrArg Value.int (oNarB hz)) (Or.inl ⟨rfl, Or.inr (Or.inr (Or.inl rfl)), _, rfl⟩) hd hQ hc hs
theorem oRetA (X : Stand p l e R s m args below meth c T locs cells slots) (hx : p.tables.exec = Jvm.exec) (hlk : meth.locks = false) {pc : Nat} {Ls : Array Slot} {w : Value} {t : FieldType} {rest : List Value} (hret : meth.sig.returnType = some t) (ht : t.isReference = true) (hw : w.isRef = true)
    (hd : decode c.code pc = .ok (.areturn, 1)) (hQ : Q (some w) T.heap locs) (hc : cells ≤ kc) (hs : slots ≤ ks) : OGoal p e below s Q kc ks (T.setTop (mkF m pc Ls (w :: rest))) :=
  oRet X hx hlk hret (by cases t <;> cases w <;> first | rfl | (cases ht; done) | (cases hw; done)) (Or.inr (Or.inr (Or.inr (Or.inr ⟨rfl, ht, hw⟩)))) hd hQ hc hs
theorem oRetV (X : Stand p l e R s m args below meth c T locs cells slots) (hx : p.tables.exec = Jvm.exec) (hlk : meth.locks = false) {pc : Nat} {Ls : Array Slot} (hret : meth.sig.returnType = none)
    (hd : decode c.code pc = .ok (.return_, 1)) (hQ : Q none T.heap locs) (hc : cells ≤ kc) (hs : slots ≤ ks) : OGoal p e below s Q kc ks (T.setTop (mkF m pc Ls [])) := by
  obtain ⟨fs, hr, hrun, hended, hW, hsame⟩ := X.leave (v := none) (fun _ => rfl) hlk
  exact ⟨_, _, X.returnOut hx hret hd hr, hrun, hended, _, _, rfl, hQ, ⟨_, rfl⟩, hW, hsame.mono hc hs⟩
/-- the contract of a method: called with as' over the heap h it returns, and Q holds; kc cells and ks slots are made at the most -/
def OConK (l : Launch) (Z : State) (y : MethodName) (bytes : ByteArray) (maxL : Nat) (ret : Option FieldType) (rm : Room) (kc ks : Nat) (as' : Array Value) (h : Heap) (Q : Option Value → Heap → List Loc → Prop) : Prop :=
  ∀ ws : List Jvm.Cond, MetFree l y (head1 (Jvm.Cond.code y bytes maxL ret :: ws) rm) (fun a U => a = as' ∧ Z.Warmed39 U.vm ∧ U.heap = h) (fun _ _ _ _ _ => True) (fun _ U o U' => ∃ v L, o = .returned v ∧ Q v U'.heap L ∧ FrameEnd U o U' L kc ks)
abbrev OCon (l : Launch) (Z : State) (y : MethodName) (bytes : ByteArray) (maxL : Nat) (ret : Option FieldType) (rm : Room) (as' : Array Value) (h : Heap) (Q : Option Value → Heap → List Loc → Prop) : Prop := OConK l Z y bytes maxL ret rm rm.cells rm.slots as' h Q
theorem OConK.intro {y : MethodName} {bytes : ByteArray} {maxL : Nat} {ret : Option FieldType} {rm : Room} {as' : Array Value} {Ls : Array Slot} (hpf : plainFor y = true) (ef : ∀ m, entryFrame m as' maxL = mkF m 0 Ls [])
    (H : ∀ p e s m below meth c s₁, p.tables.exec = Jvm.exec → c.code = bytes → c.maxLocals = maxL → s.vm.findClass y.cls = some m.cls → meth.name = y.name → meth.sig.returnType = ret → meth.locks = false → Z.Warmed39 s.vm →
      Stand p l e rm s m as' below meth c s₁ [] 0 0 → s₁.heap = h → OGoal p e below s Q kc ks (s₁.setTop (mkF m 0 Ls []))) : OConK l Z y bytes maxL ret rm kc ks as' h Q := by
  intro ws
  refine MetFree.of_bodySF hpf hisR ?_
  intro p e s m args below meth c s₁ Bd hml hP hK
  obtain ⟨rfl, hZ, hh⟩ := hP
  obtain ⟨s₂, o, h1, h2, h3, h4⟩ := H p e s m below meth c s₁ Bd.exec Bd.bytes hml (findClass_of_methodNamed Bd.named) (name_of_methodNamed Bd.named Bd.method).1 Bd.returns (BodyLoose.notSynchronized Bd) hZ (Stand.of_body Bd) (by rw [← hh, Bd.state]; rfl)
  exact ⟨s₂, o, castTop (ef m) h1, h2, h3, h4⟩
/-- weaker promise -/
theorem OConK.imp {y : MethodName} {bytes : ByteArray} {maxL : Nat} {ret : Option FieldType} {rm : Room} {as' : Array Value} {Q' : Option Value → Heap → List Loc → Prop} (H : OConK l Z y bytes maxL ret rm kc ks as' h Q) (k : ∀ v h' L, Q v h' L → Q' v h' L) : OConK l Z y bytes maxL ret rm kc ks as' h Q' := by
  intro ws p e ha hc hk s m args below hf happ hP hK
  obtain ⟨n, o, h1, h2, h3, v, L, h4, h5, h6⟩ := H ws p e ha hc hk s m args below hf happ hP hK
  exact ⟨n, o, h1, h2, h3, v, L, h4, k _ _ _ h5, h6⟩
theorem oCallS (X : Stand p l e R s m args below meth c T locs cells slots) (hx : p.tables.exec = Jvm.exec) (hZ : Z.Warmed39 s.vm) {own : String} {index : Nat} {y : MethodName} {bytes : ByteArray} {maxL : Nat} {ret : Option FieldType} {rm : Room} {as' : Array Value} {Qc : Option Value → Heap → List Loc → Prop}
    (hown : s.vm.findClass own = some m.cls) (w1 : (Jvm.Cond.methodLink own index y).before a0 Z = true) (w2 : (Jvm.Cond.static y).before a0 Z = true) (w3 : (Jvm.Cond.initialized y.cls).before a0 Z = true) (w4 : (Jvm.Cond.code y bytes maxL ret).before a0 Z = true)
    (hy : y.cls ≠ "java/lang/invoke/MethodHandle" ∧ y.cls ≠ "java/lang/invoke/VarHandle") (hM : OCon l Z y bytes maxL ret rm as' h Qc) (eT : T.heap = h) {pc : Nat} {Ls : Array Slot} {st : List Value} (argsL rest : List Value) (hst : st = argsL.reverse ++ rest) (has : argsL.toArray = as') (hsize : Ls.size = c.maxLocals)
    (hlen : ∀ sig, parseMethodDescriptor y.desc = some sig → argsL.length = sig.parameters.length) (W : Nat) (hW : (rest.map fun v => v.category).sum ≤ W) (hfr : rm.frames + 1 ≤ R.frames) (hlo : W + (maxL + 11) + rm.locals ≤ R.locals) (hce : cells + rm.cells ≤ R.cells) (hsl : slots + rm.slots ≤ R.slots)
    (hd : decode c.code pc = .ok (.invokestatic index, 3))
    (k : ∀ v T' Lc, Stand p l e R s m args below meth c T' (locs ++ Lc) (cells + rm.cells) (slots + rm.slots) → Qc v T'.heap Lc → OGoal p e below s Q kc ks (T'.setTop (mkF m (pc + 3) Ls (v.toList ++ rest)))) :
    OGoal p e below s Q kc ks (T.setTop (mkF m pc Ls st)) := by
  subst hst has
  obtain ⟨v, _, ⟨T', L', k', n'⟩, -, X', ⟨Lc, hQ, l', y', z'⟩, st⟩ := Jvm.LawKit.callS X hx (y := y) hown (mvT hZ w1) (mvT hZ w2) (mvT hZ w3) (mvT hZ w4) hy (backOf (W := W) (hM []) hZ w4 w3 hfr hlo) (g := mkF m pc Ls (argsL.reverse ++ rest)) rfl hsize (argsL := argsL) (rest := rest) hlen rfl (by show 2 * 0 + _ ≤ _; omega) hd (fun _ _ => ⟨rfl, eT, hce, hsl⟩)
  dsimp only [Pt.U, Pt.locs, Pt.cells, Pt.slots] at X' l' y' z' st hQ
  subst l' y' z'
  exact OGoal.mp st (k v T' Lc X' hQ)
theorem oCallV (X : Stand p l e R s m args below meth c T locs cells slots) (hx : p.tables.exec = Jvm.exec) (hZ : Z.Warmed39 s.vm) {own C : String} {index : Nat} {y z : MethodName} {bytes : ByteArray} {maxL : Nat} {ret : Option FieldType} {rm : Room} {as' : Array Value} {Qc : Option Value → Heap → List Loc → Prop}
    (hown : s.vm.findClass own = some m.cls) (w1 : (Jvm.Cond.methodLink own index y).before a0 Z = true) (w2 : (Jvm.Cond.declares y).before a0 Z = true) (w5 : (Jvm.Cond.selects C y z).before a0 Z = true) (w6 : (Jvm.Cond.instanceMethod z).before a0 Z = true) (w3 : (Jvm.Cond.initialized z.cls).before a0 Z = true) (w4 : (Jvm.Cond.code z bytes maxL ret).before a0 Z = true)
    (hy : y.cls ≠ "java/lang/invoke/MethodHandle" ∧ y.cls ≠ "java/lang/invoke/VarHandle") (hM : OCon l Z z bytes maxL ret rm as' h Qc) (eT : T.heap = h) {a : Addr} (E : Exa Z h a C) {pc : Nat} {Ls : Array Slot} {st : List Value} (argsL rest : List Value) (hst : st = argsL.reverse ++ .ref a :: rest) (has : (.ref a :: argsL).toArray = as') (hsize : Ls.size = c.maxLocals)
    (hnf : NotFace s y) (hlen : ∀ sig, parseMethodDescriptor y.desc = some sig → argsL.length = sig.parameters.length) (W : Nat) (hW : (rest.map fun v => v.category).sum ≤ W) (hfr : rm.frames + 1 ≤ R.frames) (hlo : W + (maxL + 11) + rm.locals ≤ R.locals) (hce : cells + rm.cells ≤ R.cells) (hsl : slots + rm.slots ≤ R.slots)
    (hd : decode c.code pc = .ok (.invokevirtual index, 3))
    (k : ∀ v T' Lc, Stand p l e R s m args below meth c T' (locs ++ Lc) (cells + rm.cells) (slots + rm.slots) → Qc v T'.heap Lc → OGoal p e below s Q kc ks (T'.setTop (mkF m (pc + 3) Ls (v.toList ++ rest)))) :
    OGoal p e below s Q kc ks (T.setTop (mkF m pc Ls st)) := by
  subst hst has
  obtain ⟨cq, kq, qa, qb, qc⟩ := isOf hZ eT E
  obtain ⟨v, _, ⟨T', L', k', n'⟩, -, X', ⟨Lc, hQ, l', y', z'⟩, st⟩ := X.virtualBack hx (y := y) (z := z) hown (mvT hZ w1) (mvT hZ w2) hnf (mvT hZ w5) (mvT hZ w6) hy (backOf (W := W) (hM []) hZ w4 w3 hfr hlo) qa qc (g := mkF m pc Ls (argsL.reverse ++ .ref a :: rest)) rfl hsize (Steps.refl _) (argsL := argsL) (rest := rest) hlen rfl (by show 2 * 0 + _ ≤ _; omega) hd (fun _ _ => ⟨rfl, eT, hce, hsl⟩)
  dsimp only [Pt.U, Pt.locs, Pt.cells, Pt.slots] at X' l' y' z' st hQ
  subst l' y' z'
  exact OGoal.mp (fun t q => st.trans q) (k v T' Lc X' hQ)
theorem oCallN (X : Stand p l e R s m args below meth c T locs cells slots) (hx : p.tables.exec = Jvm.exec) (hZ : Z.Warmed39 s.vm) {own : String} {index : Nat} {y : MethodName} {bytes : ByteArray} {maxL : Nat} {rm : Room} {as' : Array Value} {Qc : Option Value → Heap → List Loc → Prop}
    (hy1 : y.name = "<init>") (hown : s.vm.findClass own = some m.cls) (w1 : (Jvm.Cond.methodLink own index y).before a0 Z = true) (w6 : (Jvm.Cond.instanceMethod y).before a0 Z = true) (w3 : (Jvm.Cond.initialized y.cls).before a0 Z = true) (w4 : (Jvm.Cond.code y bytes maxL none).before a0 Z = true)
    (hy : y.cls ≠ "java/lang/invoke/MethodHandle" ∧ y.cls ≠ "java/lang/invoke/VarHandle") (hM : OCon l Z y bytes maxL none rm as' h Qc) (eT : T.heap = h) {a : Addr} {pc : Nat} {Ls : Array Slot} {st : List Value} (argsL rest : List Value) (hst : st = argsL.reverse ++ .ref a :: rest) (has : (.ref a :: argsL).toArray = as') (hsize : Ls.size = c.maxLocals)
    (hlen : ∀ sig, parseMethodDescriptor y.desc = some sig → argsL.length = sig.parameters.length) (W : Nat) (hW : (rest.map fun v => v.category).sum ≤ W) (hfr : rm.frames + 1 ≤ R.frames) (hlo : W + (maxL + 11) + rm.locals ≤ R.locals) (hce : cells + rm.cells ≤ R.cells) (hsl : slots + rm.slots ≤ R.slots)
    (hd : decode c.code pc = .ok (.invokespecial index, 3))
    (k : ∀ v T' Lc, Stand p l e R s m args below meth c T' (locs ++ Lc) (cells + rm.cells) (slots + rm.slots) → Qc v T'.heap Lc → OGoal p e below s Q kc ks (T'.setTop (mkF m (pc + 3) Ls (v.toList ++ rest)))) :
    OGoal p e below s Q kc ks (T.setTop (mkF m pc Ls st)) := by
  subst hst has
  obtain ⟨v, _, ⟨T', L', k', n'⟩, -, X', ⟨Lc, hQ, l', y', z'⟩, st⟩ := X.specialBack hx (y := y) hy1 hown (mvT hZ w1) (mvT hZ w6) (mvT hZ w4) hy (backOf (W := W) (hM []) hZ w4 w3 hfr hlo) (g := mkF m pc Ls (argsL.reverse ++ .ref a :: rest)) rfl hsize (Steps.refl _) (a := a) (argsL := argsL) (rest := rest) hlen rfl (by show 2 * 0 + _ ≤ _; omega) hd (fun _ _ => ⟨rfl, eT, hce, hsl⟩)
  dsimp only [Pt.U, Pt.locs, Pt.cells, Pt.slots] at X' l' y' z' st hQ
  subst l' y' z'
  exact OGoal.mp (fun t q => st.trans q) (k v T' Lc X' hQ)
theorem oNotFace {s : State} {C : String} {k : Nat} (h : (Jvm.Cond.instantiable C k).before args s = true) : ∃ c kc, s.vm.findClass C = some c ∧ s.vm.classes[c]? = some kc ∧ kc.isInterface = false := by
  obtain ⟨c, kc, h1, h2, -, h3, -, -⟩ := Cond.instantiable_spec h
  exact ⟨c, kc, h1, h2, (Bool.or_eq_false_iff.mp h3).1⟩
theorem oCallP (X : Stand p l e R s m args below meth c T locs cells slots) (hx : p.tables.exec = Jvm.exec) (hZ : Z.Warmed39 s.vm) {own C : String} {index : Nat} {y : MethodName} {bytes : ByteArray} {maxL : Nat} {ret : Option FieldType} {rm : Room} {as' : Array Value} {Qc : Option Value → Heap → List Loc → Prop}
    (hown : s.vm.findClass own = some m.cls) (w1 : (Jvm.Cond.methodLink own index y).before a0 Z = true) {kk : Nat} (w5 : (Jvm.Cond.instantiable y.cls kk).before a0 Z = true) (w6 : (Jvm.Cond.instanceMethod y).before a0 Z = true) (w7 : (Jvm.Cond.privateMethod y).before a0 Z = true) (w3 : (Jvm.Cond.initialized y.cls).before a0 Z = true) (w4 : (Jvm.Cond.code y bytes maxL ret).before a0 Z = true)
    (hy : y.cls ≠ "java/lang/invoke/MethodHandle" ∧ y.cls ≠ "java/lang/invoke/VarHandle") (hM : OCon l Z y bytes maxL ret rm as' h Qc) (eT : T.heap = h) {a : Addr} (E : Exa Z h a C) {pc : Nat} {Ls : Array Slot} {st : List Value} (argsL rest : List Value) (hst : st = argsL.reverse ++ .ref a :: rest) (has : (.ref a :: argsL).toArray = as') (hsize : Ls.size = c.maxLocals)
    (hlen : ∀ sig, parseMethodDescriptor y.desc = some sig → argsL.length = sig.parameters.length) (W : Nat) (hW : (rest.map fun v => v.category).sum ≤ W) (hfr : rm.frames + 1 ≤ R.frames) (hlo : W + (maxL + 11) + rm.locals ≤ R.locals) (hce : cells + rm.cells ≤ R.cells) (hsl : slots + rm.slots ≤ R.slots)
    (hd : decode c.code pc = .ok (.invokevirtual index, 3))
    (k : ∀ v T' Lc, Stand p l e R s m args below meth c T' (locs ++ Lc) (cells + rm.cells) (slots + rm.slots) → Qc v T'.heap Lc → OGoal p e below s Q kc ks (T'.setTop (mkF m (pc + 3) Ls (v.toList ++ rest)))) :
    OGoal p e below s Q kc ks (T.setTop (mkF m pc Ls st)) := by
  subst hst has
  obtain ⟨cq, q1, q2⟩ := E.cell
  obtain ⟨c1, k1, hc1, hk1, hi1⟩ := oNotFace (args := #[]) (mvT hZ w5)
  have hpr : s.PrivateAt y := Cond.privateMethod_at (mvP hZ w7 (args := #[]))
  have hse := selects_self_of_private (args := args) hc1 hk1 hi1 hpr (mvT hZ w6) hy
  obtain ⟨v, _, ⟨T', L', k', n'⟩, -, X', ⟨Lc, hQ, l', y', z'⟩, st⟩ := X.privateBack hx (y := y) hown (mvT hZ w1) (mvT hZ w6) hse hpr (mvT hZ w4) hy (backOf (W := W) (hM []) hZ w4 w3 hfr hlo) (g := mkF m pc Ls (argsL.reverse ++ .ref a :: rest)) rfl hsize (Steps.refl _) (a := a) (by rw [eT]; exact q1) q2 (argsL := argsL) (rest := rest) hlen rfl (by show 2 * 0 + _ ≤ _; omega) hd (fun _ _ => ⟨rfl, eT, hce, hsl⟩)
  dsimp only [Pt.U, Pt.locs, Pt.cells, Pt.slots] at X' l' y' z' st hQ
  subst l' y' z'
  exact OGoal.mp (fun t q => st.trans q) (k v T' Lc X' hQ)
theorem oLrem {g : JFrame} {target : State} (X : Stand p l e R s m args below meth c T locs cells slots) (hx : p.tables.exec = Jvm.exec) (hg : g.method = m) {x y : Int64} {rest : List Value} (hd : decode c.code g.pc = .ok (.lrem, 1)) (hs : g.stack = .long y :: .long x :: rest) (hy : y ≠ 0)
    (hr : Steps p.tables e below (T.setTop { g with pc := g.pc + 1, stack := .long (x % y) :: rest }) target) : Steps p.tables e below (T.setTop g) target := XT.lrem X.here hx hg hd hs hy (by rw [lrem_mod]; exact hr)
theorem oLt {x y : Int32} (h : x < y) : x.toInt < y.toInt := Int32.lt_iff_toInt_lt.mp h
theorem oNlt {x y : Int32} (h : ¬ x < y) : y.toInt ≤ x.toInt := Int.not_lt.mp fun q => h (Int32.lt_iff_toInt_lt.mpr q)
theorem oEq {x y : Int32} (h : x = y) : x.toInt = y.toInt := congrArg _ h
theorem oNe {x y : Int32} (h : ¬ x = y) : x.toInt ≠ y.toInt := fun q => h (Int32.toInt_inj.mp q)
theorem oLtL {x y : Int64} (h : x < y) : x.toInt < y.toInt := Int64.lt_iff_toInt_lt.mp h
theorem oNltL {x y : Int64} (h : ¬ x < y) : y.toInt ≤ x.toInt := Int.not_lt.mp fun q => h (Int64.lt_iff_toInt_lt.mpr q)
theorem oEqL {x y : Int64} (h : x = y) : x.toInt = y.toInt := congrArg _ h
theorem oNeL {x y : Int64} (h : ¬ x = y) : x.toInt ≠ y.toInt := fun q => h (Int64.toInt_inj.mp q)
theorem mLt {x y : Int32} (h : x.toInt < y.toInt) : x < y := Int32.lt_iff_toInt_lt.mpr h
theorem mNlt {x y : Int32} (h : y.toInt ≤ x.toInt) : ¬ x < y := fun q => absurd (oLt q) (Int.not_lt.mpr h)
theorem mEq {x y : Int32} (h : x.toInt = y.toInt) : x = y := Int32.toInt_inj.mp h
theorem mNe {x y : Int32} (h : x.toInt ≠ y.toInt) : ¬ x = y := fun q => h (congrArg _ q)
theorem mLtL {x y : Int64} (h : x.toInt < y.toInt) : x < y := Int64.lt_iff_toInt_lt.mpr h
theorem mNltL {x y : Int64} (h : y.toInt ≤ x.toInt) : ¬ x < y := fun q => absurd (oLtL q) (Int.not_lt.mpr h)
theorem mEqL {x y : Int64} (h : x.toInt = y.toInt) : x = y := Int64.toInt_inj.mp h
theorem mNeL {x y : Int64} (h : x.toInt ≠ y.toInt) : ¬ x = y := fun q => h (congrArg _ q)
theorem oRemL (x y : Int64) : 0 ≤ x.toInt → 0 < y.toInt → 0 ≤ (x % y).toInt ∧ (x % y).toInt < y.toInt := by
  intro h1 h2
  rw [Int64.toInt_mod, Int.tmod_eq_emod_of_nonneg h1]
  exact ⟨Int.emod_nonneg _ (by omega), Int.emod_lt_of_pos _ h2⟩
theorem oRemI (x y : Int32) : 0 ≤ x.toInt → 0 < y.toInt → 0 ≤ (x % y).toInt ∧ (x % y).toInt < y.toInt := by
  intro h1 h2
  rw [Int32.toInt_mod, Int.tmod_eq_emod_of_nonneg h1]
  exact ⟨Int.emod_nonneg _ (by omega), Int.emod_lt_of_pos _ h2⟩
/-- an array of kind ty, of length z, whose i-th component is f i -/
def OArr (Z : State) (h : Heap) (a : Addr) (ty : FieldType) (z : Int32) (f : Nat → Value) : Prop := ∃ c : Cell, Arr Z h a c ty ∧ c.slots.size = z.toNatClampNeg ∧ ¬ z < 0 ∧ ∀ i, i < c.slots.size → c.slots[i]? = some (f i)
section OArrs
variable {h' : Heap} {a b : Addr} {ty : FieldType} {z : Int32} {f : Nat → Value} {sl : Nat} {v : Value}
theorem OArr.lt (F : OArr Z h a ty z f) : a < h.size := by obtain ⟨c, A, -⟩ := F; exact A.lt
theorem OArr.ext (F : OArr Z h a ty z f) (E : Ext h h') : OArr Z h' a ty z f := by obtain ⟨c, A, r⟩ := F; exact ⟨c, A.ext E, r⟩
theorem OArr.other (F : OArr Z h b ty z f) (W : Wr h h' a sl v) (q : b ≠ a) : OArr Z h' b ty z f := by obtain ⟨c, A, r⟩ := F; exact ⟨c, A.other W q, r⟩
theorem OArr.keep {ws : List Addr} (F : OArr Z h a ty z f) (K : Keep h h' ws) (q : a ∉ ws) : OArr Z h' a ty z f := by obtain ⟨c, A, r⟩ := F; exact ⟨c, ⟨K.2.1 a c A.1 q, A.2⟩, r⟩
theorem OArr.imp {g : Nat → Value} (F : OArr Z h a ty z f) (k : ∀ i, i < z.toNatClampNeg → f i = g i) : OArr Z h a ty z g := by
  obtain ⟨c, A, S, r, G⟩ := F
  exact ⟨c, A, S, r, fun i hi => by rw [G i hi, k i (by rw [← S]; exact hi)]⟩
theorem OArr.new {k : ClassId} (A : Arr Z h a (newA k ty z) ty) (q : ¬ z < 0) : OArr Z h a ty z (fun _ => defaultValue ty) :=
  ⟨_, A, sz_new _ _ _, q, fun i hi => by simp only [newA, Array.size_replicate] at hi; simp [newA, hi]⟩
theorem OArr.set (F : OArr Z h a ty z f) (W : Wr h h' a sl v) : OArr Z h' a ty z (fun i => if i = sl then v else f i) := by
  obtain ⟨c, A, S, r, G⟩ := F
  refine ⟨_, A.same W, by rw [sz_set]; exact S, r, fun i hi => ?_⟩
  rw [sz_set] at hi
  show (c.setSlot sl v).slots[i]? = some (if i = sl then v else f i)
  by_cases q : i = sl
  · subst q; simp [Cell.setSlot, hi]
  · rw [if_neg q, ← G i hi]
    simp [Cell.setSlot, Array.getElem?_setIfInBounds, Ne.symm q]
theorem oNeA {C : String} {k : Nat} (E : Exa Z h a C) (wi : (Jvm.Cond.instantiable C k).before a0 Z = true) (F : OArr Z h b ty z f) : a ≠ b := by
  obtain ⟨c, A, -⟩ := F; exact ne_arr E wi A
theorem oIn {j : Int32} {n : Nat} (S : n = z.toNatClampNeg) (h1 : 0 ≤ j.toInt) (h2 : j.toInt < z.toInt) : ¬ (j < 0 ∨ n ≤ j.toNatClampNeg) := by
  intro q
  have e0 : (0 : Int32).toInt = 0 := by decide
  have e1 : j.toNatClampNeg = j.toInt.toNat := rfl
  have e2 : z.toNatClampNeg = z.toInt.toNat := rfl
  rcases q with q | q
  · have := oLt q; omega
  · rw [S, e1, e2] at q; omega
theorem oLen (X : Stand p l e R s m args below meth c T locs cells slots) (hx : p.tables.exec = Jvm.exec) (hZ : Z.Warmed39 s.vm) (eT : T.heap = h) (F : OArr Z h a ty z f) {g : JFrame} (hg : g.method = m) {rest : List Value} (hs : g.stack = .ref a :: rest) (hd : decode c.code g.pc = .ok (.arraylength, 1)) {target : State}
    (k : Steps p.tables e below (T.setTop { g with pc := g.pc + 1, stack := .int z :: rest }) target) : Steps p.tables e below (T.setTop g) target := by
  obtain ⟨cl, A, S, r, -⟩ := F
  refine X.arraylength hx (by rw [eT]; exact A.1) (State.isArrayOf_alike hZ.alike A.2.1) (g := g) hg hs hd _ ?_
  rw [len_of S r]; exact k
theorem oInd (F : OArr Z h a ty z f) {j : Int32} (h1 : 0 ≤ j.toInt) (h2 : j.toInt < z.toInt) : ∃ cl, Arr Z h a cl ty ∧ ¬ (j < 0 ∨ cl.slots.size ≤ j.toNatClampNeg) ∧ cl.slots[j.toNatClampNeg]? = some (f j.toNatClampNeg) := by
  obtain ⟨cl, A, S, r, G⟩ := F
  have q := oIn S h1 h2
  exact ⟨cl, A, q, G _ (Nat.lt_of_not_le fun w => q (Or.inr w))⟩
theorem oLdI (X : Stand p l e R s m args below meth c T locs cells slots) (hx : p.tables.exec = Jvm.exec) (hZ : Z.Warmed39 s.vm) (eT : T.heap = h) (F : OArr Z h a .int z f) {j x : Int32} (h1 : 0 ≤ j.toInt) (h2 : j.toInt < z.toInt) (hv : f j.toNatClampNeg = .int x) {g : JFrame} (hg : g.method = m) {rest : List Value} (hs : g.stack = .int j :: .ref a :: rest) (hd : decode c.code g.pc = .ok (.iaload, 1)) {target : State}
    (k : Steps p.tables e below (T.setTop { g with pc := g.pc + 1, stack := .int x :: rest }) target) : Steps p.tables e below (T.setTop g) target := by
  obtain ⟨cl, A, q, G⟩ := oInd F h1 h2
  rw [hv] at G
  exact X.iaload hx (j := j) (v := .int x) (by rw [eT]; exact A.1) (State.isArrayOf_alike hZ.alike A.2.1) A.2.2 q G (g := g) hg hs hd _ k
theorem oLdD (X : Stand p l e R s m args below meth c T locs cells slots) (hx : p.tables.exec = Jvm.exec) (hZ : Z.Warmed39 s.vm) (eT : T.heap = h) (F : OArr Z h a .double z f) {j : Int32} {x : UInt64} (h1 : 0 ≤ j.toInt) (h2 : j.toInt < z.toInt) (hv : f j.toNatClampNeg = .double x) {g : JFrame} (hg : g.method = m) {rest : List Value} (hs : g.stack = .int j :: .ref a :: rest) (hd : decode c.code g.pc = .ok (.daload, 1)) {target : State}
    (k : Steps p.tables e below (T.setTop { g with pc := g.pc + 1, stack := .double x :: rest }) target) : Steps p.tables e below (T.setTop g) target := by
  obtain ⟨cl, A, q, G⟩ := oInd F h1 h2
  rw [hv] at G
  exact X.daload hx (j := j) (v := .double x) (by rw [eT]; exact A.1) (State.isArrayOf_alike hZ.alike A.2.1) A.2.2 q G (g := g) hg hs hd _ k
theorem oLdR (X : Stand p l e R s m args below meth c T locs cells slots) (hx : p.tables.exec = Jvm.exec) (hZ : Z.Warmed39 s.vm) (eT : T.heap = h) (F : OArr Z h a ty z f) (hty : ty.isReference = true) {j : Int32} {x : Value} (h1 : 0 ≤ j.toInt) (h2 : j.toInt < z.toInt) (hv : f j.toNatClampNeg = x) {g : JFrame} (hg : g.method = m) {rest : List Value} (hs : g.stack = .int j :: .ref a :: rest) (hd : decode c.code g.pc = .ok (.aaload, 1)) {target : State}
    (k : Steps p.tables e below (T.setTop { g with pc := g.pc + 1, stack := x :: rest }) target) : Steps p.tables e below (T.setTop g) target := by
  obtain ⟨cl, A, q, G⟩ := oInd F h1 h2
  rw [hv] at G
  exact X.aaload hx (j := j) (v := x) (by rw [eT]; exact A.1) (State.isArrayOf_alike hZ.alike A.2.1) hty A.2.2 q G (g := g) hg hs hd _ k
theorem OArr.of_arv {kc : ClassId} {vs : List Value} {d : Value} (F : Arv Z h a kc ty z vs d) : OArr Z h a ty z (fun i => vs.getD i d) := by
  obtain ⟨c, A, -, S, r, H, -⟩ := F
  exact ⟨c, A, S, r, H⟩
theorem oKext (K : Keep h h' []) : Ext h h' := ⟨K.1, fun a c q => K.2.1 a c q (fun z => nomatch z)⟩
theorem oLdC (X : Stand p l e R s m args below meth c T locs cells slots) (hx : p.tables.exec = Jvm.exec) (hZ : Z.Warmed39 s.vm) (eT : T.heap = h) (F : OArr Z h a .char z f) {j x : Int32} (h1 : 0 ≤ j.toInt) (h2 : j.toInt < z.toInt) (hv : f j.toNatClampNeg = .int x) {g : JFrame} (hg : g.method = m) {rest : List Value} (hs : g.stack = .int j :: .ref a :: rest) (hd : decode c.code g.pc = .ok (.caload, 1)) {target : State}
    (k : Steps p.tables e below (T.setTop { g with pc := g.pc + 1, stack := .int x :: rest }) target) : Steps p.tables e below (T.setTop g) target := by
  obtain ⟨cl, A, q, G⟩ := oInd F h1 h2
  rw [hv] at G
  exact X.caload hx (j := j) (v := .int x) (by rw [eT]; exact A.1) (State.isArrayOf_alike hZ.alike A.2.1) A.2.2 q G (g := g) hg hs hd _ k
theorem oLdB (X : Stand p l e R s m args below meth c T locs cells slots) (hx : p.tables.exec = Jvm.exec) (hZ : Z.Warmed39 s.vm) (eT : T.heap = h) (F : OArr Z h a .byte z f) {j x : Int32} (h1 : 0 ≤ j.toInt) (h2 : j.toInt < z.toInt) (hv : f j.toNatClampNeg = .int x) {g : JFrame} (hg : g.method = m) {rest : List Value} (hs : g.stack = .int j :: .ref a :: rest) (hd : decode c.code g.pc = .ok (.baload, 1)) {target : State}
    (k : Steps p.tables e below (T.setTop { g with pc := g.pc + 1, stack := .int x :: rest }) target) : Steps p.tables e below (T.setTop g) target := by
  obtain ⟨cl, A, q, G⟩ := oInd F h1 h2
  rw [hv] at G
  exact X.baloadBytes hx (j := j) (v := .int x) (by rw [eT]; exact A.1) (State.isArrayOf_alike hZ.alike A.2.1) A.2.2 q G (g := g) hg hs hd _ k
theorem oLdZ (X : Stand p l e R s m args below meth c T locs cells slots) (hx : p.tables.exec = Jvm.exec) (hZ : Z.Warmed39 s.vm) (eT : T.heap = h) (F : OArr Z h a .boolean z f) {j x : Int32} (h1 : 0 ≤ j.toInt) (h2 : j.toInt < z.toInt) (hv : f j.toNatClampNeg = .int x) {g : JFrame} (hg : g.method = m) {rest : List Value} (hs : g.stack = .int j :: .ref a :: rest) (hd : decode c.code g.pc = .ok (.baload, 1)) {target : State}
    (k : Steps p.tables e below (T.setTop { g with pc := g.pc + 1, stack := .int x :: rest }) target) : Steps p.tables e below (T.setTop g) target := by
  obtain ⟨cl, A, q, G⟩ := oInd F h1 h2
  rw [hv] at G
  exact X.baloadBooleans hx (j := j) (v := .int x) (by rw [eT]; exact A.1) (State.isArrayOf_alike hZ.alike A.2.1) A.2.2 q G (g := g) hg hs hd _ k
theorem oStC (X : Stand p l e R s m args below meth c T locs cells slots) (hx : p.tables.exec = Jvm.exec) (hZ : Z.Warmed39 s.vm) (eT : T.heap = h) (F : OArr Z h a .char z f) {j x : Int32} (h1 : 0 ≤ j.toInt) (h2 : j.toInt < z.toInt) (hn : nar .char x = x) {g : JFrame} (hg : g.method = m) {rest : List Value} (hs : g.stack = .int x :: .int j :: .ref a :: rest) (hd : decode c.code g.pc = .ok (.castore, 1)) :
    ∃ T' h', Stand p l e R s m args below meth c T' (locs ++ [⟨a, j.toNatClampNeg⟩]) cells slots ∧ T'.heap = h' ∧ Wr h h' a j.toNatClampNeg (.int x) ∧ ∀ target, Steps p.tables e below (T'.setTop { g with pc := g.pc + 1, stack := rest }) target → Steps p.tables e below (T.setTop g) target := by
  obtain ⟨cl, A, q, G⟩ := oInd F h1 h2
  have r := stC X hx hZ eT A q hg hs hd
  rw [hn] at r; exact r
theorem oStB (X : Stand p l e R s m args below meth c T locs cells slots) (hx : p.tables.exec = Jvm.exec) (hZ : Z.Warmed39 s.vm) (eT : T.heap = h) (F : OArr Z h a .byte z f) {j x : Int32} (h1 : 0 ≤ j.toInt) (h2 : j.toInt < z.toInt) (hn : nar .byte x = x) {g : JFrame} (hg : g.method = m) {rest : List Value} (hs : g.stack = .int x :: .int j :: .ref a :: rest) (hd : decode c.code g.pc = .ok (.bastore, 1)) :
    ∃ T' h', Stand p l e R s m args below meth c T' (locs ++ [⟨a, j.toNatClampNeg⟩]) cells slots ∧ T'.heap = h' ∧ Wr h h' a j.toNatClampNeg (.int x) ∧ ∀ target, Steps p.tables e below (T'.setTop { g with pc := g.pc + 1, stack := rest }) target → Steps p.tables e below (T.setTop g) target := by
  obtain ⟨cl, A, q, G⟩ := oInd F h1 h2
  have r := stB X hx hZ eT A q hg hs hd
  rw [hn] at r; exact r
theorem oStZ (X : Stand p l e R s m args below meth c T locs cells slots) (hx : p.tables.exec = Jvm.exec) (hZ : Z.Warmed39 s.vm) (eT : T.heap = h) (F : OArr Z h a .boolean z f) {j x : Int32} (h1 : 0 ≤ j.toInt) (h2 : j.toInt < z.toInt) (hn : nar .boolean x = x) {g : JFrame} (hg : g.method = m) {rest : List Value} (hs : g.stack = .int x :: .int j :: .ref a :: rest) (hd : decode c.code g.pc = .ok (.bastore, 1)) :
    ∃ T' h', Stand p l e R s m args below meth c T' (locs ++ [⟨a, j.toNatClampNeg⟩]) cells slots ∧ T'.heap = h' ∧ Wr h h' a j.toNatClampNeg (.int x) ∧ ∀ target, Steps p.tables e below (T'.setTop { g with pc := g.pc + 1, stack := rest }) target → Steps p.tables e below (T.setTop g) target := by
  obtain ⟨cl, A, q, G⟩ := oInd F h1 h2
  have r := stZ X hx hZ eT A q hg hs hd
  rw [hn] at r; exact r
theorem oStI (X : Stand p l e R s m args below meth c T locs cells slots) (hx : p.tables.exec = Jvm.exec) (hZ : Z.Warmed39 s.vm) (eT : T.heap = h) (F : OArr Z h a .int z f) {j x : Int32} (h1 : 0 ≤ j.toInt) (h2 : j.toInt < z.toInt) {g : JFrame} (hg : g.method = m) {rest : List Value} (hs : g.stack = .int x :: .int j :: .ref a :: rest) (hd : decode c.code g.pc = .ok (.iastore, 1)) :
    ∃ T' h', Stand p l e R s m args below meth c T' (locs ++ [⟨a, j.toNatClampNeg⟩]) cells slots ∧ T'.heap = h' ∧ Wr h h' a j.toNatClampNeg (.int x) ∧ ∀ target, Steps p.tables e below (T'.setTop { g with pc := g.pc + 1, stack := rest }) target → Steps p.tables e below (T.setTop g) target := by
  obtain ⟨cl, A, q, G⟩ := oInd F h1 h2
  exact stI X hx hZ eT A q hg hs hd
theorem oStD (X : Stand p l e R s m args below meth c T locs cells slots) (hx : p.tables.exec = Jvm.exec) (hZ : Z.Warmed39 s.vm) (eT : T.heap = h) (F : OArr Z h a .double z f) {j : Int32} {x : UInt64} (h1 : 0 ≤ j.toInt) (h2 : j.toInt < z.toInt) {g : JFrame} (hg : g.method = m) {rest : List Value} (hs : g.stack = .double x :: .int j :: .ref a :: rest) (hd : decode c.code g.pc = .ok (.dastore, 1)) :
    ∃ T' h', Stand p l e R s m args below meth c T' (locs ++ [⟨a, j.toNatClampNeg⟩]) cells slots ∧ T'.heap = h' ∧ Wr h h' a j.toNatClampNeg (.double x) ∧ ∀ target, Steps p.tables e below (T'.setTop { g with pc := g.pc + 1, stack := rest }) target → Steps p.tables e below (T.setTop g) target := by
  obtain ⟨cl, A, q, G⟩ := oInd F h1 h2
  exact stD X hx hZ eT A q hg hs hd
theorem oClone (X : Stand p l e R s m args below meth c T locs cells slots) (hx : p.tables.exec = Jvm.exec) (hZ : Z.Warmed39 s.vm) {own ad : String} {index : Nat} (hown : s.vm.findClass own = some m.cls)
    (w1 : (Jvm.Cond.methodLink own index ⟨ad, "clone", "()Ljava/lang/Object;"⟩).before a0 Z = true) (w2 : (Jvm.Cond.sameMethod ad "java/lang/Object" "clone" "()Ljava/lang/Object;").before a0 Z = true) (w3 : (Jvm.Cond.native ⟨"java/lang/Object", "clone", "()Ljava/lang/Object;"⟩).before a0 Z = true)
    (w4 : (Jvm.Cond.instanceMethod ⟨"java/lang/Object", "clone", "()Ljava/lang/Object;"⟩).before a0 Z = true) (w5 : (Jvm.Cond.selects ad ⟨ad, "clone", "()Ljava/lang/Object;"⟩ ⟨"java/lang/Object", "clone", "()Ljava/lang/Object;"⟩).before a0 Z = true) (w6 : (Jvm.Cond.castable ad "java/lang/Cloneable").before a0 Z = true)
    (eT : T.heap = h) (F : OArr Z h a ty z f) (E : Exa Z h a ad) (hfit : ∀ i, i < z.toNatClampNeg → fits ty (f i) = true) {g : JFrame} (hg : g.method = m) (hsize : g.locals.size = c.maxLocals) {rest : List Value} (hst : g.stack = .ref a :: rest) (hd : decode c.code g.pc = .ok (.invokevirtual index, 3))
    (hf : 1 ≤ R.frames) {W cap : Nat} (hW : 2 * g.monitorRoom + (rest.map fun v => v.category).sum ≤ W) (hl : W + 14 ≤ R.locals) (hcap : z.toNatClampNeg ≤ cap) (hc : cells + 1 ≤ R.cells) (hsl : slots + cap ≤ R.slots) :
    ∃ T' h', Stand p l e R s m args below meth c T' locs (cells + 1) (slots + cap) ∧ T'.heap = h' ∧ Ext h h' ∧ OArr Z h' h.size ty z f ∧ Exa Z h' h.size ad ∧
      ∀ target, Steps p.tables e below (T'.setTop { g with pc := g.pc + 3, stack := .ref h.size :: rest }) target → Steps p.tables e below (T.setTop g) target := by
  obtain ⟨cl, A, S, r, G⟩ := F
  have FC : FitC Z cl := fitC_of A fun i hi v hv => by
    rw [G i hi] at hv; cases hv; exact hfit i (by rw [← S]; exact hi)
  obtain ⟨T', h', X', e', ex, A', E', st⟩ := cloneA X hx hZ hown w1 w2 w3 w4 w5 w6 eT A E FC hg hsize hst hd hf hW hl (by rw [S]; exact hcap) hc hsl
  exact ⟨T', h', X', e', ex, ⟨cloneOf cl, A', S, r, G⟩, E', st⟩
theorem oCopy (X : Stand p l e R s m args below meth c T locs cells slots) (hx : p.tables.exec = Jvm.exec) (hZ : Z.Warmed39 s.vm) {own : String} {index : Nat} (hown : s.vm.findClass own = some m.cls)
    (w1 : (Jvm.Cond.methodLink own index arraycopyName).before a0 Z = true) (w2 : (Jvm.Cond.native arraycopyName).before a0 Z = true) (w3 : (Jvm.Cond.static arraycopyName).before a0 Z = true) (w4 : (Jvm.Cond.initialized "java/lang/System").before a0 Z = true)
    (eT : T.heap = h) {za zb : Int32} {fb : Nat → Value} (Fa : OArr Z h a ty za f) (Fb : OArr Z h b ty zb fb) (hty : refKind ty = false) (hfit : ∀ i, i < za.toNatClampNeg → fits ty (f i) = true)
    {sp dp n : Int32} (h1 : 0 ≤ sp.toInt) (h2 : 0 ≤ dp.toInt) (h3 : 0 ≤ n.toInt) (h4 : sp.toInt + n.toInt ≤ za.toInt) (h5 : dp.toInt + n.toInt ≤ zb.toInt)
    {g : JFrame} (hg : g.method = m) (hsize : g.locals.size = c.maxLocals) {rest : List Value} (hst : g.stack = .int n :: .int dp :: .ref b :: .int sp :: .ref a :: rest) (hd : decode c.code g.pc = .ok (.invokestatic index, 3))
    (hf : 1 ≤ R.frames) (hl : 2 * g.monitorRoom + (rest.map fun v => v.category).sum + (nativeFrameWords "java/lang/System" "arraycopy" 5 + 11) ≤ R.locals) :
    ∃ T' h' L, Stand p l e R s m args below meth c T' (locs ++ L) cells slots ∧ T'.heap = h' ∧ Keep h h' [b] ∧ OArr Z h' b ty zb (fun i => if dp.toNatClampNeg ≤ i ∧ i < dp.toNatClampNeg + n.toNatClampNeg then f (sp.toNatClampNeg + (i - dp.toNatClampNeg)) else fb i) ∧ (∀ y ∈ L, y.base = b) ∧
      ∀ target, Steps p.tables e below (T'.setTop { g with pc := g.pc + 3, stack := rest }) target → Steps p.tables e below (T.setTop g) target := by
  obtain ⟨ca, Aa, Sa, ra, Ga⟩ := Fa
  obtain ⟨cb, Ab, Sb, rb, Gb⟩ := Fb
  subst eT
  obtain ⟨hsa, ka, hka, compa, hkinda⟩ := State.isArrayOf_alike hZ.alike Aa.2.1
  obtain ⟨hsb, kb, hkb, compb, hkindb⟩ := State.isArrayOf_alike hZ.alike Ab.2.1
  have e0 : (0 : Int32).toInt = 0 := by decide
  have ea : (ca.slots.size : Int) = za.toInt := by
    have := oNlt ra
    rw [Sa]; show (za.toInt.toNat : Int) = _; omega
  have eb : (cb.slots.size : Int) = zb.toInt := by
    have := oNlt rb
    rw [Sb]; show (zb.toInt.toNat : Int) = _; omega
  have es : (sp.toNatClampNeg : Int) = sp.toInt := by show (sp.toInt.toNat : Int) = _; omega
  have ed : (dp.toNatClampNeg : Int) = dp.toInt := by show (dp.toInt.toNat : Int) = _; omega
  have en : (n.toNatClampNeg : Int) = n.toInt := by show (n.toInt.toNat : Int) = _; omega
  have hv : ∀ i, i < n.toNatClampNeg → ca.slots.getD (sp.toNatClampNeg + i) .null = f (sp.toNatClampNeg + i) := fun i hi => by
    rw [Array.getD_eq_getD_getElem?, Ga _ (by omega)]; rfl
  obtain ⟨vm', X', st⟩ := X.arraycopy hx hown (mvT hZ w1) (mvT hZ w2) (mvT hZ w3) (mvT hZ w4) (src := a) (dst := b) (srcPos := sp) (destPos := dp) (n := n) Aa.1 Ab.1 hsa hsb Aa.2.2 Ab.2.2 hka hkb hkinda hkindb (by simp [hty]) (mNlt (by omega)) (mNlt (by omega)) (mNlt (by omega)) (by omega) (by omega)
    (fun vm₁ _ i hi => by
      have q := hfit (sp.toNatClampNeg + i) (by rw [← Sa]; omega)
      rw [hv i hi]
      refine ⟨q, ?_⟩
      cases hq : f (sp.toNatClampNeg + i) with
      | ref y => rw [hq] at q; cases ty <;> first | (cases hty; done) | (cases q; done)
      | _ => trivial) hg hsize hst hd hf hl
  obtain ⟨f1, f2, f3, -, -⟩ := Cell.storeRun_facts cb dp.toNatClampNeg (ca.stretch sp.toNatClampNeg n.toNatClampNeg)
  have hlen : (ca.stretch sp.toNatClampNeg n.toNatClampNeg).length = n.toNatClampNeg := Cell.stretch_length ..
  have hself : ((T.setVm vm').setCell b (copied ca cb sp dp n)).heap[b]? = some (copied ca cb sp dp n) := State.heap_setCell_self (show (T.setVm vm').heap[b]? = some cb from Ab.1)
  refine ⟨_, _, _, X', rfl, ⟨?_, ?_, ?_⟩, ⟨copied ca cb sp dp n, ⟨hself, ?_, ?_⟩, ?_, rb, ?_⟩, ?_, st⟩
  · exact Nat.le_of_eq (by simp [State.setCell, State.setVm])
  · intro x cx hx' hn
    rw [State.heap_setCell_other (fun q => hn (by rw [q]; exact List.mem_singleton.mpr rfl))]; exact hx'
  · intro x cx hx'
    by_cases q : b = x
    · subst q; rw [Ab.1] at hx'; cases hx'; exact ⟨_, hself, f1, f2, f3⟩
    · exact ⟨cx, by rw [State.heap_setCell_other q]; exact hx', rfl, rfl, rfl⟩
  · obtain ⟨u1, k1, u2, comp, u3⟩ := Ab.2.1
    exact ⟨fun k => by show (cb.storeRun _ _).vm ≠ _; rw [f2]; exact u1 k, k1, by show Z.vm.classes[(cb.storeRun _ _).cls]? = _; rw [f1]; exact u2, comp, u3⟩
  · show (cb.storeRun _ _).vm ≠ _
    rw [f2]; exact Ab.2.2
  · show (cb.storeRun _ _).slots.size = _
    rw [f3]; exact Sb
  · intro i hi
    have hi' : i < cb.slots.size := by
      have hi : i < (cb.storeRun dp.toNatClampNeg (ca.stretch sp.toNatClampNeg n.toNatClampNeg)).slots.size := hi
      rw [f3] at hi; exact hi
    show (cb.storeRun dp.toNatClampNeg (ca.stretch sp.toNatClampNeg n.toNatClampNeg)).slots[i]? = _
    rw [Cell.storeRun_get _ _ _ _ (by rw [hlen]; omega), hlen]
    dsimp only
    by_cases q : dp.toNatClampNeg ≤ i ∧ i < dp.toNatClampNeg + n.toNatClampNeg
    · rw [if_pos q, if_pos q, ← hv _ (by omega)]
      simp [Cell.stretch, show i - dp.toNatClampNeg < n.toNatClampNeg by omega]
    · rw [if_neg q, if_neg q]; exact Gb i hi'
  · intro y hy
    obtain ⟨q, _, rfl⟩ := List.mem_map.mp hy; rfl
end OArrs
/-- from a case's equation to the value -/
theorem oEqv {f s : State} {o : Option Outcome} {idx : List Nat} {a b : Term} (h : (Jvm.Cond.eq a b).value args f o s idx = some true) : ∃ x, a.eval args f o idx s = some x ∧ b.eval args f o idx s = some x := by
  obtain ⟨x, y, h1, h2, -, -⟩ := cmp_v (Or.inl h)
  cases x <;> cases y <;> simp [Cond.value, h1, h2] at h <;> first | (subst h; exact ⟨_, h1, h2⟩) | exact ⟨_, h1, h2⟩
theorem oFeq {s : State} {t u : Term} {x : Addr} {C n d : String} {w : Value} (ht : t.eval args s none [] s = some (.ref x)) (h : (Jvm.Cond.eq (.field t C n d) u).value args s none s [] = some true) (hu : u.eval args s none [] s = some w) : s.fieldOf? x C n d = some w := by
  obtain ⟨v, h1, h2⟩ := oEqv h
  rw [fld_at ht] at h1
  rw [h1, ← h2, hu]
theorem oNot {d : Jvm.Cond} {f s : State} {o : Option Outcome} {idx : List Nat} (h : (Jvm.Cond.not d).value args f o s idx = some true) (h2 : d.value args f o s idx = some true) : False := by
  rw [Cond.value, h2] at h
  cases h
end OwnKit
def own_min (a b : Int32) : Int32 := if b < a then b else a
theorem own_min_l {a b : Int32} (h : b < a) : own_min a b = b := if_pos h
theorem own_min_r {a b : Int32} (h : ¬ b < a) : own_min a b = a := if_neg h
def own_q (f p : Int) : Int := if p ≤ f - p then 2 * p - 1 else f - 1
theorem own_q_l {f p : Int} (h : p ≤ f - p) : own_q f p = 2 * p - 1 := if_pos h
theorem own_q_r {f p : Int} (h : f - p < p) : own_q f p = f - 1 := if_neg (by omega)
theorem own_d_jdk_29_method_69_code_0 : decode jdk_29_method_69_code 0 = .ok (.iload_n 0, 1) := by decide +kernel
theorem own_d_jdk_29_method_69_code_1 : decode jdk_29_method_69_code 1 = .ok (.iload_n 1, 1) := by decide +kernel
theorem own_d_jdk_29_method_69_code_2 : decode jdk_29_method_69_code 2 = .ok (.if_icmp .gt 7, 3) := by decide +kernel
theorem own_d_jdk_29_method_69_code_9 : decode jdk_29_method_69_code 9 = .ok (.iload_n 1, 1) := by decide +kernel
theorem own_d_jdk_29_method_69_code_10 : decode jdk_29_method_69_code 10 = .ok (.ireturn, 1) := by decide +kernel
theorem own_d_jdk_29_method_69_code_5 : decode jdk_29_method_69_code 5 = .ok (.iload_n 0, 1) := by decide +kernel
theorem own_d_jdk_29_method_69_code_6 : decode jdk_29_method_69_code 6 = .ok (.goto 4, 3) := by decide +kernel
theorem own_pf_java_lang_Math_min__II_I : plainFor (⟨"java/lang/Math", "min", "(II)I"⟩ : MethodName) = true := by decide +kernel
theorem own_ef_rmM (x0 : Int32) (x1 : Int32) (m : MethodId) : entryFrame m #[(.int x0), (.int x1)] 2 = mkF m 0 #[.val (.int x0), .val (.int x1)] [] := by first | (simp [entryFrame, mkF, argsToLocals, Value.category]; done) | rfl
set_option maxRecDepth 65536 in
set_option maxHeartbeats 40000000 in
theorem rmM (l : Launch) (Z : State) (a0 : Array Value) (hw : ∀ d ∈ tables_1, d.before a0 Z = true) (p1 p2 : Int32) (h0 : Heap) (n0 : Nat) (Z0 : n0 ≤ h0.size)  :
    OCon l Z (⟨"java/lang/Math", "min", "(II)I"⟩ : MethodName) jdk_29_method_69_code 2 (some .int) ({ frames := 0, cells := 0, slots := 0, locals := 0 } : Room) #[(.int p1), (.int p2)] h0 (fun v h L => v = some (.int (own_min p1 p2)) ∧ Fr n0 L ∧ h = h0) := by
  refine OConK.intro (y := (⟨"java/lang/Math", "min", "(II)I"⟩ : MethodName)) own_pf_java_lang_Math_min__II_I (own_ef_rmM p1 p2) ?_
  intro p e s m below meth c s₁ hx hby hml hown hnm hret hlk hZ X0 e0
  show OGoal p e below s _ _ _ (s₁.setTop (mkF m 0 #[.val (.int p1), .val (.int p2)] []))
  refine OGoal.mp (S' := (s₁.setTop (mkF m 1 #[.val (.int p1), .val (.int p2)] [(.int p1)]))) (fun _ k => XS.iloadN X0.here hx rfl (hb hby own_d_jdk_29_method_69_code_0) rfl k) ?_
  refine OGoal.mp (S' := (s₁.setTop (mkF m 2 #[.val (.int p1), .val (.int p2)] [(.int p2), (.int p1)]))) (fun _ k => XS.iloadN X0.here hx rfl (hb hby own_d_jdk_29_method_69_code_1) rfl k) ?_
  by_cases hc1 : p2 < p1
  · refine OGoal.mp (S' := (s₁.setTop (mkF m 9 #[.val (.int p1), .val (.int p2)] []))) (fun _ k => XS.icmpYes X0.here hx rfl (pc0 := 2) (pc' := 9) rfl (hb hby own_d_jdk_29_method_69_code_2) rfl (XT.ii_gt_t hc1) (by decide) (by decide) k) ?_
    refine OGoal.mp (S' := (s₁.setTop (mkF m 10 #[.val (.int p1), .val (.int p2)] [(.int p2)]))) (fun _ k => XS.iloadN X0.here hx rfl (hb hby own_d_jdk_29_method_69_code_9) rfl k) ?_
    refine oRetI X0 hx hlk hret (hb hby own_d_jdk_29_method_69_code_10) ?_ (by decide) (by decide)
    exact ⟨by unfold own_min; rw [if_pos hc1], (Fr.nil n0), e0⟩
  · refine OGoal.mp (S' := (s₁.setTop (mkF m 5 #[.val (.int p1), .val (.int p2)] []))) (fun _ k => XS.icmpNo X0.here hx rfl (hb hby own_d_jdk_29_method_69_code_2) rfl (XT.ii_gt_f hc1) k) ?_
    refine OGoal.mp (S' := (s₁.setTop (mkF m 6 #[.val (.int p1), .val (.int p2)] [(.int p1)]))) (fun _ k => XS.iloadN X0.here hx rfl (hb hby own_d_jdk_29_method_69_code_5) rfl k) ?_
    refine OGoal.mp (S' := (s₁.setTop (mkF m 10 #[.val (.int p1), .val (.int p2)] [(.int p1)]))) (fun _ k => XS.goto X0.here hx rfl (pc0 := 6) (pc' := 10) rfl (hb hby own_d_jdk_29_method_69_code_6) (by decide) (by decide) k) ?_
    refine oRetI X0 hx hlk hret (hb hby own_d_jdk_29_method_69_code_10) ?_ (by decide) (by decide)
    exact ⟨by unfold own_min; rw [if_neg hc1], (Fr.nil n0), e0⟩
theorem own_d_prog_10_method_2_code_0 : decode prog_10_method_2_code 0 = .ok (.aload_n 0, 1) := by decide +kernel
theorem own_d_prog_10_method_2_code_1 : decode prog_10_method_2_code 1 = .ok (.getfield 13, 3) := by decide +kernel
theorem own_d_prog_10_method_2_code_4 : decode prog_10_method_2_code 4 = .ok (.aload_n 0, 1) := by decide +kernel
theorem own_d_prog_10_method_2_code_5 : decode prog_10_method_2_code 5 = .ok (.getfield 7, 3) := by decide +kernel
theorem own_d_prog_10_method_2_code_8 : decode prog_10_method_2_code 8 = .ok (.if_icmp .ge 7, 3) := by decide +kernel
theorem own_d_prog_10_method_2_code_11 : decode prog_10_method_2_code 11 = .ok (.iconst 1, 1) := by decide +kernel
theorem own_d_prog_10_method_2_code_12 : decode prog_10_method_2_code 12 = .ok (.goto 4, 3) := by decide +kernel
theorem own_d_prog_10_method_2_code_16 : decode prog_10_method_2_code 16 = .ok (.ireturn, 1) := by decide +kernel
theorem own_d_prog_10_method_2_code_15 : decode prog_10_method_2_code 15 = .ok (.iconst 0, 1) := by decide +kernel
theorem own_pn_com_example_stepwise_medians_stepwisemedians_engine_LeadingRun : plainName "com/example/stepwise_medians/stepwisemedians/engine/LeadingRun" = true := by first | (simp [plainName, overriddenIn]; done) | decide +kernel
theorem own_ef_rmO (x0 : Addr) (m : MethodId) : entryFrame m #[(.ref x0)] 1 = mkF m 0 #[.val (.ref x0)] [] := by first | (simp [entryFrame, mkF, argsToLocals, Value.category]; done) | rfl
set_option maxRecDepth 65536 in
set_option maxHeartbeats 40000000 in
theorem rmO (l : Launch) (Z : State) (a0 : Array Value) (hw : ∀ d ∈ tables_1, d.before a0 Z = true) (a : Addr) (pw f : Int32) (h0 : Heap) (n0 : Nat) (Z0 : n0 ≤ h0.size) (Fp : Fld Z h0 a "com/example/stepwise_medians/stepwisemedians/engine/LeadingRun" "passed" "I" (.int pw)) (Ff : Fld Z h0 a "com/example/stepwise_medians/stepwisemedians/engine/LeadingRun" "failing" "I" (.int f)) :
    OCon l Z (⟨"com/example/stepwise_medians/stepwisemedians/engine/LeadingRun", "isOpen", "()Z"⟩ : MethodName) prog_10_method_2_code 1 (some .boolean) ({ frames := 0, cells := 0, slots := 0, locals := 0 } : Room) #[(.ref a)] h0 (fun v h L => v = some (.int (if pw < f then (1 : Int32) else 0)) ∧ Fr n0 L ∧ h = h0) := by
  refine OConK.intro (y := (⟨"com/example/stepwise_medians/stepwisemedians/engine/LeadingRun", "isOpen", "()Z"⟩ : MethodName)) (plainFor_of_name own_pn_com_example_stepwise_medians_stepwisemedians_engine_LeadingRun) (own_ef_rmO a) ?_
  intro p e s m below meth c s₁ hx hby hml hown hnm hret hlk hZ X0 e0
  show OGoal p e below s _ _ _ (s₁.setTop (mkF m 0 #[.val (.ref a)] []))
  refine OGoal.mp (S' := (s₁.setTop (mkF m 1 #[.val (.ref a)] [(.ref a)]))) (fun _ k => XS.aloadN X0.here hx rfl (hb hby own_d_prog_10_method_2_code_0) rfl rfl k) ?_
  obtain ⟨T1, X2, e3, st4⟩ := getF X0 hx hZ hown (host := "") (Or.inl (hw _ (List.mem_of_getElem? (i := 16) rfl))) Via.refl e0 Fp (g := mkF m 1 #[.val (.ref a)] [(.ref a)]) rfl rfl (hb hby own_d_prog_10_method_2_code_1)
  refine OGoal.mp (S' := (T1.setTop (mkF m 4 #[.val (.ref a)] [(.int pw)]))) (fun _ k => st4 _ k) ?_
  refine OGoal.mp (S' := (T1.setTop (mkF m 5 #[.val (.ref a)] [(.ref a), (.int pw)]))) (fun _ k => XS.aloadN X2.here hx rfl (hb hby own_d_prog_10_method_2_code_4) rfl rfl k) ?_
  obtain ⟨T5, X6, e7, st8⟩ := getF X2 hx hZ hown (host := "") (Or.inl (hw _ (List.mem_of_getElem? (i := 9) rfl))) Via.refl e3 Ff (g := mkF m 5 #[.val (.ref a)] [(.ref a), (.int pw)]) rfl rfl (hb hby own_d_prog_10_method_2_code_5)
  refine OGoal.mp (S' := (T5.setTop (mkF m 8 #[.val (.ref a)] [(.int f), (.int pw)]))) (fun _ k => st8 _ k) ?_
  by_cases hc9 : pw < f
  · refine OGoal.mp (S' := (T5.setTop (mkF m 11 #[.val (.ref a)] []))) (fun _ k => XS.icmpNo X6.here hx rfl (hb hby own_d_prog_10_method_2_code_8) rfl (XT.ii_ge_f hc9) k) ?_
    refine OGoal.mp (S' := (T5.setTop (mkF m 12 #[.val (.ref a)] [(.int (1 : Int32))]))) (fun _ k => XS.iconst X6.here hx rfl (hb hby own_d_prog_10_method_2_code_11) k) ?_
    refine OGoal.mp (S' := (T5.setTop (mkF m 16 #[.val (.ref a)] [(.int (1 : Int32))]))) (fun _ k => XS.goto X6.here hx rfl (pc0 := 12) (pc' := 16) rfl (hb hby own_d_prog_10_method_2_code_12) (by decide) (by decide) k) ?_
    refine oRetZ X6 hx hlk hret (Or.inr rfl) (hb hby own_d_prog_10_method_2_code_16) ?_ (by decide) (by decide)
    exact ⟨by rw [if_pos hc9], (Fr.nil n0), e7⟩
  · refine OGoal.mp (S' := (T5.setTop (mkF m 15 #[.val (.ref a)] []))) (fun _ k => XS.icmpYes X6.here hx rfl (pc0 := 8) (pc' := 15) rfl (hb hby own_d_prog_10_method_2_code_8) rfl (XT.ii_ge_t hc9) (by decide) (by decide) k) ?_
    refine OGoal.mp (S' := (T5.setTop (mkF m 16 #[.val (.ref a)] [(.int (0 : Int32))]))) (fun _ k => XS.iconst X6.here hx rfl (hb hby own_d_prog_10_method_2_code_15) k) ?_
    refine oRetZ X6 hx hlk hret (Or.inl rfl) (hb hby own_d_prog_10_method_2_code_16) ?_ (by decide) (by decide)
    exact ⟨by rw [if_neg hc9], (Fr.nil n0), e7⟩
theorem own_d_prog_10_method_5_code_0 : decode prog_10_method_5_code 0 = .ok (.aload_n 0, 1) := by decide +kernel
theorem own_d_prog_10_method_5_code_1 : decode prog_10_method_5_code 1 = .ok (.getfield 13, 3) := by decide +kernel
theorem own_d_prog_10_method_5_code_4 : decode prog_10_method_5_code 4 = .ok (.ireturn, 1) := by decide +kernel
theorem own_ef_rmL (x0 : Addr) (m : MethodId) : entryFrame m #[(.ref x0)] 1 = mkF m 0 #[.val (.ref x0)] [] := by first | (simp [entryFrame, mkF, argsToLocals, Value.category]; done) | rfl
set_option maxRecDepth 65536 in
set_option maxHeartbeats 40000000 in
theorem rmL (l : Launch) (Z : State) (a0 : Array Value) (hw : ∀ d ∈ tables_1, d.before a0 Z = true) (a : Addr) (pw : Int32) (h0 : Heap) (n0 : Nat) (Z0 : n0 ≤ h0.size) (Fp : Fld Z h0 a "com/example/stepwise_medians/stepwisemedians/engine/LeadingRun" "passed" "I" (.int pw)) :
    OCon l Z (⟨"com/example/stepwise_medians/stepwisemedians/engine/LeadingRun", "length", "()I"⟩ : MethodName) prog_10_method_5_code 1 (some .int) ({ frames := 0, cells := 0, slots := 0, locals := 0 } : Room) #[(.ref a)] h0 (fun v h L => v = some (.int pw) ∧ Fr n0 L ∧ h = h0) := by
  refine OConK.intro (y := (⟨"com/example/stepwise_medians/stepwisemedians/engine/LeadingRun", "length", "()I"⟩ : MethodName)) (plainFor_of_name own_pn_com_example_stepwise_medians_stepwisemedians_engine_LeadingRun) (own_ef_rmL a) ?_
  intro p e s m below meth c s₁ hx hby hml hown hnm hret hlk hZ X0 e0
  show OGoal p e below s _ _ _ (s₁.setTop (mkF m 0 #[.val (.ref a)] []))
  refine OGoal.mp (S' := (s₁.setTop (mkF m 1 #[.val (.ref a)] [(.ref a)]))) (fun _ k => XS.aloadN X0.here hx rfl (hb hby own_d_prog_10_method_5_code_0) rfl rfl k) ?_
  obtain ⟨T1, X2, e3, st4⟩ := getF X0 hx hZ hown (host := "") (Or.inl (hw _ (List.mem_of_getElem? (i := 16) rfl))) Via.refl e0 Fp (g := mkF m 1 #[.val (.ref a)] [(.ref a)]) rfl rfl (hb hby own_d_prog_10_method_5_code_1)
  refine OGoal.mp (S' := (T1.setTop (mkF m 4 #[.val (.ref a)] [(.int pw)]))) (fun _ k => st4 _ k) ?_
  refine oRetI X2 hx hlk hret (hb hby own_d_prog_10_method_5_code_4) ?_ (by decide) (by decide)
  exact ⟨rfl, (Fr.nil n0), e3⟩
def Q_obj (Z : State) (a : Addr) (f p q b : Int32) (n0 : Nat) (v : Option Value) (h : Heap) (L : List Loc) : Prop := v = none ∧ Fr n0 L ∧ Exa Z h a "com/example/stepwise_medians/stepwisemedians/engine/LeadingRun" ∧ Fld Z h a "com/example/stepwise_medians/stepwisemedians/engine/LeadingRun" "failing" "I" (.int f) ∧ Fld Z h a "com/example/stepwise_medians/stepwisemedians/engine/LeadingRun" "passed" "I" (.int p) ∧ Fld Z h a "com/example/stepwise_medians/stepwisemedians/engine/LeadingRun" "probe" "I" (.int q) ∧ Fld Z h a "com/example/stepwise_medians/stepwisemedians/engine/LeadingRun" "bisecting" "Z" (.int b)
theorem own_d_prog_10_method_1_code_0 : decode prog_10_method_1_code 0 = .ok (.aload_n 0, 1) := by decide +kernel
theorem own_d_prog_10_method_1_code_1 : decode prog_10_method_1_code 1 = .ok (.invokespecial 1, 3) := by decide +kernel
theorem own_d_prog_10_method_1_code_4 : decode prog_10_method_1_code 4 = .ok (.aload_n 0, 1) := by decide +kernel
theorem own_d_prog_10_method_1_code_5 : decode prog_10_method_1_code 5 = .ok (.iload_n 1, 1) := by decide +kernel
theorem own_d_prog_10_method_1_code_6 : decode prog_10_method_1_code 6 = .ok (.putfield 7, 3) := by decide +kernel
theorem own_d_prog_10_method_1_code_9 : decode prog_10_method_1_code 9 = .ok (.return_, 1) := by decide +kernel
theorem own_ef_rmI (x0 : Addr) (x1 : Int32) (m : MethodId) : entryFrame m #[(.ref x0), (.int x1)] 2 = mkF m 0 #[.val (.ref x0), .val (.int x1)] [] := by first | (simp [entryFrame, mkF, argsToLocals, Value.category]; done) | rfl
set_option maxRecDepth 65536 in
set_option maxHeartbeats 40000000 in
theorem rmI (l : Launch) (Z : State) (a0 : Array Value) (hw : ∀ d ∈ tables_1, d.before a0 Z = true) (a : Addr) (p1 : Int32) (h0 : Heap) (n0 : Nat) (Z0 : n0 ≤ h0.size) (E : Exa Z h0 a "com/example/stepwise_medians/stepwisemedians/engine/LeadingRun") (Ff : Fld Z h0 a "com/example/stepwise_medians/stepwisemedians/engine/LeadingRun" "failing" "I" (.int (0 : Int32))) (Fp : Fld Z h0 a "com/example/stepwise_medians/stepwisemedians/engine/LeadingRun" "passed" "I" (.int (0 : Int32))) (Fq : Fld Z h0 a "com/example/stepwise_medians/stepwisemedians/engine/LeadingRun" "probe" "I" (.int (0 : Int32))) (Fb : Fld Z h0 a "com/example/stepwise_medians/stepwisemedians/engine/LeadingRun" "bisecting" "Z" (.int (0 : Int32))) (ab : n0 ≤ a) :
    OCon l Z (⟨"com/example/stepwise_medians/stepwisemedians/engine/LeadingRun", "<init>", "(I)V"⟩ : MethodName) prog_10_method_1_code 2 none ({ frames := 1, cells := 0, slots := 0, locals := 12 } : Room) #[(.ref a), (.int p1)] h0 (Q_obj Z a p1 0 0 0 n0) := by
  refine OConK.intro (y := (⟨"com/example/stepwise_medians/stepwisemedians/engine/LeadingRun", "<init>", "(I)V"⟩ : MethodName)) (plainFor_of_name own_pn_com_example_stepwise_medians_stepwisemedians_engine_LeadingRun) (own_ef_rmI a p1) ?_
  intro p e s m below meth c s₁ hx hby hml hown hnm hret hlk hZ X0 e0
  show OGoal p e below s _ _ _ (s₁.setTop (mkF m 0 #[.val (.ref a), .val (.int p1)] []))
  refine OGoal.mp (S' := (s₁.setTop (mkF m 1 #[.val (.ref a), .val (.int p1)] [(.ref a)]))) (fun _ k => XS.aloadN X0.here hx rfl (hb hby own_d_prog_10_method_1_code_0) rfl rfl k) ?_
  obtain ⟨T1, X2, e3, st4⟩ := initO X0 hx hZ hown (hw _ (List.mem_of_getElem? (i := 6) rfl)) (hw _ (List.mem_of_getElem? (i := 7) rfl)) (hw _ (List.mem_of_getElem? (i := 8) rfl)) e0 (g := mkF m 1 #[.val (.ref a), .val (.int p1)] [(.ref a)]) rfl (by rw [hml]; rfl) rfl (hb hby own_d_prog_10_method_1_code_1) (by decide) (W := 0) (by show 2 * 0 + _ ≤ _; exact Nat.le_of_eq rfl) (by decide)
  refine OGoal.mp (S' := (T1.setTop (mkF m 4 #[.val (.ref a), .val (.int p1)] []))) (fun _ k => st4 _ k) ?_
  refine OGoal.mp (S' := (T1.setTop (mkF m 5 #[.val (.ref a), .val (.int p1)] [(.ref a)]))) (fun _ k => XS.aloadN X2.here hx rfl (hb hby own_d_prog_10_method_1_code_4) rfl rfl k) ?_
  refine OGoal.mp (S' := (T1.setTop (mkF m 6 #[.val (.ref a), .val (.int p1)] [(.int p1), (.ref a)]))) (fun _ k => XS.iloadN X2.here hx rfl (hb hby own_d_prog_10_method_1_code_5) rfl k) ?_
  obtain ⟨T5, h9, X6, e7, W10, st8⟩ := putF X2 hx hZ hown (host := "") (Or.inl (hw _ (List.mem_of_getElem? (i := 9) rfl))) Via.refl e3 Ff E (Or.inl (hw _ (List.mem_of_getElem? (i := 10) rfl))) (hw _ (List.mem_of_getElem? (i := 1) rfl)) (ty := .int) (by decide) rfl rfl (g := mkF m 6 #[.val (.ref a), .val (.int p1)] [(.int p1), (.ref a)]) rfl rfl (hb hby own_d_prog_10_method_1_code_6)
  have N11 := Fr.snoc X6 (Fr.nil n0) ab
  have Z12 : n0 ≤ h9.size := Nat.le_trans Z0 (Keep.of_wr W10).1
  have F13 := E.wr W10
  have F14 := Ff.same W10
  have F15 := Fp.other W10 (Or.inr (slot_ne (a0 := a0) (C := "com/example/stepwise_medians/stepwisemedians/engine/LeadingRun") (t := .int) (t' := .int) (Or.inl (hw _ (List.mem_of_getElem? (i := 17) rfl))) (Or.inl (hw _ (List.mem_of_getElem? (i := 10) rfl))) (by decide) (by decide) (by decide)))
  have F16 := Fq.other W10 (Or.inr (slot_ne (a0 := a0) (C := "com/example/stepwise_medians/stepwisemedians/engine/LeadingRun") (t := .int) (t' := .int) (Or.inl (hw _ (List.mem_of_getElem? (i := 29) rfl))) (Or.inl (hw _ (List.mem_of_getElem? (i := 10) rfl))) (by decide) (by decide) (by decide)))
  have F17 := Fb.other W10 (Or.inr (slot_ne (a0 := a0) (C := "com/example/stepwise_medians/stepwisemedians/engine/LeadingRun") (t := .boolean) (t' := .int) (Or.inl (hw _ (List.mem_of_getElem? (i := 31) rfl))) (Or.inl (hw _ (List.mem_of_getElem? (i := 10) rfl))) (by decide) (by decide) (by decide)))
  refine OGoal.mp (S' := (T5.setTop (mkF m 9 #[.val (.ref a), .val (.int p1)] []))) (fun _ k => st8 _ k) ?_
  refine oRetV X6 hx hlk hret (hb hby own_d_prog_10_method_1_code_9) ?_ (by decide) (by decide)
  show Q_obj Z a p1 0 0 0 n0 _ T5.heap _
  rw [e7]
  exact ⟨rfl, N11, F13, F14, F15, F16, F17⟩
theorem own_d_prog_10_method_4_code_0 : decode prog_10_method_4_code 0 = .ok (.iload_n 1, 1) := by decide +kernel
theorem own_d_prog_10_method_4_code_1 : decode prog_10_method_4_code 1 = .ok (.ifCond .eq 16, 3) := by decide +kernel
theorem own_d_prog_10_method_4_code_4 : decode prog_10_method_4_code 4 = .ok (.aload_n 0, 1) := by decide +kernel
theorem own_d_prog_10_method_4_code_5 : decode prog_10_method_4_code 5 = .ok (.aload_n 0, 1) := by decide +kernel
theorem own_d_prog_10_method_4_code_6 : decode prog_10_method_4_code 6 = .ok (.getfield 16, 3) := by decide +kernel
theorem own_d_prog_10_method_4_code_9 : decode prog_10_method_4_code 9 = .ok (.iconst 1, 1) := by decide +kernel
theorem own_d_prog_10_method_4_code_10 : decode prog_10_method_4_code 10 = .ok (.iadd, 1) := by decide +kernel
theorem own_d_prog_10_method_4_code_11 : decode prog_10_method_4_code 11 = .ok (.putfield 13, 3) := by decide +kernel
theorem own_d_prog_10_method_4_code_14 : decode prog_10_method_4_code 14 = .ok (.goto 16, 3) := by decide +kernel
theorem own_d_prog_10_method_4_code_30 : decode prog_10_method_4_code 30 = .ok (.aload_n 0, 1) := by decide +kernel
theorem own_d_prog_10_method_4_code_31 : decode prog_10_method_4_code 31 = .ok (.aload_n 0, 1) := by decide +kernel
theorem own_d_prog_10_method_4_code_32 : decode prog_10_method_4_code 32 = .ok (.getfield 19, 3) := by decide +kernel
theorem own_d_prog_10_method_4_code_35 : decode prog_10_method_4_code 35 = .ok (.ifCond .eq 17, 3) := by decide +kernel
theorem own_d_prog_10_method_4_code_52 : decode prog_10_method_4_code 52 = .ok (.aload_n 0, 1) := by decide +kernel
theorem own_d_prog_10_method_4_code_53 : decode prog_10_method_4_code 53 = .ok (.getfield 13, 3) := by decide +kernel
theorem own_d_prog_10_method_4_code_56 : decode prog_10_method_4_code 56 = .ok (.aload_n 0, 1) := by decide +kernel
theorem own_d_prog_10_method_4_code_57 : decode prog_10_method_4_code 57 = .ok (.getfield 13, 3) := by decide +kernel
theorem own_d_prog_10_method_4_code_60 : decode prog_10_method_4_code 60 = .ok (.aload_n 0, 1) := by decide +kernel
theorem own_d_prog_10_method_4_code_61 : decode prog_10_method_4_code 61 = .ok (.getfield 7, 3) := by decide +kernel
theorem own_d_prog_10_method_4_code_64 : decode prog_10_method_4_code 64 = .ok (.aload_n 0, 1) := by decide +kernel
theorem own_d_prog_10_method_4_code_65 : decode prog_10_method_4_code 65 = .ok (.getfield 13, 3) := by decide +kernel
theorem own_d_prog_10_method_4_code_68 : decode prog_10_method_4_code 68 = .ok (.isub, 1) := by decide +kernel
theorem own_d_prog_10_method_4_code_69 : decode prog_10_method_4_code 69 = .ok (.invokestatic 23, 3) := by decide +kernel
theorem own_pd__II_I : parseMethodDescriptor "(II)I" = some ⟨[.int, .int], some .int⟩ := by decide +kernel
theorem own_d_prog_10_method_4_code_72 : decode prog_10_method_4_code 72 = .ok (.iadd, 1) := by decide +kernel
theorem own_d_prog_10_method_4_code_73 : decode prog_10_method_4_code 73 = .ok (.iconst 1, 1) := by decide +kernel
theorem own_d_prog_10_method_4_code_74 : decode prog_10_method_4_code 74 = .ok (.isub, 1) := by decide +kernel
theorem own_d_prog_10_method_4_code_75 : decode prog_10_method_4_code 75 = .ok (.putfield 16, 3) := by decide +kernel
theorem own_d_prog_10_method_4_code_78 : decode prog_10_method_4_code 78 = .ok (.return_, 1) := by decide +kernel
theorem own_ef_rmR1 (x0 : Addr) (x1 : Int32) (m : MethodId) : entryFrame m #[(.ref x0), (.int x1)] 2 = mkF m 0 #[.val (.ref x0), .val (.int x1)] [] := by first | (simp [entryFrame, mkF, argsToLocals, Value.category]; done) | rfl
set_option maxRecDepth 65536 in
set_option maxHeartbeats 40000000 in
theorem rmR1 (l : Launch) (Z : State) (a0 : Array Value) (hw : ∀ d ∈ tables_1, d.before a0 Z = true) (a : Addr) (f pw qw : Int32) (h0 : Heap) (n0 : Nat) (Z0 : n0 ≤ h0.size) (E : Exa Z h0 a "com/example/stepwise_medians/stepwisemedians/engine/LeadingRun") (Ff : Fld Z h0 a "com/example/stepwise_medians/stepwisemedians/engine/LeadingRun" "failing" "I" (.int f)) (Fp : Fld Z h0 a "com/example/stepwise_medians/stepwisemedians/engine/LeadingRun" "passed" "I" (.int pw)) (Fq : Fld Z h0 a "com/example/stepwise_medians/stepwisemedians/engine/LeadingRun" "probe" "I" (.int qw)) (Fb : Fld Z h0 a "com/example/stepwise_medians/stepwisemedians/engine/LeadingRun" "bisecting" "Z" (.int (0 : Int32))) (ab : n0 ≤ a) (hq : 0 ≤ qw.toInt) (hq2 : qw.toInt < 100) (hf : qw.toInt < f.toInt) :
    OCon l Z (⟨"com/example/stepwise_medians/stepwisemedians/engine/LeadingRun", "record", "(Z)V"⟩ : MethodName) prog_10_method_4_code 2 none ({ frames := 1, cells := 0, slots := 0, locals := 15 } : Room) #[(.ref a), (.int (1 : Int32))] h0 (fun v h L => ∃ p' q' : Int32, Q_obj Z a f p' q' 0 n0 v h L ∧ p'.toInt = qw.toInt + 1 ∧ q'.toInt = own_q f.toInt p'.toInt) := by
  refine OConK.intro (y := (⟨"com/example/stepwise_medians/stepwisemedians/engine/LeadingRun", "record", "(Z)V"⟩ : MethodName)) (plainFor_of_name own_pn_com_example_stepwise_medians_stepwisemedians_engine_LeadingRun) (own_ef_rmR1 a (1 : Int32)) ?_
  intro p e s m below meth c s₁ hx hby hml hown hnm hret hlk hZ X0 e0
  have l1 : (0 : Int32).toInt = 0 := by decide
  have := rng32 f
  have := rng32 pw
  show OGoal p e below s _ _ _ (s₁.setTop (mkF m 0 #[.val (.ref a), .val (.int (1 : Int32))] []))
  refine OGoal.mp (S' := (s₁.setTop (mkF m 1 #[.val (.ref a), .val (.int (1 : Int32))] [(.int (1 : Int32))]))) (fun _ k => XS.iloadN X0.here hx rfl (hb hby own_d_prog_10_method_4_code_0) rfl k) ?_
  have l2 : (1 : Int32).toInt = 1 := by decide
  have hd3 : ¬ ((1 : Int32) = 0) := mNe (by omega)
  refine OGoal.mp (S' := (s₁.setTop (mkF m 4 #[.val (.ref a), .val (.int (1 : Int32))] []))) (fun _ k => XS.ifNo X0.here hx rfl (hb hby own_d_prog_10_method_4_code_1) rfl (XT.i0_eq_f hd3) k) ?_
  refine OGoal.mp (S' := (s₁.setTop (mkF m 5 #[.val (.ref a), .val (.int (1 : Int32))] [(.ref a)]))) (fun _ k => XS.aloadN X0.here hx rfl (hb hby own_d_prog_10_method_4_code_4) rfl rfl k) ?_
  refine OGoal.mp (S' := (s₁.setTop (mkF m 6 #[.val (.ref a), .val (.int (1 : Int32))] [(.ref a), (.ref a)]))) (fun _ k => XS.aloadN X0.here hx rfl (hb hby own_d_prog_10_method_4_code_5) rfl rfl k) ?_
  obtain ⟨T4, X5, e6, st7⟩ := getF X0 hx hZ hown (host := "") (Or.inl (hw _ (List.mem_of_getElem? (i := 28) rfl))) Via.refl e0 Fq (g := mkF m 6 #[.val (.ref a), .val (.int (1 : Int32))] [(.ref a), (.ref a)]) rfl rfl (hb hby own_d_prog_10_method_4_code_6)
  refine OGoal.mp (S' := (T4.setTop (mkF m 9 #[.val (.ref a), .val (.int (1 : Int32))] [(.int qw), (.ref a)]))) (fun _ k => st7 _ k) ?_
  refine OGoal.mp (S' := (T4.setTop (mkF m 10 #[.val (.ref a), .val (.int (1 : Int32))] [(.int (1 : Int32)), (.int qw), (.ref a)]))) (fun _ k => XS.iconst X5.here hx rfl (hb hby own_d_prog_10_method_4_code_9) k) ?_
  refine OGoal.mp (S' := (T4.setTop (mkF m 11 #[.val (.ref a), .val (.int (1 : Int32))] [(.int (qw + (1 : Int32))), (.ref a)]))) (fun _ k => XS.iadd X5.here hx rfl (hb hby own_d_prog_10_method_4_code_10) rfl k) ?_
  obtain ⟨u8, hu8⟩ : ∃ z : Int32, z = (qw + (1 : Int32)) := ⟨_, rfl⟩
  rw [← hu8]
  have t9 : (u8.toInt - ((qw).toInt + ((1 : Int32)).toInt)) % 4294967296 = 0 := by rw [hu8]; exact c_iadd qw (1 : Int32)
  have r10 := rng32 u8
  obtain ⟨T11, h15, X12, e13, W16, st14⟩ := putF X5 hx hZ hown (host := "") (Or.inl (hw _ (List.mem_of_getElem? (i := 16) rfl))) Via.refl e6 Fp E (Or.inl (hw _ (List.mem_of_getElem? (i := 17) rfl))) (hw _ (List.mem_of_getElem? (i := 1) rfl)) (ty := .int) (by decide) rfl rfl (g := mkF m 11 #[.val (.ref a), .val (.int (1 : Int32))] [(.int u8), (.ref a)]) rfl rfl (hb hby own_d_prog_10_method_4_code_11)
  have N17 := Fr.snoc X12 (Fr.nil n0) ab
  have Z18 : n0 ≤ h15.size := Nat.le_trans Z0 (Keep.of_wr W16).1
  have F19 := E.wr W16
  have F20 := Ff.other W16 (Or.inr (slot_ne (a0 := a0) (C := "com/example/stepwise_medians/stepwisemedians/engine/LeadingRun") (t := .int) (t' := .int) (Or.inl (hw _ (List.mem_of_getElem? (i := 10) rfl))) (Or.inl (hw _ (List.mem_of_getElem? (i := 17) rfl))) (by decide) (by decide) (by decide)))
  have F21 := Fp.same W16
  have F22 := Fq.other W16 (Or.inr (slot_ne (a0 := a0) (C := "com/example/stepwise_medians/stepwisemedians/engine/LeadingRun") (t := .int) (t' := .int) (Or.inl (hw _ (List.mem_of_getElem? (i := 29) rfl))) (Or.inl (hw _ (List.mem_of_getElem? (i := 17) rfl))) (by decide) (by decide) (by decide)))
  have F23 := Fb.other W16 (Or.inr (slot_ne (a0 := a0) (C := "com/example/stepwise_medians/stepwisemedians/engine/LeadingRun") (t := .boolean) (t' := .int) (Or.inl (hw _ (List.mem_of_getElem? (i := 31) rfl))) (Or.inl (hw _ (List.mem_of_getElem? (i := 17) rfl))) (by decide) (by decide) (by decide)))
  refine OGoal.mp (S' := (T11.setTop (mkF m 14 #[.val (.ref a), .val (.int (1 : Int32))] []))) (fun _ k => st14 _ k) ?_
  refine OGoal.mp (S' := (T11.setTop (mkF m 30 #[.val (.ref a), .val (.int (1 : Int32))] []))) (fun _ k => XS.goto X12.here hx rfl (pc0 := 14) (pc' := 30) rfl (hb hby own_d_prog_10_method_4_code_14) (by decide) (by decide) k) ?_
  refine OGoal.mp (S' := (T11.setTop (mkF m 31 #[.val (.ref a), .val (.int (1 : Int32))] [(.ref a)]))) (fun _ k => XS.aloadN X12.here hx rfl (hb hby own_d_prog_10_method_4_code_30) rfl rfl k) ?_
  refine OGoal.mp (S' := (T11.setTop (mkF m 32 #[.val (.ref a), .val (.int (1 : Int32))] [(.ref a), (.ref a)]))) (fun _ k => XS.aloadN X12.here hx rfl (hb hby own_d_prog_10_method_4_code_31) rfl rfl k) ?_
  obtain ⟨T24, X25, e26, st27⟩ := getF X12 hx hZ hown (host := "") (Or.inl (hw _ (List.mem_of_getElem? (i := 30) rfl))) Via.refl e13 F23 (g := mkF m 32 #[.val (.ref a), .val (.int (1 : Int32))] [(.ref a), (.ref a)]) rfl rfl (hb hby own_d_prog_10_method_4_code_32)
  refine OGoal.mp (S' := (T24.setTop (mkF m 35 #[.val (.ref a), .val (.int (1 : Int32))] [(.int (0 : Int32)), (.ref a)]))) (fun _ k => st27 _ k) ?_
  have hd28 : (0 : Int32) = 0 := mEq (by omega)
  refine OGoal.mp (S' := (T24.setTop (mkF m 52 #[.val (.ref a), .val (.int (1 : Int32))] [(.ref a)]))) (fun _ k => XS.ifYes X25.here hx rfl (pc0 := 35) (pc' := 52) rfl (hb hby own_d_prog_10_method_4_code_35) rfl (XT.i0_eq_t hd28) (by decide) (by decide) k) ?_
  refine OGoal.mp (S' := (T24.setTop (mkF m 53 #[.val (.ref a), .val (.int (1 : Int32))] [(.ref a), (.ref a)]))) (fun _ k => XS.aloadN X25.here hx rfl (hb hby own_d_prog_10_method_4_code_52) rfl rfl k) ?_
  obtain ⟨T29, X30, e31, st32⟩ := getF X25 hx hZ hown (host := "") (Or.inl (hw _ (List.mem_of_getElem? (i := 16) rfl))) Via.refl e26 F21 (g := mkF m 53 #[.val (.ref a), .val (.int (1 : Int32))] [(.ref a), (.ref a)]) rfl rfl (hb hby own_d_prog_10_method_4_code_53)
  refine OGoal.mp (S' := (T29.setTop (mkF m 56 #[.val (.ref a), .val (.int (1 : Int32))] [(.int u8), (.ref a)]))) (fun _ k => st32 _ k) ?_
  refine OGoal.mp (S' := (T29.setTop (mkF m 57 #[.val (.ref a), .val (.int (1 : Int32))] [(.ref a), (.int u8), (.ref a)]))) (fun _ k => XS.aloadN X30.here hx rfl (hb hby own_d_prog_10_method_4_code_56) rfl rfl k) ?_
  obtain ⟨T33, X34, e35, st36⟩ := getF X30 hx hZ hown (host := "") (Or.inl (hw _ (List.mem_of_getElem? (i := 16) rfl))) Via.refl e31 F21 (g := mkF m 57 #[.val (.ref a), .val (.int (1 : Int32))] [(.ref a), (.int u8), (.ref a)]) rfl rfl (hb hby own_d_prog_10_method_4_code_57)
  refine OGoal.mp (S' := (T33.setTop (mkF m 60 #[.val (.ref a), .val (.int (1 : Int32))] [(.int u8), (.int u8), (.ref a)]))) (fun _ k => st36 _ k) ?_
  refine OGoal.mp (S' := (T33.setTop (mkF m 61 #[.val (.ref a), .val (.int (1 : Int32))] [(.ref a), (.int u8), (.int u8), (.ref a)]))) (fun _ k => XS.aloadN X34.here hx rfl (hb hby own_d_prog_10_method_4_code_60) rfl rfl k) ?_
  obtain ⟨T37, X38, e39, st40⟩ := getF X34 hx hZ hown (host := "") (Or.inl (hw _ (List.mem_of_getElem? (i := 9) rfl))) Via.refl e35 F20 (g := mkF m 61 #[.val (.ref a), .val (.int (1 : Int32))] [(.ref a), (.int u8), (.int u8), (.ref a)]) rfl rfl (hb hby own_d_prog_10_method_4_code_61)
  refine OGoal.mp (S' := (T37.setTop (mkF m 64 #[.val (.ref a), .val (.int (1 : Int32))] [(.int f), (.int u8), (.int u8), (.ref a)]))) (fun _ k => st40 _ k) ?_
  refine OGoal.mp (S' := (T37.setTop (mkF m 65 #[.val (.ref a), .val (.int (1 : Int32))] [(.ref a), (.int f), (.int u8), (.int u8), (.ref a)]))) (fun _ k => XS.aloadN X38.here hx rfl (hb hby own_d_prog_10_method_4_code_64) rfl rfl k) ?_
  obtain ⟨T41, X42, e43, st44⟩ := getF X38 hx hZ hown (host := "") (Or.inl (hw _ (List.mem_of_getElem? (i := 16) rfl))) Via.refl e39 F21 (g := mkF m 65 #[.val (.ref a), .val (.int (1 : Int32))] [(.ref a), (.int f), (.int u8), (.int u8), (.ref a)]) rfl rfl (hb hby own_d_prog_10_method_4_code_65)
  refine OGoal.mp (S' := (T41.setTop (mkF m 68 #[.val (.ref a), .val (.int (1 : Int32))] [(.int u8), (.int f), (.int u8), (.int u8), (.ref a)]))) (fun _ k => st44 _ k) ?_
  refine OGoal.mp (S' := (T41.setTop (mkF m 69 #[.val (.ref a), .val (.int (1 : Int32))] [(.int (f - u8)), (.int u8), (.int u8), (.ref a)]))) (fun _ k => XS.isub X42.here hx rfl (hb hby own_d_prog_10_method_4_code_68) rfl k) ?_
  obtain ⟨u45, hu45⟩ : ∃ z : Int32, z = (f - u8) := ⟨_, rfl⟩
  rw [← hu45]
  have t46 : (u45.toInt - ((f).toInt - (u8).toInt)) % 4294967296 = 0 := by rw [hu45]; exact c_isub f u8
  have r47 := rng32 u45
  refine oCallS (y := (⟨"java/lang/Math", "min", "(II)I"⟩ : MethodName)) X42 hx hZ hown (hw _ (List.mem_of_getElem? (i := 32) rfl)) (hw _ (List.mem_of_getElem? (i := 33) rfl)) (hw _ (List.mem_of_getElem? (i := 34) rfl)) (hw _ (List.mem_of_getElem? (i := 35) rfl)) (by decide) (rmM l Z a0 hw u8 u45 h15 n0 Z18) e43 [(.int u8), (.int u45)] [(.int u8), (.ref a)] rfl rfl (by rw [hml]; rfl) (lenOf own_pd__II_I rfl) 2 (Nat.le_of_eq rfl) (by decide) (by decide) (by decide) (by decide) (hb hby own_d_prog_10_method_4_code_69) ?_
  intro v48 T49 L50 X51 q52
  obtain ⟨rfl, N53, e54⟩ := q52
  have N55 := Fr.app N17 N53
  show OGoal p e below s _ _ _ (T49.setTop (mkF m 72 #[.val (.ref a), .val (.int (1 : Int32))] [(.int (own_min u8 u45)), (.int u8), (.ref a)]))
  by_cases hc56 : u45 < u8
  · have g57 := oLt hc56
    rw [own_min_l hc56]
    show OGoal p e below s _ _ _ (T49.setTop (mkF m 72 #[.val (.ref a), .val (.int (1 : Int32))] [(.int u45), (.int u8), (.ref a)]))
    refine OGoal.mp (S' := (T49.setTop (mkF m 73 #[.val (.ref a), .val (.int (1 : Int32))] [(.int (u8 + u45)), (.ref a)]))) (fun _ k => XS.iadd X51.here hx rfl (hb hby own_d_prog_10_method_4_code_72) rfl k) ?_
    obtain ⟨u58, hu58⟩ : ∃ z : Int32, z = (u8 + u45) := ⟨_, rfl⟩
    rw [← hu58]
    have t59 : (u58.toInt - ((u8).toInt + (u45).toInt)) % 4294967296 = 0 := by rw [hu58]; exact c_iadd u8 u45
    have r60 := rng32 u58
    refine OGoal.mp (S' := (T49.setTop (mkF m 74 #[.val (.ref a), .val (.int (1 : Int32))] [(.int (1 : Int32)), (.int u58), (.ref a)]))) (fun _ k => XS.iconst X51.here hx rfl (hb hby own_d_prog_10_method_4_code_73) k) ?_
    refine OGoal.mp (S' := (T49.setTop (mkF m 75 #[.val (.ref a), .val (.int (1 : Int32))] [(.int (u58 - (1 : Int32))), (.ref a)]))) (fun _ k => XS.isub X51.here hx rfl (hb hby own_d_prog_10_method_4_code_74) rfl k) ?_
    obtain ⟨u61, hu61⟩ : ∃ z : Int32, z = (u58 - (1 : Int32)) := ⟨_, rfl⟩
    rw [← hu61]
    have t62 : (u61.toInt - ((u58).toInt - ((1 : Int32)).toInt)) % 4294967296 = 0 := by rw [hu61]; exact c_isub u58 (1 : Int32)
    have r63 := rng32 u61
    obtain ⟨T64, h68, X65, e66, W69, st67⟩ := putF X51 hx hZ hown (host := "") (Or.inl (hw _ (List.mem_of_getElem? (i := 28) rfl))) Via.refl e54 F22 F19 (Or.inl (hw _ (List.mem_of_getElem? (i := 29) rfl))) (hw _ (List.mem_of_getElem? (i := 1) rfl)) (ty := .int) (by decide) rfl rfl (g := mkF m 75 #[.val (.ref a), .val (.int (1 : Int32))] [(.int u61), (.ref a)]) rfl rfl (hb hby own_d_prog_10_method_4_code_75)
    have N70 := Fr.snoc X65 N55 ab
    have Z71 : n0 ≤ h68.size := Nat.le_trans Z18 (Keep.of_wr W69).1
    have F72 := F19.wr W69
    have F73 := F20.other W69 (Or.inr (slot_ne (a0 := a0) (C := "com/example/stepwise_medians/stepwisemedians/engine/LeadingRun") (t := .int) (t' := .int) (Or.inl (hw _ (List.mem_of_getElem? (i := 10) rfl))) (Or.inl (hw _ (List.mem_of_getElem? (i := 29) rfl))) (by decide) (by decide) (by decide)))
    have F74 := F21.other W69 (Or.inr (slot_ne (a0 := a0) (C := "com/example/stepwise_medians/stepwisemedians/engine/LeadingRun") (t := .int) (t' := .int) (Or.inl (hw _ (List.mem_of_getElem? (i := 17) rfl))) (Or.inl (hw _ (List.mem_of_getElem? (i := 29) rfl))) (by decide) (by decide) (by decide)))
    have F75 := F22.same W69
    have F76 := F23.other W69 (Or.inr (slot_ne (a0 := a0) (C := "com/example/stepwise_medians/stepwisemedians/engine/LeadingRun") (t := .boolean) (t' := .int) (Or.inl (hw _ (List.mem_of_getElem? (i := 31) rfl))) (Or.inl (hw _ (List.mem_of_getElem? (i := 29) rfl))) (by decide) (by decide) (by decide)))
    refine OGoal.mp (S' := (T64.setTop (mkF m 78 #[.val (.ref a), .val (.int (1 : Int32))] []))) (fun _ k => st67 _ k) ?_
    refine oRetV X65 hx hlk hret (hb hby own_d_prog_10_method_4_code_78) ?_ (by decide) (by decide)
    rw [e66]
    exact ⟨u8, u61, ⟨rfl, N70, F72, F73, F74, F75, F76⟩, by omega, by first | (rw [own_q_l (by omega)]; omega) | (rw [own_q_r (by omega)]; omega)⟩
  · have g77 := oNlt hc56
    rw [own_min_r hc56]
    show OGoal p e below s _ _ _ (T49.setTop (mkF m 72 #[.val (.ref a), .val (.int (1 : Int32))] [(.int u8), (.int u8), (.ref a)]))
    refine OGoal.mp (S' := (T49.setTop (mkF m 73 #[.val (.ref a), .val (.int (1 : Int32))] [(.int (u8 + u8)), (.ref a)]))) (fun _ k => XS.iadd X51.here hx rfl (hb hby own_d_prog_10_method_4_code_72) rfl k) ?_
    obtain ⟨u78, hu78⟩ : ∃ z : Int32, z = (u8 + u8) := ⟨_, rfl⟩
    rw [← hu78]
    have t79 : (u78.toInt - ((u8).toInt + (u8).toInt)) % 4294967296 = 0 := by rw [hu78]; exact c_iadd u8 u8
    have r80 := rng32 u78
    refine OGoal.mp (S' := (T49.setTop (mkF m 74 #[.val (.ref a), .val (.int (1 : Int32))] [(.int (1 : Int32)), (.int u78), (.ref a)]))) (fun _ k => XS.iconst X51.here hx rfl (hb hby own_d_prog_10_method_4_code_73) k) ?_
    refine OGoal.mp (S' := (T49.setTop (mkF m 75 #[.val (.ref a), .val (.int (1 : Int32))] [(.int (u78 - (1 : Int32))), (.ref a)]))) (fun _ k => XS.isub X51.here hx rfl (hb hby own_d_prog_10_method_4_code_74) rfl k) ?_
    obtain ⟨u81, hu81⟩ : ∃ z : Int32, z = (u78 - (1 : Int32)) := ⟨_, rfl⟩
    rw [← hu81]
    have t82 : (u81.toInt - ((u78).toInt - ((1 : Int32)).toInt)) % 4294967296 = 0 := by rw [hu81]; exact c_isub u78 (1 : Int32)
    have r83 := rng32 u81
    obtain ⟨T84, h88, X85, e86, W89, st87⟩ := putF X51 hx hZ hown (host := "") (Or.inl (hw _ (List.mem_of_getElem? (i := 28) rfl))) Via.refl e54 F22 F19 (Or.inl (hw _ (List.mem_of_getElem? (i := 29) rfl))) (hw _ (List.mem_of_getElem? (i := 1) rfl)) (ty := .int) (by decide) rfl rfl (g := mkF m 75 #[.val (.ref a), .val (.int (1 : Int32))] [(.int u81), (.ref a)]) rfl rfl (hb hby own_d_prog_10_method_4_code_75)
    have N90 := Fr.snoc X85 N55 ab
    have Z91 : n0 ≤ h88.size := Nat.le_trans Z18 (Keep.of_wr W89).1
    have F92 := F19.wr W89
    have F93 := F20.other W89 (Or.inr (slot_ne (a0 := a0) (C := "com/example/stepwise_medians/stepwisemedians/engine/LeadingRun") (t := .int) (t' := .int) (Or.inl (hw _ (List.mem_of_getElem? (i := 10) rfl))) (Or.inl (hw _ (List.mem_of_getElem? (i := 29) rfl))) (by decide) (by decide) (by decide)))
    have F94 := F21.other W89 (Or.inr (slot_ne (a0 := a0) (C := "com/example/stepwise_medians/stepwisemedians/engine/LeadingRun") (t := .int) (t' := .int) (Or.inl (hw _ (List.mem_of_getElem? (i := 17) rfl))) (Or.inl (hw _ (List.mem_of_getElem? (i := 29) rfl))) (by decide) (by decide) (by decide)))
    have F95 := F22.same W89
    have F96 := F23.other W89 (Or.inr (slot_ne (a0 := a0) (C := "com/example/stepwise_medians/stepwisemedians/engine/LeadingRun") (t := .boolean) (t' := .int) (Or.inl (hw _ (List.mem_of_getElem? (i := 31) rfl))) (Or.inl (hw _ (List.mem_of_getElem? (i := 29) rfl))) (by decide) (by decide) (by decide)))
    refine OGoal.mp (S' := (T84.setTop (mkF m 78 #[.val (.ref a), .val (.int (1 : Int32))] []))) (fun _ k => st87 _ k) ?_
    refine oRetV X85 hx hlk hret (hb hby own_d_prog_10_method_4_code_78) ?_ (by decide) (by decide)
    rw [e86]
    exact ⟨u8, u81, ⟨rfl, N90, F92, F93, F94, F95, F96⟩, by omega, by first | (rw [own_q_l (by omega)]; omega) | (rw [own_q_r (by omega)]; omega)⟩
theorem own_d_prog_10_method_4_code_17 : decode prog_10_method_4_code 17 = .ok (.aload_n 0, 1) := by decide +kernel
theorem own_d_prog_10_method_4_code_18 : decode prog_10_method_4_code 18 = .ok (.aload_n 0, 1) := by decide +kernel
theorem own_d_prog_10_method_4_code_19 : decode prog_10_method_4_code 19 = .ok (.getfield 16, 3) := by decide +kernel
theorem own_d_prog_10_method_4_code_22 : decode prog_10_method_4_code 22 = .ok (.putfield 7, 3) := by decide +kernel
theorem own_d_prog_10_method_4_code_25 : decode prog_10_method_4_code 25 = .ok (.aload_n 0, 1) := by decide +kernel
theorem own_d_prog_10_method_4_code_26 : decode prog_10_method_4_code 26 = .ok (.iconst 1, 1) := by decide +kernel
theorem own_d_prog_10_method_4_code_27 : decode prog_10_method_4_code 27 = .ok (.putfield 19, 3) := by decide +kernel
theorem own_d_prog_10_method_4_code_38 : decode prog_10_method_4_code 38 = .ok (.aload_n 0, 1) := by decide +kernel
theorem own_d_prog_10_method_4_code_39 : decode prog_10_method_4_code 39 = .ok (.getfield 13, 3) := by decide +kernel
theorem own_d_prog_10_method_4_code_42 : decode prog_10_method_4_code 42 = .ok (.aload_n 0, 1) := by decide +kernel
theorem own_d_prog_10_method_4_code_43 : decode prog_10_method_4_code 43 = .ok (.getfield 7, 3) := by decide +kernel
theorem own_d_prog_10_method_4_code_46 : decode prog_10_method_4_code 46 = .ok (.iadd, 1) := by decide +kernel
theorem own_d_prog_10_method_4_code_47 : decode prog_10_method_4_code 47 = .ok (.iconst 1, 1) := by decide +kernel
theorem own_d_prog_10_method_4_code_48 : decode prog_10_method_4_code 48 = .ok (.iushr, 1) := by decide +kernel
theorem own_d_prog_10_method_4_code_49 : decode prog_10_method_4_code 49 = .ok (.goto 26, 3) := by decide +kernel
theorem own_ef_rmR0 (x0 : Addr) (x1 : Int32) (m : MethodId) : entryFrame m #[(.ref x0), (.int x1)] 2 = mkF m 0 #[.val (.ref x0), .val (.int x1)] [] := by first | (simp [entryFrame, mkF, argsToLocals, Value.category]; done) | rfl
set_option maxRecDepth 65536 in
set_option maxHeartbeats 40000000 in
theorem rmR0 (l : Launch) (Z : State) (a0 : Array Value) (hw : ∀ d ∈ tables_1, d.before a0 Z = true) (a : Addr) (f pw qw : Int32) (h0 : Heap) (n0 : Nat) (Z0 : n0 ≤ h0.size) (E : Exa Z h0 a "com/example/stepwise_medians/stepwisemedians/engine/LeadingRun") (Ff : Fld Z h0 a "com/example/stepwise_medians/stepwisemedians/engine/LeadingRun" "failing" "I" (.int f)) (Fp : Fld Z h0 a "com/example/stepwise_medians/stepwisemedians/engine/LeadingRun" "passed" "I" (.int pw)) (Fq : Fld Z h0 a "com/example/stepwise_medians/stepwisemedians/engine/LeadingRun" "probe" "I" (.int qw)) (Fb : Fld Z h0 a "com/example/stepwise_medians/stepwisemedians/engine/LeadingRun" "bisecting" "Z" (.int (0 : Int32))) (ab : n0 ≤ a) :
    OCon l Z (⟨"com/example/stepwise_medians/stepwisemedians/engine/LeadingRun", "record", "(Z)V"⟩ : MethodName) prog_10_method_4_code 2 none ({ frames := 0, cells := 0, slots := 0, locals := 0 } : Room) #[(.ref a), (.int (0 : Int32))] h0 (fun v h L => ∃ q' : Int32, Q_obj Z a qw pw q' 1 n0 v h L) := by
  refine OConK.intro (y := (⟨"com/example/stepwise_medians/stepwisemedians/engine/LeadingRun", "record", "(Z)V"⟩ : MethodName)) (plainFor_of_name own_pn_com_example_stepwise_medians_stepwisemedians_engine_LeadingRun) (own_ef_rmR0 a (0 : Int32)) ?_
  intro p e s m below meth c s₁ hx hby hml hown hnm hret hlk hZ X0 e0
  have l1 : (0 : Int32).toInt = 0 := by decide
  show OGoal p e below s _ _ _ (s₁.setTop (mkF m 0 #[.val (.ref a), .val (.int (0 : Int32))] []))
  refine OGoal.mp (S' := (s₁.setTop (mkF m 1 #[.val (.ref a), .val (.int (0 : Int32))] [(.int (0 : Int32))]))) (fun _ k => XS.iloadN X0.here hx rfl (hb hby own_d_prog_10_method_4_code_0) rfl k) ?_
  have hd2 : (0 : Int32) = 0 := mEq (by omega)
  refine OGoal.mp (S' := (s₁.setTop (mkF m 17 #[.val (.ref a), .val (.int (0 : Int32))] []))) (fun _ k => XS.ifYes X0.here hx rfl (pc0 := 1) (pc' := 17) rfl (hb hby own_d_prog_10_method_4_code_1) rfl (XT.i0_eq_t hd2) (by decide) (by decide) k) ?_
  refine OGoal.mp (S' := (s₁.setTop (mkF m 18 #[.val (.ref a), .val (.int (0 : Int32))] [(.ref a)]))) (fun _ k => XS.aloadN X0.here hx rfl (hb hby own_d_prog_10_method_4_code_17) rfl rfl k) ?_
  refine OGoal.mp (S' := (s₁.setTop (mkF m 19 #[.val (.ref a), .val (.int (0 : Int32))] [(.ref a), (.ref a)]))) (fun _ k => XS.aloadN X0.here hx rfl (hb hby own_d_prog_10_method_4_code_18) rfl rfl k) ?_
  obtain ⟨T3, X4, e5, st6⟩ := getF X0 hx hZ hown (host := "") (Or.inl (hw _ (List.mem_of_getElem? (i := 28) rfl))) Via.refl e0 Fq (g := mkF m 19 #[.val (.ref a), .val (.int (0 : Int32))] [(.ref a), (.ref a)]) rfl rfl (hb hby own_d_prog_10_method_4_code_19)
  refine OGoal.mp (S' := (T3.setTop (mkF m 22 #[.val (.ref a), .val (.int (0 : Int32))] [(.int qw), (.ref a)]))) (fun _ k => st6 _ k) ?_
  obtain ⟨T7, h11, X8, e9, W12, st10⟩ := putF X4 hx hZ hown (host := "") (Or.inl (hw _ (List.mem_of_getElem? (i := 9) rfl))) Via.refl e5 Ff E (Or.inl (hw _ (List.mem_of_getElem? (i := 10) rfl))) (hw _ (List.mem_of_getElem? (i := 1) rfl)) (ty := .int) (by decide) rfl rfl (g := mkF m 22 #[.val (.ref a), .val (.int (0 : Int32))] [(.int qw), (.ref a)]) rfl rfl (hb hby own_d_prog_10_method_4_code_22)
  have N13 := Fr.snoc X8 (Fr.nil n0) ab
  have Z14 : n0 ≤ h11.size := Nat.le_trans Z0 (Keep.of_wr W12).1
  have F15 := E.wr W12
  have F16 := Ff.same W12
  have F17 := Fp.other W12 (Or.inr (slot_ne (a0 := a0) (C := "com/example/stepwise_medians/stepwisemedians/engine/LeadingRun") (t := .int) (t' := .int) (Or.inl (hw _ (List.mem_of_getElem? (i := 17) rfl))) (Or.inl (hw _ (List.mem_of_getElem? (i := 10) rfl))) (by decide) (by decide) (by decide)))
  have F18 := Fq.other W12 (Or.inr (slot_ne (a0 := a0) (C := "com/example/stepwise_medians/stepwisemedians/engine/LeadingRun") (t := .int) (t' := .int) (Or.inl (hw _ (List.mem_of_getElem? (i := 29) rfl))) (Or.inl (hw _ (List.mem_of_getElem? (i := 10) rfl))) (by decide) (by decide) (by decide)))
  have F19 := Fb.other W12 (Or.inr (slot_ne (a0 := a0) (C := "com/example/stepwise_medians/stepwisemedians/engine/LeadingRun") (t := .boolean) (t' := .int) (Or.inl (hw _ (List.mem_of_getElem? (i := 31) rfl))) (Or.inl (hw _ (List.mem_of_getElem? (i := 10) rfl))) (by decide) (by decide) (by decide)))
  refine OGoal.mp (S' := (T7.setTop (mkF m 25 #[.val (.ref a), .val (.int (0 : Int32))] []))) (fun _ k => st10 _ k) ?_
  refine OGoal.mp (S' := (T7.setTop (mkF m 26 #[.val (.ref a), .val (.int (0 : Int32))] [(.ref a)]))) (fun _ k => XS.aloadN X8.here hx rfl (hb hby own_d_prog_10_method_4_code_25) rfl rfl k) ?_
  refine OGoal.mp (S' := (T7.setTop (mkF m 27 #[.val (.ref a), .val (.int (0 : Int32))] [(.int (1 : Int32)), (.ref a)]))) (fun _ k => XS.iconst X8.here hx rfl (hb hby own_d_prog_10_method_4_code_26) k) ?_
  obtain ⟨T20, h24, X21, e22, W25, st23⟩ := putF X8 hx hZ hown (host := "") (Or.inl (hw _ (List.mem_of_getElem? (i := 30) rfl))) Via.refl e9 F19 F15 (Or.inl (hw _ (List.mem_of_getElem? (i := 31) rfl))) (hw _ (List.mem_of_getElem? (i := 1) rfl)) (ty := .boolean) (by decide) rfl rfl (g := mkF m 27 #[.val (.ref a), .val (.int (0 : Int32))] [(.int (1 : Int32)), (.ref a)]) rfl rfl (hb hby own_d_prog_10_method_4_code_27)
  have N26 := Fr.snoc X21 N13 ab
  have Z27 : n0 ≤ h24.size := Nat.le_trans Z14 (Keep.of_wr W25).1
  have F28 := F15.wr W25
  have F29 := F16.other W25 (Or.inr (slot_ne (a0 := a0) (C := "com/example/stepwise_medians/stepwisemedians/engine/LeadingRun") (t := .int) (t' := .boolean) (Or.inl (hw _ (List.mem_of_getElem? (i := 10) rfl))) (Or.inl (hw _ (List.mem_of_getElem? (i := 31) rfl))) (by decide) (by decide) (by decide)))
  have F30 := F17.other W25 (Or.inr (slot_ne (a0 := a0) (C := "com/example/stepwise_medians/stepwisemedians/engine/LeadingRun") (t := .int) (t' := .boolean) (Or.inl (hw _ (List.mem_of_getElem? (i := 17) rfl))) (Or.inl (hw _ (List.mem_of_getElem? (i := 31) rfl))) (by decide) (by decide) (by decide)))
  have F31 := F18.other W25 (Or.inr (slot_ne (a0 := a0) (C := "com/example/stepwise_medians/stepwisemedians/engine/LeadingRun") (t := .int) (t' := .boolean) (Or.inl (hw _ (List.mem_of_getElem? (i := 29) rfl))) (Or.inl (hw _ (List.mem_of_getElem? (i := 31) rfl))) (by decide) (by decide) (by decide)))
  have F32 := F19.same W25
  refine OGoal.mp (S' := (T20.setTop (mkF m 30 #[.val (.ref a), .val (.int (0 : Int32))] []))) (fun _ k => st23 _ k) ?_
  refine OGoal.mp (S' := (T20.setTop (mkF m 31 #[.val (.ref a), .val (.int (0 : Int32))] [(.ref a)]))) (fun _ k => XS.aloadN X21.here hx rfl (hb hby own_d_prog_10_method_4_code_30) rfl rfl k) ?_
  refine OGoal.mp (S' := (T20.setTop (mkF m 32 #[.val (.ref a), .val (.int (0 : Int32))] [(.ref a), (.ref a)]))) (fun _ k => XS.aloadN X21.here hx rfl (hb hby own_d_prog_10_method_4_code_31) rfl rfl k) ?_
  obtain ⟨T33, X34, e35, st36⟩ := getF X21 hx hZ hown (host := "") (Or.inl (hw _ (List.mem_of_getElem? (i := 30) rfl))) Via.refl e22 F32 (g := mkF m 32 #[.val (.ref a), .val (.int (0 : Int32))] [(.ref a), (.ref a)]) rfl rfl (hb hby own_d_prog_10_method_4_code_32)
  refine OGoal.mp (S' := (T33.setTop (mkF m 35 #[.val (.ref a), .val (.int (0 : Int32))] [(.int (1 : Int32)), (.ref a)]))) (fun _ k => st36 _ k) ?_
  have l37 : (1 : Int32).toInt = 1 := by decide
  have hd38 : ¬ ((1 : Int32) = 0) := mNe (by omega)
  refine OGoal.mp (S' := (T33.setTop (mkF m 38 #[.val (.ref a), .val (.int (0 : Int32))] [(.ref a)]))) (fun _ k => XS.ifNo X34.here hx rfl (hb hby own_d_prog_10_method_4_code_35) rfl (XT.i0_eq_f hd38) k) ?_
  refine OGoal.mp (S' := (T33.setTop (mkF m 39 #[.val (.ref a), .val (.int (0 : Int32))] [(.ref a), (.ref a)]))) (fun _ k => XS.aloadN X34.here hx rfl (hb hby own_d_prog_10_method_4_code_38) rfl rfl k) ?_
  obtain ⟨T39, X40, e41, st42⟩ := getF X34 hx hZ hown (host := "") (Or.inl (hw _ (List.mem_of_getElem? (i := 16) rfl))) Via.refl e35 F30 (g := mkF m 39 #[.val (.ref a), .val (.int (0 : Int32))] [(.ref a), (.ref a)]) rfl rfl (hb hby own_d_prog_10_method_4_code_39)
  refine OGoal.mp (S' := (T39.setTop (mkF m 42 #[.val (.ref a), .val (.int (0 : Int32))] [(.int pw), (.ref a)]))) (fun _ k => st42 _ k) ?_
  refine OGoal.mp (S' := (T39.setTop (mkF m 43 #[.val (.ref a), .val (.int (0 : Int32))] [(.ref a), (.int pw), (.ref a)]))) (fun _ k => XS.aloadN X40.here hx rfl (hb hby own_d_prog_10_method_4_code_42) rfl rfl k) ?_
  obtain ⟨T43, X44, e45, st46⟩ := getF X40 hx hZ hown (host := "") (Or.inl (hw _ (List.mem_of_getElem? (i := 9) rfl))) Via.refl e41 F29 (g := mkF m 43 #[.val (.ref a), .val (.int (0 : Int32))] [(.ref a), (.int pw), (.ref a)]) rfl rfl (hb hby own_d_prog_10_method_4_code_43)
  refine OGoal.mp (S' := (T43.setTop (mkF m 46 #[.val (.ref a), .val (.int (0 : Int32))] [(.int qw), (.int pw), (.ref a)]))) (fun _ k => st46 _ k) ?_
  refine OGoal.mp (S' := (T43.setTop (mkF m 47 #[.val (.ref a), .val (.int (0 : Int32))] [(.int (pw + qw)), (.ref a)]))) (fun _ k => XS.iadd X44.here hx rfl (hb hby own_d_prog_10_method_4_code_46) rfl k) ?_
  obtain ⟨u47, hu47⟩ : ∃ z : Int32, z = (pw + qw) := ⟨_, rfl⟩
  rw [← hu47]
  have t48 : (u47.toInt - ((pw).toInt + (qw).toInt)) % 4294967296 = 0 := by rw [hu47]; exact c_iadd pw qw
  have r49 := rng32 u47
  refine OGoal.mp (S' := (T43.setTop (mkF m 48 #[.val (.ref a), .val (.int (0 : Int32))] [(.int (1 : Int32)), (.int u47), (.ref a)]))) (fun _ k => XS.iconst X44.here hx rfl (hb hby own_d_prog_10_method_4_code_47) k) ?_
  refine OGoal.mp (S' := (T43.setTop (mkF m 49 #[.val (.ref a), .val (.int (0 : Int32))] [(.int (XT.ushr u47 (1 : Int32))), (.ref a)]))) (fun _ k => XT.iushr X44.here hx rfl (hb hby own_d_prog_10_method_4_code_48) rfl k) ?_
  obtain ⟨u50, hu50⟩ : ∃ z : Int32, z = (XT.ushr u47 (1 : Int32)) := ⟨_, rfl⟩
  rw [← hu50]
  have t51 : u50.toInt = (u47).toInt % 4294967296 / 2 := by rw [hu50]; exact c_iushr u47 (1 : Int32) 1 (by decide) (by decide)
  have r52 := rng32 u50
  refine OGoal.mp (S' := (T43.setTop (mkF m 75 #[.val (.ref a), .val (.int (0 : Int32))] [(.int u50), (.ref a)]))) (fun _ k => XS.goto X44.here hx rfl (pc0 := 49) (pc' := 75) rfl (hb hby own_d_prog_10_method_4_code_49) (by decide) (by decide) k) ?_
  obtain ⟨T53, h57, X54, e55, W58, st56⟩ := putF X44 hx hZ hown (host := "") (Or.inl (hw _ (List.mem_of_getElem? (i := 28) rfl))) Via.refl e45 F31 F28 (Or.inl (hw _ (List.mem_of_getElem? (i := 29) rfl))) (hw _ (List.mem_of_getElem? (i := 1) rfl)) (ty := .int) (by decide) rfl rfl (g := mkF m 75 #[.val (.ref a), .val (.int (0 : Int32))] [(.int u50), (.ref a)]) rfl rfl (hb hby own_d_prog_10_method_4_code_75)
  have N59 := Fr.snoc X54 N26 ab
  have Z60 : n0 ≤ h57.size := Nat.le_trans Z27 (Keep.of_wr W58).1
  have F61 := F28.wr W58
  have F62 := F29.other W58 (Or.inr (slot_ne (a0 := a0) (C := "com/example/stepwise_medians/stepwisemedians/engine/LeadingRun") (t := .int) (t' := .int) (Or.inl (hw _ (List.mem_of_getElem? (i := 10) rfl))) (Or.inl (hw _ (List.mem_of_getElem? (i := 29) rfl))) (by decide) (by decide) (by decide)))
  have F63 := F30.other W58 (Or.inr (slot_ne (a0 := a0) (C := "com/example/stepwise_medians/stepwisemedians/engine/LeadingRun") (t := .int) (t' := .int) (Or.inl (hw _ (List.mem_of_getElem? (i := 17) rfl))) (Or.inl (hw _ (List.mem_of_getElem? (i := 29) rfl))) (by decide) (by decide) (by decide)))
  have F64 := F31.same W58
  have F65 := F32.other W58 (Or.inr (slot_ne (a0 := a0) (C := "com/example/stepwise_medians/stepwisemedians/engine/LeadingRun") (t := .boolean) (t' := .int) (Or.inl (hw _ (List.mem_of_getElem? (i := 31) rfl))) (Or.inl (hw _ (List.mem_of_getElem? (i := 29) rfl))) (by decide) (by decide) (by decide)))
  refine OGoal.mp (S' := (T53.setTop (mkF m 78 #[.val (.ref a), .val (.int (0 : Int32))] []))) (fun _ k => st56 _ k) ?_
  refine oRetV X54 hx hlk hret (hb hby own_d_prog_10_method_4_code_78) ?_ (by decide) (by decide)
  rw [e55]
  exact ⟨u50, ⟨rfl, N59, F61, F62, F63, F64, F65⟩⟩
theorem own_pd__I_V : parseMethodDescriptor "(I)V" = some ⟨[.int], none⟩ := by decide +kernel
theorem own_pd___Z : parseMethodDescriptor "()Z" = some ⟨[], some .boolean⟩ := by decide +kernel
theorem own_pd__Z_V : parseMethodDescriptor "(Z)V" = some ⟨[.boolean], none⟩ := by decide +kernel
theorem own_pd___I : parseMethodDescriptor "()I" = some ⟨[], some .int⟩ := by decide +kernel
theorem own_pn_com_example_stepwise_medians_stepwisemedians_engine_LeadingRunIsOpenPinLaw : plainName "com/example/stepwise_medians/stepwisemedians/engine/LeadingRunIsOpenPinLaw" = true := by first | (simp [plainName, overriddenIn]; done) | decide +kernel
theorem own_ef_rm0 (x0 : Int32) (x1 : Int32) (m : MethodId) : entryFrame m #[(.int x0), (.int x1)] maxLocals = mkF m 0 #[.val (.int x0), .val (.int x1), .unset, .unset, .unset, .unset, .unset, .unset, .unset] [] := by first | (simp [entryFrame, mkF, argsToLocals, Value.category, maxLocals]; done) | rfl
set_option maxRecDepth 65536 in
set_option maxHeartbeats 40000000 in
theorem rm0 (l : Launch) (Z : State) (a0 : Array Value) (hw : ∀ d ∈ tables_1, d.before a0 Z = true) (p1 p2 : Int32) (h0 : Heap) (n0 : Nat) (Z0 : n0 ≤ h0.size)  :
    OConK l Z x code maxLocals ret room_1 16 128 #[(.int p1), (.int p2)] h0 (fun v h L => v = some (.int 1) ∧ Fr n0 L) := by
  refine OConK.intro (y := x) (plainFor_of_name own_pn_com_example_stepwise_medians_stepwisemedians_engine_LeadingRunIsOpenPinLaw) (own_ef_rm0 p1 p2) ?_
  intro p e s m below meth c s₁ hx hby hml hown hnm hret hlk hZ X0 e0
  have := rng32 p1
  have := rng32 p2
  have l1 : (0 : Int32).toInt = 0 := by decide
  have l2 : (1 : Int32).toInt = 1 := by decide
  have l3 : (2 : Int32).toInt = 2 := by decide
  have l4 : (3 : Int32).toInt = 3 := by decide
  have l5 : (4 : Int32).toInt = 4 := by decide
  show OGoal p e below s _ _ _ (s₁.setTop (mkF m 0 #[.val (.int p1), .val (.int p2), .unset, .unset, .unset, .unset, .unset, .unset, .unset] []))
  obtain ⟨T6, h10, X7, e8, E11, A12, D13, -, st9⟩ := newO X0 hx hZ hown (hw _ (List.mem_of_getElem? (i := 0) rfl)) (hw _ (List.mem_of_getElem? (i := 1) rfl)) (hw _ (List.mem_of_getElem? (i := 2) rfl)) e0 (g := mkF m 0 #[.val (.int p1), .val (.int p2), .unset, .unset, .unset, .unset, .unset, .unset, .unset] []) rfl (hb hby at_0) (by decide) (by decide)
  obtain ⟨a14, g15⟩ : ∃ z, z = h0.size := ⟨_, rfl⟩
  rw [← g15] at A12 D13 st9
  have F16 : Fld Z h10 a14 "com/example/stepwise_medians/stepwisemedians/engine/LeadingRun" "failing" "I" (.int (0 : Int32)) := D13 (Or.inl (hw _ (List.mem_of_getElem? (i := 10) rfl))) (ty := .int) (by decide)
  have F17 : Fld Z h10 a14 "com/example/stepwise_medians/stepwisemedians/engine/LeadingRun" "passed" "I" (.int (0 : Int32)) := D13 (Or.inl (hw _ (List.mem_of_getElem? (i := 17) rfl))) (ty := .int) (by decide)
  have F18 : Fld Z h10 a14 "com/example/stepwise_medians/stepwisemedians/engine/LeadingRun" "probe" "I" (.int (0 : Int32)) := D13 (Or.inl (hw _ (List.mem_of_getElem? (i := 29) rfl))) (ty := .int) (by decide)
  have F19 : Fld Z h10 a14 "com/example/stepwise_medians/stepwisemedians/engine/LeadingRun" "bisecting" "Z" (.int (0 : Int32)) := D13 (Or.inl (hw _ (List.mem_of_getElem? (i := 31) rfl))) (ty := .boolean) (by decide)
  have Z20 : n0 ≤ h10.size := Nat.le_trans Z0 E11.1
  have ab21 : n0 ≤ a14 := Nat.le_trans Z0 (Nat.le_of_eq g15.symm)
  refine OGoal.mp (S' := (T6.setTop (mkF m 3 #[.val (.int p1), .val (.int p2), .unset, .unset, .unset, .unset, .unset, .unset, .unset] [(.ref a14)]))) (fun _ k => st9 _ k) ?_
  refine OGoal.mp (S' := (T6.setTop (mkF m 4 #[.val (.int p1), .val (.int p2), .unset, .unset, .unset, .unset, .unset, .unset, .unset] [(.ref a14), (.ref a14)]))) (fun _ k => XS.dup X7.here hx rfl (hb hby at_3) rfl rfl k) ?_
  refine OGoal.mp (S' := (T6.setTop (mkF m 5 #[.val (.int p1), .val (.int p2), .unset, .unset, .unset, .unset, .unset, .unset, .unset] [(.int p1), (.ref a14), (.ref a14)]))) (fun _ k => XS.iloadN X7.here hx rfl (hb hby at_4) rfl k) ?_
  refine oCallN (y := (⟨"com/example/stepwise_medians/stepwisemedians/engine/LeadingRun", "<init>", "(I)V"⟩ : MethodName)) X7 hx hZ rfl hown (hw _ (List.mem_of_getElem? (i := 3) rfl)) (hw _ (List.mem_of_getElem? (i := 4) rfl)) (hw _ (List.mem_of_getElem? (i := 2) rfl)) (hw _ (List.mem_of_getElem? (i := 5) rfl)) (by decide) (rmI l Z a0 hw a14 p1 h10 n0 Z20 A12 F16 F17 F18 F19 ab21) e8 [(.int p1)] [(.ref a14)] rfl rfl (by rw [hml]; rfl) (lenOf own_pd__I_V rfl) 1 (Nat.le_of_eq rfl) (by decide) (by decide) (by decide) (by decide) (hb hby at_5) ?_
  intro v22 T23 L24 X25 q26
  obtain ⟨rfl, N27, E28, F29, F30, F31, F32⟩ := q26
  have N33 := Fr.app (Fr.nil n0) N27
  have Z34 : n0 ≤ T23.heap.size := Nat.le_trans ab21 (Nat.le_of_lt E28.lt)
  show OGoal p e below s _ _ _ (T23.setTop (mkF m 8 #[.val (.int p1), .val (.int p2), .unset, .unset, .unset, .unset, .unset, .unset, .unset] [(.ref a14)]))
  refine OGoal.mp (S' := (T23.setTop (mkF m 9 #[.val (.int p1), .val (.int p2), .val (.ref a14), .unset, .unset, .unset, .unset, .unset, .unset] []))) (fun _ k => XS.astoreN X25.here hx rfl (hb hby at_8) rfl rfl (l' := #[.val (.int p1), .val (.int p2), .val (.ref a14), .unset, .unset, .unset, .unset, .unset, .unset]) rfl k) ?_
  refine OGoal.mp (S' := (T23.setTop (mkF m 10 #[.val (.int p1), .val (.int p2), .val (.ref a14), .unset, .unset, .unset, .unset, .unset, .unset] [(.ref a14)]))) (fun _ k => XS.aloadN X25.here hx rfl (hb hby at_9) rfl rfl k) ?_
  refine oCallV (y := (⟨"com/example/stepwise_medians/stepwisemedians/engine/LeadingRun", "isOpen", "()Z"⟩ : MethodName)) (z := (⟨"com/example/stepwise_medians/stepwisemedians/engine/LeadingRun", "isOpen", "()Z"⟩ : MethodName)) X25 hx hZ hown (hw _ (List.mem_of_getElem? (i := 11) rfl)) (hw _ (List.mem_of_getElem? (i := 12) rfl)) (hw _ (List.mem_of_getElem? (i := 14) rfl)) (hw _ (List.mem_of_getElem? (i := 13) rfl)) (hw _ (List.mem_of_getElem? (i := 2) rfl)) (hw _ (List.mem_of_getElem? (i := 15) rfl)) (by decide) (rmO l Z a0 hw a14 (0 : Int32) p1 T23.heap n0 Z34 F30 F29) rfl E28 [] [] rfl rfl (by rw [hml]; rfl) (notFace_of_selects (args := #[]) (mvT hZ (hw _ (List.mem_of_getElem? (i := 14) rfl)))) (lenOf own_pd___Z rfl) 0 (Nat.le_of_eq rfl) (by decide) (by decide) (by decide) (by decide) (hb hby at_10) ?_
  intro v35 T36 L37 X38 q39
  obtain ⟨rfl, N40, e41⟩ := q39
  have N42 := Fr.app N33 N40
  show OGoal p e below s _ _ _ (T36.setTop (mkF m 13 #[.val (.int p1), .val (.int p2), .val (.ref a14), .unset, .unset, .unset, .unset, .unset, .unset] [(.int (if (0 : Int32) < p1 then (1 : Int32) else 0))]))
  by_cases hc43 : (0 : Int32) < p1
  · rw [if_pos hc43]
    have g44 := oLt hc43
    show OGoal p e below s _ _ _ (T36.setTop (mkF m 13 #[.val (.int p1), .val (.int p2), .val (.ref a14), .unset, .unset, .unset, .unset, .unset, .unset] [(.int (1 : Int32))]))
    refine OGoal.mp (S' := (T36.setTop (mkF m 14 #[.val (.int p1), .val (.int p2), .val (.ref a14), .val (.int (1 : Int32)), .unset, .unset, .unset, .unset, .unset] []))) (fun _ k => XS.istoreN X38.here hx rfl (hb hby at_13) rfl (l' := #[.val (.int p1), .val (.int p2), .val (.ref a14), .val (.int (1 : Int32)), .unset, .unset, .unset, .unset, .unset]) rfl k) ?_
    refine OGoal.mp (S' := (T36.setTop (mkF m 15 #[.val (.int p1), .val (.int p2), .val (.ref a14), .val (.int (1 : Int32)), .unset, .unset, .unset, .unset, .unset] [(.int (1 : Int32))]))) (fun _ k => XS.iloadN X38.here hx rfl (hb hby at_14) rfl k) ?_
    refine OGoal.mp (S' := (T36.setTop (mkF m 16 #[.val (.int p1), .val (.int p2), .val (.ref a14), .val (.int (1 : Int32)), .unset, .unset, .unset, .unset, .unset] [(.int p1), (.int (1 : Int32))]))) (fun _ k => XS.iloadN X38.here hx rfl (hb hby at_15) rfl k) ?_
    have hd45 : 0 < p1 := mLt (by omega)
    refine OGoal.mp (S' := (T36.setTop (mkF m 19 #[.val (.int p1), .val (.int p2), .val (.ref a14), .val (.int (1 : Int32)), .unset, .unset, .unset, .unset, .unset] [(.int (1 : Int32))]))) (fun _ k => XS.ifNo X38.here hx rfl (hb hby at_16) rfl (XT.i0_le_f hd45) k) ?_
    refine OGoal.mp (S' := (T36.setTop (mkF m 20 #[.val (.int p1), .val (.int p2), .val (.ref a14), .val (.int (1 : Int32)), .unset, .unset, .unset, .unset, .unset] [(.int (1 : Int32)), (.int (1 : Int32))]))) (fun _ k => XS.iconst X38.here hx rfl (hb hby at_19) k) ?_
    refine OGoal.mp (S' := (T36.setTop (mkF m 24 #[.val (.int p1), .val (.int p2), .val (.ref a14), .val (.int (1 : Int32)), .unset, .unset, .unset, .unset, .unset] [(.int (1 : Int32)), (.int (1 : Int32))]))) (fun _ k => XS.goto X38.here hx rfl (pc0 := 20) (pc' := 24) rfl (hb hby at_20) (by decide) (by decide) k) ?_
    have hd46 : (1 : Int32) = (1 : Int32) := mEq (by omega)
    refine OGoal.mp (S' := (T36.setTop (mkF m 29 #[.val (.int p1), .val (.int p2), .val (.ref a14), .val (.int (1 : Int32)), .unset, .unset, .unset, .unset, .unset] []))) (fun _ k => XS.icmpYes X38.here hx rfl (pc0 := 24) (pc' := 29) rfl (hb hby at_24) rfl (XT.ii_eq_t hd46) (by decide) (by decide) k) ?_
    refine OGoal.mp (S' := (T36.setTop (mkF m 30 #[.val (.int p1), .val (.int p2), .val (.ref a14), .val (.int (1 : Int32)), .unset, .unset, .unset, .unset, .unset] [(.int (1 : Int32))]))) (fun _ k => XS.iloadN X38.here hx rfl (hb hby at_29) rfl k) ?_
    have hd47 : ¬ ((1 : Int32) = 0) := mNe (by omega)
    refine OGoal.mp (S' := (T36.setTop (mkF m 46 #[.val (.int p1), .val (.int p2), .val (.ref a14), .val (.int (1 : Int32)), .unset, .unset, .unset, .unset, .unset] []))) (fun _ k => XS.ifYes X38.here hx rfl (pc0 := 30) (pc' := 46) rfl (hb hby at_30) rfl (XT.i0_ne_t hd47) (by decide) (by decide) k) ?_
    refine OGoal.mp (S' := (T36.setTop (mkF m 47 #[.val (.int p1), .val (.int p2), .val (.ref a14), .val (.int (1 : Int32)), .unset, .unset, .unset, .unset, .unset] [(.ref a14)]))) (fun _ k => XS.aloadN X38.here hx rfl (hb hby at_46) rfl rfl k) ?_
    refine OGoal.mp (S' := (T36.setTop (mkF m 48 #[.val (.int p1), .val (.int p2), .val (.ref a14), .val (.int (1 : Int32)), .unset, .unset, .unset, .unset, .unset] [(.int (0 : Int32)), (.ref a14)]))) (fun _ k => XS.iconst X38.here hx rfl (hb hby at_47) k) ?_
    refine OGoal.mp (S' := (T36.setTop (mkF m 49 #[.val (.int p1), .val (.int p2), .val (.ref a14), .val (.int (1 : Int32)), .unset, .unset, .unset, .unset, .unset] [(.int p2), (.int (0 : Int32)), (.ref a14)]))) (fun _ k => XS.iloadN X38.here hx rfl (hb hby at_48) rfl k) ?_
    by_cases hc48 : (0 : Int32) < p2
    · have g49 := oLt hc48
      refine OGoal.mp (S' := (T36.setTop (mkF m 52 #[.val (.int p1), .val (.int p2), .val (.ref a14), .val (.int (1 : Int32)), .unset, .unset, .unset, .unset, .unset] [(.ref a14)]))) (fun _ k => XS.icmpNo X38.here hx rfl (hb hby at_49) rfl (XT.ii_ge_f hc48) k) ?_
      refine OGoal.mp (S' := (T36.setTop (mkF m 53 #[.val (.int p1), .val (.int p2), .val (.ref a14), .val (.int (1 : Int32)), .unset, .unset, .unset, .unset, .unset] [(.int (1 : Int32)), (.ref a14)]))) (fun _ k => XS.iconst X38.here hx rfl (hb hby at_52) k) ?_
      refine OGoal.mp (S' := (T36.setTop (mkF m 57 #[.val (.int p1), .val (.int p2), .val (.ref a14), .val (.int (1 : Int32)), .unset, .unset, .unset, .unset, .unset] [(.int (1 : Int32)), (.ref a14)]))) (fun _ k => XS.goto X38.here hx rfl (pc0 := 53) (pc' := 57) rfl (hb hby at_53) (by decide) (by decide) k) ?_
      refine oCallV (y := (⟨"com/example/stepwise_medians/stepwisemedians/engine/LeadingRun", "record", "(Z)V"⟩ : MethodName)) (z := (⟨"com/example/stepwise_medians/stepwisemedians/engine/LeadingRun", "record", "(Z)V"⟩ : MethodName)) X38 hx hZ hown (hw _ (List.mem_of_getElem? (i := 23) rfl)) (hw _ (List.mem_of_getElem? (i := 24) rfl)) (hw _ (List.mem_of_getElem? (i := 26) rfl)) (hw _ (List.mem_of_getElem? (i := 25) rfl)) (hw _ (List.mem_of_getElem? (i := 2) rfl)) (hw _ (List.mem_of_getElem? (i := 27) rfl)) (by decide) (rmR1 l Z a0 hw a14 p1 (0 : Int32) (0 : Int32) T23.heap n0 Z34 E28 F29 F30 F31 F32 ab21 (by omega) (by omega) (by omega)) e41 E28 [(.int (1 : Int32))] [] rfl rfl (by rw [hml]; rfl) (notFace_of_selects (args := #[]) (mvT hZ (hw _ (List.mem_of_getElem? (i := 26) rfl)))) (lenOf own_pd__Z_V rfl) 0 (Nat.le_of_eq rfl) (by decide) (by decide) (by decide) (by decide) (hb hby at_57) ?_
      intro v52 T53 L54 X55 q56
      obtain ⟨p50, q51, q57, t58, t59⟩ := q56
      obtain ⟨rfl, N60, E61, F62, F63, F64, F65⟩ := q57
      have N66 := Fr.app N42 N60
      have Z67 : n0 ≤ T53.heap.size := Nat.le_trans ab21 (Nat.le_of_lt E61.lt)
      show OGoal p e below s _ _ _ (T53.setTop (mkF m 60 #[.val (.int p1), .val (.int p2), .val (.ref a14), .val (.int (1 : Int32)), .unset, .unset, .unset, .unset, .unset] []))
      by_cases hc68 : p50.toInt ≤ (p1).toInt - p50.toInt
      · have g69 := hc68
        have k70 : q51.toInt = 2 * p50.toInt - 1 := by rw [t59]; exact own_q_l hc68
        show OGoal p e below s _ _ _ (T53.setTop (mkF m 60 #[.val (.int p1), .val (.int p2), .val (.ref a14), .val (.int (1 : Int32)), .unset, .unset, .unset, .unset, .unset] []))
        refine OGoal.mp (S' := (T53.setTop (mkF m 61 #[.val (.int p1), .val (.int p2), .val (.ref a14), .val (.int (1 : Int32)), .unset, .unset, .unset, .unset, .unset] [(.ref a14)]))) (fun _ k => XS.aloadN X55.here hx rfl (hb hby at_60) rfl rfl k) ?_
        refine oCallV (y := (⟨"com/example/stepwise_medians/stepwisemedians/engine/LeadingRun", "isOpen", "()Z"⟩ : MethodName)) (z := (⟨"com/example/stepwise_medians/stepwisemedians/engine/LeadingRun", "isOpen", "()Z"⟩ : MethodName)) X55 hx hZ hown (hw _ (List.mem_of_getElem? (i := 11) rfl)) (hw _ (List.mem_of_getElem? (i := 12) rfl)) (hw _ (List.mem_of_getElem? (i := 14) rfl)) (hw _ (List.mem_of_getElem? (i := 13) rfl)) (hw _ (List.mem_of_getElem? (i := 2) rfl)) (hw _ (List.mem_of_getElem? (i := 15) rfl)) (by decide) (rmO l Z a0 hw a14 p50 p1 T53.heap n0 Z67 F63 F62) rfl E61 [] [] rfl rfl (by rw [hml]; rfl) (notFace_of_selects (args := #[]) (mvT hZ (hw _ (List.mem_of_getElem? (i := 14) rfl)))) (lenOf own_pd___Z rfl) 0 (Nat.le_of_eq rfl) (by decide) (by decide) (by decide) (by decide) (hb hby at_61) ?_
        intro v71 T72 L73 X74 q75
        obtain ⟨rfl, N76, e77⟩ := q75
        have N78 := Fr.app N66 N76
        show OGoal p e below s _ _ _ (T72.setTop (mkF m 64 #[.val (.int p1), .val (.int p2), .val (.ref a14), .val (.int (1 : Int32)), .unset, .unset, .unset, .unset, .unset] [(.int (if p50 < p1 then (1 : Int32) else 0))]))
        have hd79 : p50 < p1 := mLt (by omega)
        rw [if_pos hd79]
        show OGoal p e below s _ _ _ (T72.setTop (mkF m 64 #[.val (.int p1), .val (.int p2), .val (.ref a14), .val (.int (1 : Int32)), .unset, .unset, .unset, .unset, .unset] [(.int (1 : Int32))]))
        refine OGoal.mp (S' := (T72.setTop (mkF m 66 #[.val (.int p1), .val (.int p2), .val (.ref a14), .val (.int (1 : Int32)), .val (.int (1 : Int32)), .unset, .unset, .unset, .unset] []))) (fun _ k => XS.istore X74.here hx rfl (hb hby at_64) rfl (l' := #[.val (.int p1), .val (.int p2), .val (.ref a14), .val (.int (1 : Int32)), .val (.int (1 : Int32)), .unset, .unset, .unset, .unset]) rfl k) ?_
        refine OGoal.mp (S' := (T72.setTop (mkF m 68 #[.val (.int p1), .val (.int p2), .val (.ref a14), .val (.int (1 : Int32)), .val (.int (1 : Int32)), .unset, .unset, .unset, .unset] [(.int (1 : Int32))]))) (fun _ k => XS.iload X74.here hx rfl (hb hby at_66) rfl k) ?_
        refine OGoal.mp (S' := (T72.setTop (mkF m 69 #[.val (.int p1), .val (.int p2), .val (.ref a14), .val (.int (1 : Int32)), .val (.int (1 : Int32)), .unset, .unset, .unset, .unset] [(.int p2), (.int (1 : Int32))]))) (fun _ k => XS.iloadN X74.here hx rfl (hb hby at_68) rfl k) ?_
        refine OGoal.mp (S' := (T72.setTop (mkF m 70 #[.val (.int p1), .val (.int p2), .val (.ref a14), .val (.int (1 : Int32)), .val (.int (1 : Int32)), .unset, .unset, .unset, .unset] [(.int (1 : Int32)), (.int p2), (.int (1 : Int32))]))) (fun _ k => XS.iconst X74.here hx rfl (hb hby at_69) k) ?_
        have hd80 : ¬ (p2 < (1 : Int32)) := mNlt (by omega)
        refine OGoal.mp (S' := (T72.setTop (mkF m 73 #[.val (.int p1), .val (.int p2), .val (.ref a14), .val (.int (1 : Int32)), .val (.int (1 : Int32)), .unset, .unset, .unset, .unset] [(.int (1 : Int32))]))) (fun _ k => XS.icmpNo X74.here hx rfl (hb hby at_70) rfl (XT.ii_lt_f hd80) k) ?_
        refine OGoal.mp (S' := (T72.setTop (mkF m 74 #[.val (.int p1), .val (.int p2), .val (.ref a14), .val (.int (1 : Int32)), .val (.int (1 : Int32)), .unset, .unset, .unset, .unset] [(.int p1), (.int (1 : Int32))]))) (fun _ k => XS.iloadN X74.here hx rfl (hb hby at_73) rfl k) ?_
        refine OGoal.mp (S' := (T72.setTop (mkF m 75 #[.val (.int p1), .val (.int p2), .val (.ref a14), .val (.int (1 : Int32)), .val (.int (1 : Int32)), .unset, .unset, .unset, .unset] [(.int (1 : Int32)), (.int p1), (.int (1 : Int32))]))) (fun _ k => XS.iconst X74.here hx rfl (hb hby at_74) k) ?_
        have hd81 : (1 : Int32) < p1 := mLt (by omega)
        refine OGoal.mp (S' := (T72.setTop (mkF m 78 #[.val (.int p1), .val (.int p2), .val (.ref a14), .val (.int (1 : Int32)), .val (.int (1 : Int32)), .unset, .unset, .unset, .unset] [(.int (1 : Int32))]))) (fun _ k => XS.icmpNo X74.here hx rfl (hb hby at_75) rfl (XT.ii_le_f hd81) k) ?_
        refine OGoal.mp (S' := (T72.setTop (mkF m 79 #[.val (.int p1), .val (.int p2), .val (.ref a14), .val (.int (1 : Int32)), .val (.int (1 : Int32)), .unset, .unset, .unset, .unset] [(.int (1 : Int32)), (.int (1 : Int32))]))) (fun _ k => XS.iconst X74.here hx rfl (hb hby at_78) k) ?_
        refine OGoal.mp (S' := (T72.setTop (mkF m 83 #[.val (.int p1), .val (.int p2), .val (.ref a14), .val (.int (1 : Int32)), .val (.int (1 : Int32)), .unset, .unset, .unset, .unset] [(.int (1 : Int32)), (.int (1 : Int32))]))) (fun _ k => XS.goto X74.here hx rfl (pc0 := 79) (pc' := 83) rfl (hb hby at_79) (by decide) (by decide) k) ?_
        have hd82 : (1 : Int32) = (1 : Int32) := mEq (by omega)
        refine OGoal.mp (S' := (T72.setTop (mkF m 88 #[.val (.int p1), .val (.int p2), .val (.ref a14), .val (.int (1 : Int32)), .val (.int (1 : Int32)), .unset, .unset, .unset, .unset] []))) (fun _ k => XS.icmpYes X74.here hx rfl (pc0 := 83) (pc' := 88) rfl (hb hby at_83) rfl (XT.ii_eq_t hd82) (by decide) (by decide) k) ?_
        refine OGoal.mp (S' := (T72.setTop (mkF m 90 #[.val (.int p1), .val (.int p2), .val (.ref a14), .val (.int (1 : Int32)), .val (.int (1 : Int32)), .unset, .unset, .unset, .unset] [(.int (1 : Int32))]))) (fun _ k => XS.iload X74.here hx rfl (hb hby at_88) rfl k) ?_
        have hd83 : ¬ ((1 : Int32) = 0) := mNe (by omega)
        refine OGoal.mp (S' := (T72.setTop (mkF m 116 #[.val (.int p1), .val (.int p2), .val (.ref a14), .val (.int (1 : Int32)), .val (.int (1 : Int32)), .unset, .unset, .unset, .unset] []))) (fun _ k => XS.ifYes X74.here hx rfl (pc0 := 90) (pc' := 116) rfl (hb hby at_90) rfl (XT.i0_ne_t hd83) (by decide) (by decide) k) ?_
        refine OGoal.mp (S' := (T72.setTop (mkF m 117 #[.val (.int p1), .val (.int p2), .val (.ref a14), .val (.int (1 : Int32)), .val (.int (1 : Int32)), .unset, .unset, .unset, .unset] [(.ref a14)]))) (fun _ k => XS.aloadN X74.here hx rfl (hb hby at_116) rfl rfl k) ?_
        refine OGoal.mp (S' := (T72.setTop (mkF m 118 #[.val (.int p1), .val (.int p2), .val (.ref a14), .val (.int (1 : Int32)), .val (.int (1 : Int32)), .unset, .unset, .unset, .unset] [(.int (1 : Int32)), (.ref a14)]))) (fun _ k => XS.iconst X74.here hx rfl (hb hby at_117) k) ?_
        refine OGoal.mp (S' := (T72.setTop (mkF m 119 #[.val (.int p1), .val (.int p2), .val (.ref a14), .val (.int (1 : Int32)), .val (.int (1 : Int32)), .unset, .unset, .unset, .unset] [(.int p2), (.int (1 : Int32)), (.ref a14)]))) (fun _ k => XS.iloadN X74.here hx rfl (hb hby at_118) rfl k) ?_
        by_cases hc84 : (1 : Int32) < p2
        · have g85 := oLt hc84
          refine OGoal.mp (S' := (T72.setTop (mkF m 122 #[.val (.int p1), .val (.int p2), .val (.ref a14), .val (.int (1 : Int32)), .val (.int (1 : Int32)), .unset, .unset, .unset, .unset] [(.ref a14)]))) (fun _ k => XS.icmpNo X74.here hx rfl (hb hby at_119) rfl (XT.ii_ge_f hc84) k) ?_
          refine OGoal.mp (S' := (T72.setTop (mkF m 123 #[.val (.int p1), .val (.int p2), .val (.ref a14), .val (.int (1 : Int32)), .val (.int (1 : Int32)), .unset, .unset, .unset, .unset] [(.int (1 : Int32)), (.ref a14)]))) (fun _ k => XS.iconst X74.here hx rfl (hb hby at_122) k) ?_
          refine OGoal.mp (S' := (T72.setTop (mkF m 127 #[.val (.int p1), .val (.int p2), .val (.ref a14), .val (.int (1 : Int32)), .val (.int (1 : Int32)), .unset, .unset, .unset, .unset] [(.int (1 : Int32)), (.ref a14)]))) (fun _ k => XS.goto X74.here hx rfl (pc0 := 123) (pc' := 127) rfl (hb hby at_123) (by decide) (by decide) k) ?_
          refine oCallV (y := (⟨"com/example/stepwise_medians/stepwisemedians/engine/LeadingRun", "record", "(Z)V"⟩ : MethodName)) (z := (⟨"com/example/stepwise_medians/stepwisemedians/engine/LeadingRun", "record", "(Z)V"⟩ : MethodName)) X74 hx hZ hown (hw _ (List.mem_of_getElem? (i := 23) rfl)) (hw _ (List.mem_of_getElem? (i := 24) rfl)) (hw _ (List.mem_of_getElem? (i := 26) rfl)) (hw _ (List.mem_of_getElem? (i := 25) rfl)) (hw _ (List.mem_of_getElem? (i := 2) rfl)) (hw _ (List.mem_of_getElem? (i := 27) rfl)) (by decide) (rmR1 l Z a0 hw a14 p1 p50 q51 T53.heap n0 Z67 E61 F62 F63 F64 F65 ab21 (by omega) (by omega) (by omega)) e77 E61 [(.int (1 : Int32))] [] rfl rfl (by rw [hml]; rfl) (notFace_of_selects (args := #[]) (mvT hZ (hw _ (List.mem_of_getElem? (i := 26) rfl)))) (lenOf own_pd__Z_V rfl) 0 (Nat.le_of_eq rfl) (by decide) (by decide) (by decide) (by decide) (hb hby at_127) ?_
          intro v88 T89 L90 X91 q92
          obtain ⟨p86, q87, q93, t94, t95⟩ := q92
          obtain ⟨rfl, N96, E97, F98, F99, F100, F101⟩ := q93
          have N102 := Fr.app N78 N96
          have Z103 : n0 ≤ T89.heap.size := Nat.le_trans ab21 (Nat.le_of_lt E97.lt)
          show OGoal p e below s _ _ _ (T89.setTop (mkF m 130 #[.val (.int p1), .val (.int p2), .val (.ref a14), .val (.int (1 : Int32)), .val (.int (1 : Int32)), .unset, .unset, .unset, .unset] []))
          by_cases hc104 : p86.toInt ≤ (p1).toInt - p86.toInt
          · have g105 := hc104
            have k106 : q87.toInt = 2 * p86.toInt - 1 := by rw [t95]; exact own_q_l hc104
            show OGoal p e below s _ _ _ (T89.setTop (mkF m 130 #[.val (.int p1), .val (.int p2), .val (.ref a14), .val (.int (1 : Int32)), .val (.int (1 : Int32)), .unset, .unset, .unset, .unset] []))
            refine OGoal.mp (S' := (T89.setTop (mkF m 131 #[.val (.int p1), .val (.int p2), .val (.ref a14), .val (.int (1 : Int32)), .val (.int (1 : Int32)), .unset, .unset, .unset, .unset] [(.ref a14)]))) (fun _ k => XS.aloadN X91.here hx rfl (hb hby at_130) rfl rfl k) ?_
            refine oCallV (y := (⟨"com/example/stepwise_medians/stepwisemedians/engine/LeadingRun", "isOpen", "()Z"⟩ : MethodName)) (z := (⟨"com/example/stepwise_medians/stepwisemedians/engine/LeadingRun", "isOpen", "()Z"⟩ : MethodName)) X91 hx hZ hown (hw _ (List.mem_of_getElem? (i := 11) rfl)) (hw _ (List.mem_of_getElem? (i := 12) rfl)) (hw _ (List.mem_of_getElem? (i := 14) rfl)) (hw _ (List.mem_of_getElem? (i := 13) rfl)) (hw _ (List.mem_of_getElem? (i := 2) rfl)) (hw _ (List.mem_of_getElem? (i := 15) rfl)) (by decide) (rmO l Z a0 hw a14 p86 p1 T89.heap n0 Z103 F99 F98) rfl E97 [] [] rfl rfl (by rw [hml]; rfl) (notFace_of_selects (args := #[]) (mvT hZ (hw _ (List.mem_of_getElem? (i := 14) rfl)))) (lenOf own_pd___Z rfl) 0 (Nat.le_of_eq rfl) (by decide) (by decide) (by decide) (by decide) (hb hby at_131) ?_
            intro v107 T108 L109 X110 q111
            obtain ⟨rfl, N112, e113⟩ := q111
            have N114 := Fr.app N102 N112
            show OGoal p e below s _ _ _ (T108.setTop (mkF m 134 #[.val (.int p1), .val (.int p2), .val (.ref a14), .val (.int (1 : Int32)), .val (.int (1 : Int32)), .unset, .unset, .unset, .unset] [(.int (if p86 < p1 then (1 : Int32) else 0))]))
            have hd115 : p86 < p1 := mLt (by omega)
            rw [if_pos hd115]
            show OGoal p e below s _ _ _ (T108.setTop (mkF m 134 #[.val (.int p1), .val (.int p2), .val (.ref a14), .val (.int (1 : Int32)), .val (.int (1 : Int32)), .unset, .unset, .unset, .unset] [(.int (1 : Int32))]))
            refine OGoal.mp (S' := (T108.setTop (mkF m 136 #[.val (.int p1), .val (.int p2), .val (.ref a14), .val (.int (1 : Int32)), .val (.int (1 : Int32)), .val (.int (1 : Int32)), .unset, .unset, .unset] []))) (fun _ k => XS.istore X110.here hx rfl (hb hby at_134) rfl (l' := #[.val (.int p1), .val (.int p2), .val (.ref a14), .val (.int (1 : Int32)), .val (.int (1 : Int32)), .val (.int (1 : Int32)), .unset, .unset, .unset]) rfl k) ?_
            refine OGoal.mp (S' := (T108.setTop (mkF m 138 #[.val (.int p1), .val (.int p2), .val (.ref a14), .val (.int (1 : Int32)), .val (.int (1 : Int32)), .val (.int (1 : Int32)), .unset, .unset, .unset] [(.int (1 : Int32))]))) (fun _ k => XS.iload X110.here hx rfl (hb hby at_136) rfl k) ?_
            refine OGoal.mp (S' := (T108.setTop (mkF m 139 #[.val (.int p1), .val (.int p2), .val (.ref a14), .val (.int (1 : Int32)), .val (.int (1 : Int32)), .val (.int (1 : Int32)), .unset, .unset, .unset] [(.int p2), (.int (1 : Int32))]))) (fun _ k => XS.iloadN X110.here hx rfl (hb hby at_138) rfl k) ?_
            refine OGoal.mp (S' := (T108.setTop (mkF m 140 #[.val (.int p1), .val (.int p2), .val (.ref a14), .val (.int (1 : Int32)), .val (.int (1 : Int32)), .val (.int (1 : Int32)), .unset, .unset, .unset] [(.int (2 : Int32)), (.int p2), (.int (1 : Int32))]))) (fun _ k => XS.iconst X110.here hx rfl (hb hby at_139) k) ?_
            have hd116 : ¬ (p2 < (2 : Int32)) := mNlt (by omega)
            refine OGoal.mp (S' := (T108.setTop (mkF m 143 #[.val (.int p1), .val (.int p2), .val (.ref a14), .val (.int (1 : Int32)), .val (.int (1 : Int32)), .val (.int (1 : Int32)), .unset, .unset, .unset] [(.int (1 : Int32))]))) (fun _ k => XS.icmpNo X110.here hx rfl (hb hby at_140) rfl (XT.ii_lt_f hd116) k) ?_
            refine OGoal.mp (S' := (T108.setTop (mkF m 144 #[.val (.int p1), .val (.int p2), .val (.ref a14), .val (.int (1 : Int32)), .val (.int (1 : Int32)), .val (.int (1 : Int32)), .unset, .unset, .unset] [(.int p1), (.int (1 : Int32))]))) (fun _ k => XS.iloadN X110.here hx rfl (hb hby at_143) rfl k) ?_
            refine OGoal.mp (S' := (T108.setTop (mkF m 145 #[.val (.int p1), .val (.int p2), .val (.ref a14), .val (.int (1 : Int32)), .val (.int (1 : Int32)), .val (.int (1 : Int32)), .unset, .unset, .unset] [(.int (2 : Int32)), (.int p1), (.int (1 : Int32))]))) (fun _ k => XS.iconst X110.here hx rfl (hb hby at_144) k) ?_
            have hd117 : (2 : Int32) < p1 := mLt (by omega)
            refine OGoal.mp (S' := (T108.setTop (mkF m 148 #[.val (.int p1), .val (.int p2), .val (.ref a14), .val (.int (1 : Int32)), .val (.int (1 : Int32)), .val (.int (1 : Int32)), .unset, .unset, .unset] [(.int (1 : Int32))]))) (fun _ k => XS.icmpNo X110.here hx rfl (hb hby at_145) rfl (XT.ii_le_f hd117) k) ?_
            refine OGoal.mp (S' := (T108.setTop (mkF m 149 #[.val (.int p1), .val (.int p2), .val (.ref a14), .val (.int (1 : Int32)), .val (.int (1 : Int32)), .val (.int (1 : Int32)), .unset, .unset, .unset] [(.int (1 : Int32)), (.int (1 : Int32))]))) (fun _ k => XS.iconst X110.here hx rfl (hb hby at_148) k) ?_
            refine OGoal.mp (S' := (T108.setTop (mkF m 153 #[.val (.int p1), .val (.int p2), .val (.ref a14), .val (.int (1 : Int32)), .val (.int (1 : Int32)), .val (.int (1 : Int32)), .unset, .unset, .unset] [(.int (1 : Int32)), (.int (1 : Int32))]))) (fun _ k => XS.goto X110.here hx rfl (pc0 := 149) (pc' := 153) rfl (hb hby at_149) (by decide) (by decide) k) ?_
            have hd118 : (1 : Int32) = (1 : Int32) := mEq (by omega)
            refine OGoal.mp (S' := (T108.setTop (mkF m 158 #[.val (.int p1), .val (.int p2), .val (.ref a14), .val (.int (1 : Int32)), .val (.int (1 : Int32)), .val (.int (1 : Int32)), .unset, .unset, .unset] []))) (fun _ k => XS.icmpYes X110.here hx rfl (pc0 := 153) (pc' := 158) rfl (hb hby at_153) rfl (XT.ii_eq_t hd118) (by decide) (by decide) k) ?_
            refine OGoal.mp (S' := (T108.setTop (mkF m 160 #[.val (.int p1), .val (.int p2), .val (.ref a14), .val (.int (1 : Int32)), .val (.int (1 : Int32)), .val (.int (1 : Int32)), .unset, .unset, .unset] [(.int (1 : Int32))]))) (fun _ k => XS.iload X110.here hx rfl (hb hby at_158) rfl k) ?_
            have hd119 : ¬ ((1 : Int32) = 0) := mNe (by omega)
            refine OGoal.mp (S' := (T108.setTop (mkF m 186 #[.val (.int p1), .val (.int p2), .val (.ref a14), .val (.int (1 : Int32)), .val (.int (1 : Int32)), .val (.int (1 : Int32)), .unset, .unset, .unset] []))) (fun _ k => XS.ifYes X110.here hx rfl (pc0 := 160) (pc' := 186) rfl (hb hby at_160) rfl (XT.i0_ne_t hd119) (by decide) (by decide) k) ?_
            refine OGoal.mp (S' := (T108.setTop (mkF m 187 #[.val (.int p1), .val (.int p2), .val (.ref a14), .val (.int (1 : Int32)), .val (.int (1 : Int32)), .val (.int (1 : Int32)), .unset, .unset, .unset] [(.int p1)]))) (fun _ k => XS.iloadN X110.here hx rfl (hb hby at_186) rfl k) ?_
            refine OGoal.mp (S' := (T108.setTop (mkF m 188 #[.val (.int p1), .val (.int p2), .val (.ref a14), .val (.int (1 : Int32)), .val (.int (1 : Int32)), .val (.int (1 : Int32)), .unset, .unset, .unset] [(.int (3 : Int32)), (.int p1)]))) (fun _ k => XS.iconst X110.here hx rfl (hb hby at_187) k) ?_
            have hd120 : ¬ (p1 = (3 : Int32)) := mNe (by omega)
            refine OGoal.mp (S' := (T108.setTop (mkF m 195 #[.val (.int p1), .val (.int p2), .val (.ref a14), .val (.int (1 : Int32)), .val (.int (1 : Int32)), .val (.int (1 : Int32)), .unset, .unset, .unset] []))) (fun _ k => XS.icmpYes X110.here hx rfl (pc0 := 188) (pc' := 195) rfl (hb hby at_188) rfl (XT.ii_ne_t hd120) (by decide) (by decide) k) ?_
            refine OGoal.mp (S' := (T108.setTop (mkF m 196 #[.val (.int p1), .val (.int p2), .val (.ref a14), .val (.int (1 : Int32)), .val (.int (1 : Int32)), .val (.int (1 : Int32)), .unset, .unset, .unset] [(.int (3 : Int32))]))) (fun _ k => XS.iconst X110.here hx rfl (hb hby at_195) k) ?_
            refine OGoal.mp (S' := (T108.setTop (mkF m 198 #[.val (.int p1), .val (.int p2), .val (.ref a14), .val (.int (1 : Int32)), .val (.int (1 : Int32)), .val (.int (1 : Int32)), .val (.int (3 : Int32)), .unset, .unset] []))) (fun _ k => XS.istore X110.here hx rfl (hb hby at_196) rfl (l' := #[.val (.int p1), .val (.int p2), .val (.ref a14), .val (.int (1 : Int32)), .val (.int (1 : Int32)), .val (.int (1 : Int32)), .val (.int (3 : Int32)), .unset, .unset]) rfl k) ?_
            refine OGoal.mp (S' := (T108.setTop (mkF m 199 #[.val (.int p1), .val (.int p2), .val (.ref a14), .val (.int (1 : Int32)), .val (.int (1 : Int32)), .val (.int (1 : Int32)), .val (.int (3 : Int32)), .unset, .unset] [(.ref a14)]))) (fun _ k => XS.aloadN X110.here hx rfl (hb hby at_198) rfl rfl k) ?_
            refine OGoal.mp (S' := (T108.setTop (mkF m 201 #[.val (.int p1), .val (.int p2), .val (.ref a14), .val (.int (1 : Int32)), .val (.int (1 : Int32)), .val (.int (1 : Int32)), .val (.int (3 : Int32)), .unset, .unset] [(.int (3 : Int32)), (.ref a14)]))) (fun _ k => XS.iload X110.here hx rfl (hb hby at_199) rfl k) ?_
            refine OGoal.mp (S' := (T108.setTop (mkF m 202 #[.val (.int p1), .val (.int p2), .val (.ref a14), .val (.int (1 : Int32)), .val (.int (1 : Int32)), .val (.int (1 : Int32)), .val (.int (3 : Int32)), .unset, .unset] [(.int p2), (.int (3 : Int32)), (.ref a14)]))) (fun _ k => XS.iloadN X110.here hx rfl (hb hby at_201) rfl k) ?_
            by_cases hc121 : (3 : Int32) < p2
            · have g122 := oLt hc121
              refine OGoal.mp (S' := (T108.setTop (mkF m 205 #[.val (.int p1), .val (.int p2), .val (.ref a14), .val (.int (1 : Int32)), .val (.int (1 : Int32)), .val (.int (1 : Int32)), .val (.int (3 : Int32)), .unset, .unset] [(.ref a14)]))) (fun _ k => XS.icmpNo X110.here hx rfl (hb hby at_202) rfl (XT.ii_ge_f hc121) k) ?_
              refine OGoal.mp (S' := (T108.setTop (mkF m 206 #[.val (.int p1), .val (.int p2), .val (.ref a14), .val (.int (1 : Int32)), .val (.int (1 : Int32)), .val (.int (1 : Int32)), .val (.int (3 : Int32)), .unset, .unset] [(.int (1 : Int32)), (.ref a14)]))) (fun _ k => XS.iconst X110.here hx rfl (hb hby at_205) k) ?_
              refine OGoal.mp (S' := (T108.setTop (mkF m 210 #[.val (.int p1), .val (.int p2), .val (.ref a14), .val (.int (1 : Int32)), .val (.int (1 : Int32)), .val (.int (1 : Int32)), .val (.int (3 : Int32)), .unset, .unset] [(.int (1 : Int32)), (.ref a14)]))) (fun _ k => XS.goto X110.here hx rfl (pc0 := 206) (pc' := 210) rfl (hb hby at_206) (by decide) (by decide) k) ?_
              refine oCallV (y := (⟨"com/example/stepwise_medians/stepwisemedians/engine/LeadingRun", "record", "(Z)V"⟩ : MethodName)) (z := (⟨"com/example/stepwise_medians/stepwisemedians/engine/LeadingRun", "record", "(Z)V"⟩ : MethodName)) X110 hx hZ hown (hw _ (List.mem_of_getElem? (i := 23) rfl)) (hw _ (List.mem_of_getElem? (i := 24) rfl)) (hw _ (List.mem_of_getElem? (i := 26) rfl)) (hw _ (List.mem_of_getElem? (i := 25) rfl)) (hw _ (List.mem_of_getElem? (i := 2) rfl)) (hw _ (List.mem_of_getElem? (i := 27) rfl)) (by decide) (rmR1 l Z a0 hw a14 p1 p86 q87 T89.heap n0 Z103 E97 F98 F99 F100 F101 ab21 (by omega) (by omega) (by omega)) e113 E97 [(.int (1 : Int32))] [] rfl rfl (by rw [hml]; rfl) (notFace_of_selects (args := #[]) (mvT hZ (hw _ (List.mem_of_getElem? (i := 26) rfl)))) (lenOf own_pd__Z_V rfl) 0 (Nat.le_of_eq rfl) (by decide) (by decide) (by decide) (by decide) (hb hby at_210) ?_
              intro v125 T126 L127 X128 q129
              obtain ⟨p123, q124, q130, t131, t132⟩ := q129
              obtain ⟨rfl, N133, E134, F135, F136, F137, F138⟩ := q130
              have N139 := Fr.app N114 N133
              have Z140 : n0 ≤ T126.heap.size := Nat.le_trans ab21 (Nat.le_of_lt E134.lt)
              show OGoal p e below s _ _ _ (T126.setTop (mkF m 213 #[.val (.int p1), .val (.int p2), .val (.ref a14), .val (.int (1 : Int32)), .val (.int (1 : Int32)), .val (.int (1 : Int32)), .val (.int (3 : Int32)), .unset, .unset] []))
              by_cases hc141 : p123.toInt ≤ (p1).toInt - p123.toInt
              · have g142 := hc141
                have k143 : q124.toInt = 2 * p123.toInt - 1 := by rw [t132]; exact own_q_l hc141
                show OGoal p e below s _ _ _ (T126.setTop (mkF m 213 #[.val (.int p1), .val (.int p2), .val (.ref a14), .val (.int (1 : Int32)), .val (.int (1 : Int32)), .val (.int (1 : Int32)), .val (.int (3 : Int32)), .unset, .unset] []))
                refine OGoal.mp (S' := (T126.setTop (mkF m 214 #[.val (.int p1), .val (.int p2), .val (.ref a14), .val (.int (1 : Int32)), .val (.int (1 : Int32)), .val (.int (1 : Int32)), .val (.int (3 : Int32)), .unset, .unset] [(.ref a14)]))) (fun _ k => XS.aloadN X128.here hx rfl (hb hby at_213) rfl rfl k) ?_
                refine oCallV (y := (⟨"com/example/stepwise_medians/stepwisemedians/engine/LeadingRun", "isOpen", "()Z"⟩ : MethodName)) (z := (⟨"com/example/stepwise_medians/stepwisemedians/engine/LeadingRun", "isOpen", "()Z"⟩ : MethodName)) X128 hx hZ hown (hw _ (List.mem_of_getElem? (i := 11) rfl)) (hw _ (List.mem_of_getElem? (i := 12) rfl)) (hw _ (List.mem_of_getElem? (i := 14) rfl)) (hw _ (List.mem_of_getElem? (i := 13) rfl)) (hw _ (List.mem_of_getElem? (i := 2) rfl)) (hw _ (List.mem_of_getElem? (i := 15) rfl)) (by decide) (rmO l Z a0 hw a14 p123 p1 T126.heap n0 Z140 F136 F135) rfl E134 [] [] rfl rfl (by rw [hml]; rfl) (notFace_of_selects (args := #[]) (mvT hZ (hw _ (List.mem_of_getElem? (i := 14) rfl)))) (lenOf own_pd___Z rfl) 0 (Nat.le_of_eq rfl) (by decide) (by decide) (by decide) (by decide) (hb hby at_214) ?_
                intro v144 T145 L146 X147 q148
                obtain ⟨rfl, N149, e150⟩ := q148
                have N151 := Fr.app N139 N149
                show OGoal p e below s _ _ _ (T145.setTop (mkF m 217 #[.val (.int p1), .val (.int p2), .val (.ref a14), .val (.int (1 : Int32)), .val (.int (1 : Int32)), .val (.int (1 : Int32)), .val (.int (3 : Int32)), .unset, .unset] [(.int (if p123 < p1 then (1 : Int32) else 0))]))
                have hd152 : p123 < p1 := mLt (by omega)
                rw [if_pos hd152]
                show OGoal p e below s _ _ _ (T145.setTop (mkF m 217 #[.val (.int p1), .val (.int p2), .val (.ref a14), .val (.int (1 : Int32)), .val (.int (1 : Int32)), .val (.int (1 : Int32)), .val (.int (3 : Int32)), .unset, .unset] [(.int (1 : Int32))]))
                refine OGoal.mp (S' := (T145.setTop (mkF m 219 #[.val (.int p1), .val (.int p2), .val (.ref a14), .val (.int (1 : Int32)), .val (.int (1 : Int32)), .val (.int (1 : Int32)), .val (.int (3 : Int32)), .val (.int (1 : Int32)), .unset] []))) (fun _ k => XS.istore X147.here hx rfl (hb hby at_217) rfl (l' := #[.val (.int p1), .val (.int p2), .val (.ref a14), .val (.int (1 : Int32)), .val (.int (1 : Int32)), .val (.int (1 : Int32)), .val (.int (3 : Int32)), .val (.int (1 : Int32)), .unset]) rfl k) ?_
                refine OGoal.mp (S' := (T145.setTop (mkF m 220 #[.val (.int p1), .val (.int p2), .val (.ref a14), .val (.int (1 : Int32)), .val (.int (1 : Int32)), .val (.int (1 : Int32)), .val (.int (3 : Int32)), .val (.int (1 : Int32)), .unset] [(.int p1)]))) (fun _ k => XS.iloadN X147.here hx rfl (hb hby at_219) rfl k) ?_
                refine OGoal.mp (S' := (T145.setTop (mkF m 221 #[.val (.int p1), .val (.int p2), .val (.ref a14), .val (.int (1 : Int32)), .val (.int (1 : Int32)), .val (.int (1 : Int32)), .val (.int (3 : Int32)), .val (.int (1 : Int32)), .unset] [(.int (3 : Int32)), (.int p1)]))) (fun _ k => XS.iconst X147.here hx rfl (hb hby at_220) k) ?_
                have hd153 : (3 : Int32) < p1 := mLt (by omega)
                refine OGoal.mp (S' := (T145.setTop (mkF m 224 #[.val (.int p1), .val (.int p2), .val (.ref a14), .val (.int (1 : Int32)), .val (.int (1 : Int32)), .val (.int (1 : Int32)), .val (.int (3 : Int32)), .val (.int (1 : Int32)), .unset] []))) (fun _ k => XS.icmpNo X147.here hx rfl (hb hby at_221) rfl (XT.ii_le_f hd153) k) ?_
                refine OGoal.mp (S' := (T145.setTop (mkF m 225 #[.val (.int p1), .val (.int p2), .val (.ref a14), .val (.int (1 : Int32)), .val (.int (1 : Int32)), .val (.int (1 : Int32)), .val (.int (3 : Int32)), .val (.int (1 : Int32)), .unset] [(.int p2)]))) (fun _ k => XS.iloadN X147.here hx rfl (hb hby at_224) rfl k) ?_
                refine OGoal.mp (S' := (T145.setTop (mkF m 226 #[.val (.int p1), .val (.int p2), .val (.ref a14), .val (.int (1 : Int32)), .val (.int (1 : Int32)), .val (.int (1 : Int32)), .val (.int (3 : Int32)), .val (.int (1 : Int32)), .unset] [(.int (4 : Int32)), (.int p2)]))) (fun _ k => XS.iconst X147.here hx rfl (hb hby at_225) k) ?_
                have hd154 : ¬ (p2 < (4 : Int32)) := mNlt (by omega)
                refine OGoal.mp (S' := (T145.setTop (mkF m 229 #[.val (.int p1), .val (.int p2), .val (.ref a14), .val (.int (1 : Int32)), .val (.int (1 : Int32)), .val (.int (1 : Int32)), .val (.int (3 : Int32)), .val (.int (1 : Int32)), .unset] []))) (fun _ k => XS.icmpNo X147.here hx rfl (hb hby at_226) rfl (XT.ii_lt_f hd154) k) ?_
                refine OGoal.mp (S' := (T145.setTop (mkF m 230 #[.val (.int p1), .val (.int p2), .val (.ref a14), .val (.int (1 : Int32)), .val (.int (1 : Int32)), .val (.int (1 : Int32)), .val (.int (3 : Int32)), .val (.int (1 : Int32)), .unset] [(.int p1)]))) (fun _ k => XS.iloadN X147.here hx rfl (hb hby at_229) rfl k) ?_
                refine OGoal.mp (S' := (T145.setTop (mkF m 231 #[.val (.int p1), .val (.int p2), .val (.ref a14), .val (.int (1 : Int32)), .val (.int (1 : Int32)), .val (.int (1 : Int32)), .val (.int (3 : Int32)), .val (.int (1 : Int32)), .unset] [(.int (4 : Int32)), (.int p1)]))) (fun _ k => XS.iconst X147.here hx rfl (hb hby at_230) k) ?_
                have hd155 : (4 : Int32) < p1 := mLt (by omega)
                refine OGoal.mp (S' := (T145.setTop (mkF m 234 #[.val (.int p1), .val (.int p2), .val (.ref a14), .val (.int (1 : Int32)), .val (.int (1 : Int32)), .val (.int (1 : Int32)), .val (.int (3 : Int32)), .val (.int (1 : Int32)), .unset] []))) (fun _ k => XS.icmpNo X147.here hx rfl (hb hby at_231) rfl (XT.ii_le_f hd155) k) ?_
                refine OGoal.mp (S' := (T145.setTop (mkF m 235 #[.val (.int p1), .val (.int p2), .val (.ref a14), .val (.int (1 : Int32)), .val (.int (1 : Int32)), .val (.int (1 : Int32)), .val (.int (3 : Int32)), .val (.int (1 : Int32)), .unset] [(.int (1 : Int32))]))) (fun _ k => XS.iconst X147.here hx rfl (hb hby at_234) k) ?_
                refine OGoal.mp (S' := (T145.setTop (mkF m 239 #[.val (.int p1), .val (.int p2), .val (.ref a14), .val (.int (1 : Int32)), .val (.int (1 : Int32)), .val (.int (1 : Int32)), .val (.int (3 : Int32)), .val (.int (1 : Int32)), .unset] [(.int (1 : Int32))]))) (fun _ k => XS.goto X147.here hx rfl (pc0 := 235) (pc' := 239) rfl (hb hby at_235) (by decide) (by decide) k) ?_
                refine OGoal.mp (S' := (T145.setTop (mkF m 241 #[.val (.int p1), .val (.int p2), .val (.ref a14), .val (.int (1 : Int32)), .val (.int (1 : Int32)), .val (.int (1 : Int32)), .val (.int (3 : Int32)), .val (.int (1 : Int32)), .val (.int (1 : Int32))] []))) (fun _ k => XS.istore X147.here hx rfl (hb hby at_239) rfl (l' := #[.val (.int p1), .val (.int p2), .val (.ref a14), .val (.int (1 : Int32)), .val (.int (1 : Int32)), .val (.int (1 : Int32)), .val (.int (3 : Int32)), .val (.int (1 : Int32)), .val (.int (1 : Int32))]) rfl k) ?_
                refine OGoal.mp (S' := (T145.setTop (mkF m 243 #[.val (.int p1), .val (.int p2), .val (.ref a14), .val (.int (1 : Int32)), .val (.int (1 : Int32)), .val (.int (1 : Int32)), .val (.int (3 : Int32)), .val (.int (1 : Int32)), .val (.int (1 : Int32))] [(.int (1 : Int32))]))) (fun _ k => XS.iload X147.here hx rfl (hb hby at_241) rfl k) ?_
                refine OGoal.mp (S' := (T145.setTop (mkF m 245 #[.val (.int p1), .val (.int p2), .val (.ref a14), .val (.int (1 : Int32)), .val (.int (1 : Int32)), .val (.int (1 : Int32)), .val (.int (3 : Int32)), .val (.int (1 : Int32)), .val (.int (1 : Int32))] [(.int (1 : Int32)), (.int (1 : Int32))]))) (fun _ k => XS.iload X147.here hx rfl (hb hby at_243) rfl k) ?_
                have hd156 : (1 : Int32) = (1 : Int32) := mEq (by omega)
                refine OGoal.mp (S' := (T145.setTop (mkF m 250 #[.val (.int p1), .val (.int p2), .val (.ref a14), .val (.int (1 : Int32)), .val (.int (1 : Int32)), .val (.int (1 : Int32)), .val (.int (3 : Int32)), .val (.int (1 : Int32)), .val (.int (1 : Int32))] []))) (fun _ k => XS.icmpYes X147.here hx rfl (pc0 := 245) (pc' := 250) rfl (hb hby at_245) rfl (XT.ii_eq_t hd156) (by decide) (by decide) k) ?_
                refine OGoal.mp (S' := (T145.setTop (mkF m 252 #[.val (.int p1), .val (.int p2), .val (.ref a14), .val (.int (1 : Int32)), .val (.int (1 : Int32)), .val (.int (1 : Int32)), .val (.int (3 : Int32)), .val (.int (1 : Int32)), .val (.int (1 : Int32))] [(.int (1 : Int32))]))) (fun _ k => XS.iload X147.here hx rfl (hb hby at_250) rfl k) ?_
                have hd157 : ¬ ((1 : Int32) = 0) := mNe (by omega)
                refine OGoal.mp (S' := (T145.setTop (mkF m 267 #[.val (.int p1), .val (.int p2), .val (.ref a14), .val (.int (1 : Int32)), .val (.int (1 : Int32)), .val (.int (1 : Int32)), .val (.int (3 : Int32)), .val (.int (1 : Int32)), .val (.int (1 : Int32))] []))) (fun _ k => XS.ifYes X147.here hx rfl (pc0 := 252) (pc' := 267) rfl (hb hby at_252) rfl (XT.i0_ne_t hd157) (by decide) (by decide) k) ?_
                refine OGoal.mp (S' := (T145.setTop (mkF m 268 #[.val (.int p1), .val (.int p2), .val (.ref a14), .val (.int (1 : Int32)), .val (.int (1 : Int32)), .val (.int (1 : Int32)), .val (.int (3 : Int32)), .val (.int (1 : Int32)), .val (.int (1 : Int32))] [(.int (1 : Int32))]))) (fun _ k => XS.iconst X147.here hx rfl (hb hby at_267) k) ?_
                refine OGoal.mp (S' := (T145.setTop (mkF m 272 #[.val (.int p1), .val (.int p2), .val (.ref a14), .val (.int (1 : Int32)), .val (.int (1 : Int32)), .val (.int (1 : Int32)), .val (.int (3 : Int32)), .val (.int (1 : Int32)), .val (.int (1 : Int32))] [(.int (1 : Int32))]))) (fun _ k => XS.goto X147.here hx rfl (pc0 := 268) (pc' := 272) rfl (hb hby at_268) (by decide) (by decide) k) ?_
                refine oRetZ X147 hx hlk hret (Or.inr rfl) (hb hby at_272) ?_ (by decide) (by decide)
                exact ⟨rfl, N151⟩
              · have g158 := hc141
                have k159 : q124.toInt = (p1).toInt - 1 := by rw [t132]; exact own_q_r (Int.not_le.mp hc141)
                show OGoal p e below s _ _ _ (T126.setTop (mkF m 213 #[.val (.int p1), .val (.int p2), .val (.ref a14), .val (.int (1 : Int32)), .val (.int (1 : Int32)), .val (.int (1 : Int32)), .val (.int (3 : Int32)), .unset, .unset] []))
                refine OGoal.mp (S' := (T126.setTop (mkF m 214 #[.val (.int p1), .val (.int p2), .val (.ref a14), .val (.int (1 : Int32)), .val (.int (1 : Int32)), .val (.int (1 : Int32)), .val (.int (3 : Int32)), .unset, .unset] [(.ref a14)]))) (fun _ k => XS.aloadN X128.here hx rfl (hb hby at_213) rfl rfl k) ?_
                refine oCallV (y := (⟨"com/example/stepwise_medians/stepwisemedians/engine/LeadingRun", "isOpen", "()Z"⟩ : MethodName)) (z := (⟨"com/example/stepwise_medians/stepwisemedians/engine/LeadingRun", "isOpen", "()Z"⟩ : MethodName)) X128 hx hZ hown (hw _ (List.mem_of_getElem? (i := 11) rfl)) (hw _ (List.mem_of_getElem? (i := 12) rfl)) (hw _ (List.mem_of_getElem? (i := 14) rfl)) (hw _ (List.mem_of_getElem? (i := 13) rfl)) (hw _ (List.mem_of_getElem? (i := 2) rfl)) (hw _ (List.mem_of_getElem? (i := 15) rfl)) (by decide) (rmO l Z a0 hw a14 p123 p1 T126.heap n0 Z140 F136 F135) rfl E134 [] [] rfl rfl (by rw [hml]; rfl) (notFace_of_selects (args := #[]) (mvT hZ (hw _ (List.mem_of_getElem? (i := 14) rfl)))) (lenOf own_pd___Z rfl) 0 (Nat.le_of_eq rfl) (by decide) (by decide) (by decide) (by decide) (hb hby at_214) ?_
                intro v160 T161 L162 X163 q164
                obtain ⟨rfl, N165, e166⟩ := q164
                have N167 := Fr.app N139 N165
                show OGoal p e below s _ _ _ (T161.setTop (mkF m 217 #[.val (.int p1), .val (.int p2), .val (.ref a14), .val (.int (1 : Int32)), .val (.int (1 : Int32)), .val (.int (1 : Int32)), .val (.int (3 : Int32)), .unset, .unset] [(.int (if p123 < p1 then (1 : Int32) else 0))]))
                by_cases hc168 : p123 < p1
                · rw [if_pos hc168]
                  have g169 := oLt hc168
                  show OGoal p e below s _ _ _ (T161.setTop (mkF m 217 #[.val (.int p1), .val (.int p2), .val (.ref a14), .val (.int (1 : Int32)), .val (.int (1 : Int32)), .val (.int (1 : Int32)), .val (.int (3 : Int32)), .unset, .unset] [(.int (1 : Int32))]))
                  refine OGoal.mp (S' := (T161.setTop (mkF m 219 #[.val (.int p1), .val (.int p2), .val (.ref a14), .val (.int (1 : Int32)), .val (.int (1 : Int32)), .val (.int (1 : Int32)), .val (.int (3 : Int32)), .val (.int (1 : Int32)), .unset] []))) (fun _ k => XS.istore X163.here hx rfl (hb hby at_217) rfl (l' := #[.val (.int p1), .val (.int p2), .val (.ref a14), .val (.int (1 : Int32)), .val (.int (1 : Int32)), .val (.int (1 : Int32)), .val (.int (3 : Int32)), .val (.int (1 : Int32)), .unset]) rfl k) ?_
                  refine OGoal.mp (S' := (T161.setTop (mkF m 220 #[.val (.int p1), .val (.int p2), .val (.ref a14), .val (.int (1 : Int32)), .val (.int (1 : Int32)), .val (.int (1 : Int32)), .val (.int (3 : Int32)), .val (.int (1 : Int32)), .unset] [(.int p1)]))) (fun _ k => XS.iloadN X163.here hx rfl (hb hby at_219) rfl k) ?_
                  refine OGoal.mp (S' := (T161.setTop (mkF m 221 #[.val (.int p1), .val (.int p2), .val (.ref a14), .val (.int (1 : Int32)), .val (.int (1 : Int32)), .val (.int (1 : Int32)), .val (.int (3 : Int32)), .val (.int (1 : Int32)), .unset] [(.int (3 : Int32)), (.int p1)]))) (fun _ k => XS.iconst X163.here hx rfl (hb hby at_220) k) ?_
                  have hd170 : (3 : Int32) < p1 := mLt (by omega)
                  refine OGoal.mp (S' := (T161.setTop (mkF m 224 #[.val (.int p1), .val (.int p2), .val (.ref a14), .val (.int (1 : Int32)), .val (.int (1 : Int32)), .val (.int (1 : Int32)), .val (.int (3 : Int32)), .val (.int (1 : Int32)), .unset] []))) (fun _ k => XS.icmpNo X163.here hx rfl (hb hby at_221) rfl (XT.ii_le_f hd170) k) ?_
                  refine OGoal.mp (S' := (T161.setTop (mkF m 225 #[.val (.int p1), .val (.int p2), .val (.ref a14), .val (.int (1 : Int32)), .val (.int (1 : Int32)), .val (.int (1 : Int32)), .val (.int (3 : Int32)), .val (.int (1 : Int32)), .unset] [(.int p2)]))) (fun _ k => XS.iloadN X163.here hx rfl (hb hby at_224) rfl k) ?_
                  refine OGoal.mp (S' := (T161.setTop (mkF m 226 #[.val (.int p1), .val (.int p2), .val (.ref a14), .val (.int (1 : Int32)), .val (.int (1 : Int32)), .val (.int (1 : Int32)), .val (.int (3 : Int32)), .val (.int (1 : Int32)), .unset] [(.int (4 : Int32)), (.int p2)]))) (fun _ k => XS.iconst X163.here hx rfl (hb hby at_225) k) ?_
                  have hd171 : ¬ (p2 < (4 : Int32)) := mNlt (by omega)
                  refine OGoal.mp (S' := (T161.setTop (mkF m 229 #[.val (.int p1), .val (.int p2), .val (.ref a14), .val (.int (1 : Int32)), .val (.int (1 : Int32)), .val (.int (1 : Int32)), .val (.int (3 : Int32)), .val (.int (1 : Int32)), .unset] []))) (fun _ k => XS.icmpNo X163.here hx rfl (hb hby at_226) rfl (XT.ii_lt_f hd171) k) ?_
                  refine OGoal.mp (S' := (T161.setTop (mkF m 230 #[.val (.int p1), .val (.int p2), .val (.ref a14), .val (.int (1 : Int32)), .val (.int (1 : Int32)), .val (.int (1 : Int32)), .val (.int (3 : Int32)), .val (.int (1 : Int32)), .unset] [(.int p1)]))) (fun _ k => XS.iloadN X163.here hx rfl (hb hby at_229) rfl k) ?_
                  refine OGoal.mp (S' := (T161.setTop (mkF m 231 #[.val (.int p1), .val (.int p2), .val (.ref a14), .val (.int (1 : Int32)), .val (.int (1 : Int32)), .val (.int (1 : Int32)), .val (.int (3 : Int32)), .val (.int (1 : Int32)), .unset] [(.int (4 : Int32)), (.int p1)]))) (fun _ k => XS.iconst X163.here hx rfl (hb hby at_230) k) ?_
                  have hd172 : (4 : Int32) < p1 := mLt (by omega)
                  refine OGoal.mp (S' := (T161.setTop (mkF m 234 #[.val (.int p1), .val (.int p2), .val (.ref a14), .val (.int (1 : Int32)), .val (.int (1 : Int32)), .val (.int (1 : Int32)), .val (.int (3 : Int32)), .val (.int (1 : Int32)), .unset] []))) (fun _ k => XS.icmpNo X163.here hx rfl (hb hby at_231) rfl (XT.ii_le_f hd172) k) ?_
                  refine OGoal.mp (S' := (T161.setTop (mkF m 235 #[.val (.int p1), .val (.int p2), .val (.ref a14), .val (.int (1 : Int32)), .val (.int (1 : Int32)), .val (.int (1 : Int32)), .val (.int (3 : Int32)), .val (.int (1 : Int32)), .unset] [(.int (1 : Int32))]))) (fun _ k => XS.iconst X163.here hx rfl (hb hby at_234) k) ?_
                  refine OGoal.mp (S' := (T161.setTop (mkF m 239 #[.val (.int p1), .val (.int p2), .val (.ref a14), .val (.int (1 : Int32)), .val (.int (1 : Int32)), .val (.int (1 : Int32)), .val (.int (3 : Int32)), .val (.int (1 : Int32)), .unset] [(.int (1 : Int32))]))) (fun _ k => XS.goto X163.here hx rfl (pc0 := 235) (pc' := 239) rfl (hb hby at_235) (by decide) (by decide) k) ?_
                  refine OGoal.mp (S' := (T161.setTop (mkF m 241 #[.val (.int p1), .val (.int p2), .val (.ref a14), .val (.int (1 : Int32)), .val (.int (1 : Int32)), .val (.int (1 : Int32)), .val (.int (3 : Int32)), .val (.int (1 : Int32)), .val (.int (1 : Int32))] []))) (fun _ k => XS.istore X163.here hx rfl (hb hby at_239) rfl (l' := #[.val (.int p1), .val (.int p2), .val (.ref a14), .val (.int (1 : Int32)), .val (.int (1 : Int32)), .val (.int (1 : Int32)), .val (.int (3 : Int32)), .val (.int (1 : Int32)), .val (.int (1 : Int32))]) rfl k) ?_
                  refine OGoal.mp (S' := (T161.setTop (mkF m 243 #[.val (.int p1), .val (.int p2), .val (.ref a14), .val (.int (1 : Int32)), .val (.int (1 : Int32)), .val (.int (1 : Int32)), .val (.int (3 : Int32)), .val (.int (1 : Int32)), .val (.int (1 : Int32))] [(.int (1 : Int32))]))) (fun _ k => XS.iload X163.here hx rfl (hb hby at_241) rfl k) ?_
                  refine OGoal.mp (S' := (T161.setTop (mkF m 245 #[.val (.int p1), .val (.int p2), .val (.ref a14), .val (.int (1 : Int32)), .val (.int (1 : Int32)), .val (.int (1 : Int32)), .val (.int (3 : Int32)), .val (.int (1 : Int32)), .val (.int (1 : Int32))] [(.int (1 : Int32)), (.int (1 : Int32))]))) (fun _ k => XS.iload X163.here hx rfl (hb hby at_243) rfl k) ?_
                  have hd173 : (1 : Int32) = (1 : Int32) := mEq (by omega)
                  refine OGoal.mp (S' := (T161.setTop (mkF m 250 #[.val (.int p1), .val (.int p2), .val (.ref a14), .val (.int (1 : Int32)), .val (.int (1 : Int32)), .val (.int (1 : Int32)), .val (.int (3 : Int32)), .val (.int (1 : Int32)), .val (.int (1 : Int32))] []))) (fun _ k => XS.icmpYes X163.here hx rfl (pc0 := 245) (pc' := 250) rfl (hb hby at_245) rfl (XT.ii_eq_t hd173) (by decide) (by decide) k) ?_
                  refine OGoal.mp (S' := (T161.setTop (mkF m 252 #[.val (.int p1), .val (.int p2), .val (.ref a14), .val (.int (1 : Int32)), .val (.int (1 : Int32)), .val (.int (1 : Int32)), .val (.int (3 : Int32)), .val (.int (1 : Int32)), .val (.int (1 : Int32))] [(.int (1 : Int32))]))) (fun _ k => XS.iload X163.here hx rfl (hb hby at_250) rfl k) ?_
                  have hd174 : ¬ ((1 : Int32) = 0) := mNe (by omega)
                  refine OGoal.mp (S' := (T161.setTop (mkF m 267 #[.val (.int p1), .val (.int p2), .val (.ref a14), .val (.int (1 : Int32)), .val (.int (1 : Int32)), .val (.int (1 : Int32)), .val (.int (3 : Int32)), .val (.int (1 : Int32)), .val (.int (1 : Int32))] []))) (fun _ k => XS.ifYes X163.here hx rfl (pc0 := 252) (pc' := 267) rfl (hb hby at_252) rfl (XT.i0_ne_t hd174) (by decide) (by decide) k) ?_
                  refine OGoal.mp (S' := (T161.setTop (mkF m 268 #[.val (.int p1), .val (.int p2), .val (.ref a14), .val (.int (1 : Int32)), .val (.int (1 : Int32)), .val (.int (1 : Int32)), .val (.int (3 : Int32)), .val (.int (1 : Int32)), .val (.int (1 : Int32))] [(.int (1 : Int32))]))) (fun _ k => XS.iconst X163.here hx rfl (hb hby at_267) k) ?_
                  refine OGoal.mp (S' := (T161.setTop (mkF m 272 #[.val (.int p1), .val (.int p2), .val (.ref a14), .val (.int (1 : Int32)), .val (.int (1 : Int32)), .val (.int (1 : Int32)), .val (.int (3 : Int32)), .val (.int (1 : Int32)), .val (.int (1 : Int32))] [(.int (1 : Int32))]))) (fun _ k => XS.goto X163.here hx rfl (pc0 := 268) (pc' := 272) rfl (hb hby at_268) (by decide) (by decide) k) ?_
                  refine oRetZ X163 hx hlk hret (Or.inr rfl) (hb hby at_272) ?_ (by decide) (by decide)
                  exact ⟨rfl, N167⟩
                · rw [if_neg hc168]
                  have g175 := oNlt hc168
                  show OGoal p e below s _ _ _ (T161.setTop (mkF m 217 #[.val (.int p1), .val (.int p2), .val (.ref a14), .val (.int (1 : Int32)), .val (.int (1 : Int32)), .val (.int (1 : Int32)), .val (.int (3 : Int32)), .unset, .unset] [(.int (0 : Int32))]))
                  refine OGoal.mp (S' := (T161.setTop (mkF m 219 #[.val (.int p1), .val (.int p2), .val (.ref a14), .val (.int (1 : Int32)), .val (.int (1 : Int32)), .val (.int (1 : Int32)), .val (.int (3 : Int32)), .val (.int (0 : Int32)), .unset] []))) (fun _ k => XS.istore X163.here hx rfl (hb hby at_217) rfl (l' := #[.val (.int p1), .val (.int p2), .val (.ref a14), .val (.int (1 : Int32)), .val (.int (1 : Int32)), .val (.int (1 : Int32)), .val (.int (3 : Int32)), .val (.int (0 : Int32)), .unset]) rfl k) ?_
                  refine OGoal.mp (S' := (T161.setTop (mkF m 220 #[.val (.int p1), .val (.int p2), .val (.ref a14), .val (.int (1 : Int32)), .val (.int (1 : Int32)), .val (.int (1 : Int32)), .val (.int (3 : Int32)), .val (.int (0 : Int32)), .unset] [(.int p1)]))) (fun _ k => XS.iloadN X163.here hx rfl (hb hby at_219) rfl k) ?_
                  refine OGoal.mp (S' := (T161.setTop (mkF m 221 #[.val (.int p1), .val (.int p2), .val (.ref a14), .val (.int (1 : Int32)), .val (.int (1 : Int32)), .val (.int (1 : Int32)), .val (.int (3 : Int32)), .val (.int (0 : Int32)), .unset] [(.int (3 : Int32)), (.int p1)]))) (fun _ k => XS.iconst X163.here hx rfl (hb hby at_220) k) ?_
                  have hd176 : (3 : Int32) < p1 := mLt (by omega)
                  refine OGoal.mp (S' := (T161.setTop (mkF m 224 #[.val (.int p1), .val (.int p2), .val (.ref a14), .val (.int (1 : Int32)), .val (.int (1 : Int32)), .val (.int (1 : Int32)), .val (.int (3 : Int32)), .val (.int (0 : Int32)), .unset] []))) (fun _ k => XS.icmpNo X163.here hx rfl (hb hby at_221) rfl (XT.ii_le_f hd176) k) ?_
                  refine OGoal.mp (S' := (T161.setTop (mkF m 225 #[.val (.int p1), .val (.int p2), .val (.ref a14), .val (.int (1 : Int32)), .val (.int (1 : Int32)), .val (.int (1 : Int32)), .val (.int (3 : Int32)), .val (.int (0 : Int32)), .unset] [(.int p2)]))) (fun _ k => XS.iloadN X163.here hx rfl (hb hby at_224) rfl k) ?_
                  refine OGoal.mp (S' := (T161.setTop (mkF m 226 #[.val (.int p1), .val (.int p2), .val (.ref a14), .val (.int (1 : Int32)), .val (.int (1 : Int32)), .val (.int (1 : Int32)), .val (.int (3 : Int32)), .val (.int (0 : Int32)), .unset] [(.int (4 : Int32)), (.int p2)]))) (fun _ k => XS.iconst X163.here hx rfl (hb hby at_225) k) ?_
                  have hd177 : ¬ (p2 < (4 : Int32)) := mNlt (by omega)
                  refine OGoal.mp (S' := (T161.setTop (mkF m 229 #[.val (.int p1), .val (.int p2), .val (.ref a14), .val (.int (1 : Int32)), .val (.int (1 : Int32)), .val (.int (1 : Int32)), .val (.int (3 : Int32)), .val (.int (0 : Int32)), .unset] []))) (fun _ k => XS.icmpNo X163.here hx rfl (hb hby at_226) rfl (XT.ii_lt_f hd177) k) ?_
                  refine OGoal.mp (S' := (T161.setTop (mkF m 230 #[.val (.int p1), .val (.int p2), .val (.ref a14), .val (.int (1 : Int32)), .val (.int (1 : Int32)), .val (.int (1 : Int32)), .val (.int (3 : Int32)), .val (.int (0 : Int32)), .unset] [(.int p1)]))) (fun _ k => XS.iloadN X163.here hx rfl (hb hby at_229) rfl k) ?_
                  refine OGoal.mp (S' := (T161.setTop (mkF m 231 #[.val (.int p1), .val (.int p2), .val (.ref a14), .val (.int (1 : Int32)), .val (.int (1 : Int32)), .val (.int (1 : Int32)), .val (.int (3 : Int32)), .val (.int (0 : Int32)), .unset] [(.int (4 : Int32)), (.int p1)]))) (fun _ k => XS.iconst X163.here hx rfl (hb hby at_230) k) ?_
                  have hd178 : ¬ ((4 : Int32) < p1) := mNlt (by omega)
                  refine OGoal.mp (S' := (T161.setTop (mkF m 238 #[.val (.int p1), .val (.int p2), .val (.ref a14), .val (.int (1 : Int32)), .val (.int (1 : Int32)), .val (.int (1 : Int32)), .val (.int (3 : Int32)), .val (.int (0 : Int32)), .unset] []))) (fun _ k => XS.icmpYes X163.here hx rfl (pc0 := 231) (pc' := 238) rfl (hb hby at_231) rfl (XT.ii_le_t hd178) (by decide) (by decide) k) ?_
                  refine OGoal.mp (S' := (T161.setTop (mkF m 239 #[.val (.int p1), .val (.int p2), .val (.ref a14), .val (.int (1 : Int32)), .val (.int (1 : Int32)), .val (.int (1 : Int32)), .val (.int (3 : Int32)), .val (.int (0 : Int32)), .unset] [(.int (0 : Int32))]))) (fun _ k => XS.iconst X163.here hx rfl (hb hby at_238) k) ?_
                  refine OGoal.mp (S' := (T161.setTop (mkF m 241 #[.val (.int p1), .val (.int p2), .val (.ref a14), .val (.int (1 : Int32)), .val (.int (1 : Int32)), .val (.int (1 : Int32)), .val (.int (3 : Int32)), .val (.int (0 : Int32)), .val (.int (0 : Int32))] []))) (fun _ k => XS.istore X163.here hx rfl (hb hby at_239) rfl (l' := #[.val (.int p1), .val (.int p2), .val (.ref a14), .val (.int (1 : Int32)), .val (.int (1 : Int32)), .val (.int (1 : Int32)), .val (.int (3 : Int32)), .val (.int (0 : Int32)), .val (.int (0 : Int32))]) rfl k) ?_
                  refine OGoal.mp (S' := (T161.setTop (mkF m 243 #[.val (.int p1), .val (.int p2), .val (.ref a14), .val (.int (1 : Int32)), .val (.int (1 : Int32)), .val (.int (1 : Int32)), .val (.int (3 : Int32)), .val (.int (0 : Int32)), .val (.int (0 : Int32))] [(.int (0 : Int32))]))) (fun _ k => XS.iload X163.here hx rfl (hb hby at_241) rfl k) ?_
                  refine OGoal.mp (S' := (T161.setTop (mkF m 245 #[.val (.int p1), .val (.int p2), .val (.ref a14), .val (.int (1 : Int32)), .val (.int (1 : Int32)), .val (.int (1 : Int32)), .val (.int (3 : Int32)), .val (.int (0 : Int32)), .val (.int (0 : Int32))] [(.int (0 : Int32)), (.int (0 : Int32))]))) (fun _ k => XS.iload X163.here hx rfl (hb hby at_243) rfl k) ?_
                  have hd179 : (0 : Int32) = (0 : Int32) := mEq (by omega)
                  refine OGoal.mp (S' := (T161.setTop (mkF m 250 #[.val (.int p1), .val (.int p2), .val (.ref a14), .val (.int (1 : Int32)), .val (.int (1 : Int32)), .val (.int (1 : Int32)), .val (.int (3 : Int32)), .val (.int (0 : Int32)), .val (.int (0 : Int32))] []))) (fun _ k => XS.icmpYes X163.here hx rfl (pc0 := 245) (pc' := 250) rfl (hb hby at_245) rfl (XT.ii_eq_t hd179) (by decide) (by decide) k) ?_
                  refine OGoal.mp (S' := (T161.setTop (mkF m 252 #[.val (.int p1), .val (.int p2), .val (.ref a14), .val (.int (1 : Int32)), .val (.int (1 : Int32)), .val (.int (1 : Int32)), .val (.int (3 : Int32)), .val (.int (0 : Int32)), .val (.int (0 : Int32))] [(.int (0 : Int32))]))) (fun _ k => XS.iload X163.here hx rfl (hb hby at_250) rfl k) ?_
                  have hd180 : (0 : Int32) = 0 := mEq (by omega)
                  refine OGoal.mp (S' := (T161.setTop (mkF m 255 #[.val (.int p1), .val (.int p2), .val (.ref a14), .val (.int (1 : Int32)), .val (.int (1 : Int32)), .val (.int (1 : Int32)), .val (.int (3 : Int32)), .val (.int (0 : Int32)), .val (.int (0 : Int32))] []))) (fun _ k => XS.ifNo X163.here hx rfl (hb hby at_252) rfl (XT.i0_ne_f hd180) k) ?_
                  refine OGoal.mp (S' := (T161.setTop (mkF m 256 #[.val (.int p1), .val (.int p2), .val (.ref a14), .val (.int (1 : Int32)), .val (.int (1 : Int32)), .val (.int (1 : Int32)), .val (.int (3 : Int32)), .val (.int (0 : Int32)), .val (.int (0 : Int32))] [(.ref a14)]))) (fun _ k => XS.aloadN X163.here hx rfl (hb hby at_255) rfl rfl k) ?_
                  refine oCallV (y := (⟨"com/example/stepwise_medians/stepwisemedians/engine/LeadingRun", "length", "()I"⟩ : MethodName)) (z := (⟨"com/example/stepwise_medians/stepwisemedians/engine/LeadingRun", "length", "()I"⟩ : MethodName)) X163 hx hZ hown (hw _ (List.mem_of_getElem? (i := 18) rfl)) (hw _ (List.mem_of_getElem? (i := 19) rfl)) (hw _ (List.mem_of_getElem? (i := 21) rfl)) (hw _ (List.mem_of_getElem? (i := 20) rfl)) (hw _ (List.mem_of_getElem? (i := 2) rfl)) (hw _ (List.mem_of_getElem? (i := 22) rfl)) (by decide) (rmL l Z a0 hw a14 p123 T126.heap n0 Z140 F136) e166 E134 [] [] rfl rfl (by rw [hml]; rfl) (notFace_of_selects (args := #[]) (mvT hZ (hw _ (List.mem_of_getElem? (i := 21) rfl)))) (lenOf own_pd___I rfl) 0 (Nat.le_of_eq rfl) (by decide) (by decide) (by decide) (by decide) (hb hby at_256) ?_
                  intro v181 T182 L183 X184 q185
                  obtain ⟨rfl, N186, e187⟩ := q185
                  have N188 := Fr.app N167 N186
                  show OGoal p e below s _ _ _ (T182.setTop (mkF m 259 #[.val (.int p1), .val (.int p2), .val (.ref a14), .val (.int (1 : Int32)), .val (.int (1 : Int32)), .val (.int (1 : Int32)), .val (.int (3 : Int32)), .val (.int (0 : Int32)), .val (.int (0 : Int32))] [(.int p123)]))
                  refine OGoal.mp (S' := (T182.setTop (mkF m 260 #[.val (.int p1), .val (.int p2), .val (.ref a14), .val (.int (1 : Int32)), .val (.int (1 : Int32)), .val (.int (1 : Int32)), .val (.int (3 : Int32)), .val (.int (0 : Int32)), .val (.int (0 : Int32))] [(.int p2), (.int p123)]))) (fun _ k => XS.iloadN X184.here hx rfl (hb hby at_259) rfl k) ?_
                  refine OGoal.mp (S' := (T182.setTop (mkF m 261 #[.val (.int p1), .val (.int p2), .val (.ref a14), .val (.int (1 : Int32)), .val (.int (1 : Int32)), .val (.int (1 : Int32)), .val (.int (3 : Int32)), .val (.int (0 : Int32)), .val (.int (0 : Int32))] [(.int p1), (.int p2), (.int p123)]))) (fun _ k => XS.iloadN X184.here hx rfl (hb hby at_260) rfl k) ?_
                  refine oCallS (y := (⟨"java/lang/Math", "min", "(II)I"⟩ : MethodName)) X184 hx hZ hown (hw _ (List.mem_of_getElem? (i := 36) rfl)) (hw _ (List.mem_of_getElem? (i := 33) rfl)) (hw _ (List.mem_of_getElem? (i := 34) rfl)) (hw _ (List.mem_of_getElem? (i := 35) rfl)) (by decide) (rmM l Z a0 hw p2 p1 T126.heap n0 Z140) e187 [(.int p2), (.int p1)] [(.int p123)] rfl rfl (by rw [hml]; rfl) (lenOf own_pd__II_I rfl) 1 (Nat.le_of_eq rfl) (by decide) (by decide) (by decide) (by decide) (hb hby at_261) ?_
                  intro v189 T190 L191 X192 q193
                  obtain ⟨rfl, N194, e195⟩ := q193
                  have N196 := Fr.app N188 N194
                  show OGoal p e below s _ _ _ (T190.setTop (mkF m 264 #[.val (.int p1), .val (.int p2), .val (.ref a14), .val (.int (1 : Int32)), .val (.int (1 : Int32)), .val (.int (1 : Int32)), .val (.int (3 : Int32)), .val (.int (0 : Int32)), .val (.int (0 : Int32))] [(.int (own_min p2 p1)), (.int p123)]))
                  by_cases hc197 : p1 < p2
                  · have g198 := oLt hc197
                    rw [own_min_l hc197]
                    show OGoal p e below s _ _ _ (T190.setTop (mkF m 264 #[.val (.int p1), .val (.int p2), .val (.ref a14), .val (.int (1 : Int32)), .val (.int (1 : Int32)), .val (.int (1 : Int32)), .val (.int (3 : Int32)), .val (.int (0 : Int32)), .val (.int (0 : Int32))] [(.int p1), (.int p123)]))
                    have hd199 : p123 = p1 := mEq (by omega)
                    refine OGoal.mp (S' := (T190.setTop (mkF m 267 #[.val (.int p1), .val (.int p2), .val (.ref a14), .val (.int (1 : Int32)), .val (.int (1 : Int32)), .val (.int (1 : Int32)), .val (.int (3 : Int32)), .val (.int (0 : Int32)), .val (.int (0 : Int32))] []))) (fun _ k => XS.icmpNo X192.here hx rfl (hb hby at_264) rfl (XT.ii_ne_f hd199) k) ?_
                    refine OGoal.mp (S' := (T190.setTop (mkF m 268 #[.val (.int p1), .val (.int p2), .val (.ref a14), .val (.int (1 : Int32)), .val (.int (1 : Int32)), .val (.int (1 : Int32)), .val (.int (3 : Int32)), .val (.int (0 : Int32)), .val (.int (0 : Int32))] [(.int (1 : Int32))]))) (fun _ k => XS.iconst X192.here hx rfl (hb hby at_267) k) ?_
                    refine OGoal.mp (S' := (T190.setTop (mkF m 272 #[.val (.int p1), .val (.int p2), .val (.ref a14), .val (.int (1 : Int32)), .val (.int (1 : Int32)), .val (.int (1 : Int32)), .val (.int (3 : Int32)), .val (.int (0 : Int32)), .val (.int (0 : Int32))] [(.int (1 : Int32))]))) (fun _ k => XS.goto X192.here hx rfl (pc0 := 268) (pc' := 272) rfl (hb hby at_268) (by decide) (by decide) k) ?_
                    refine oRetZ X192 hx hlk hret (Or.inr rfl) (hb hby at_272) ?_ (by decide) (by decide)
                    exact ⟨rfl, N196⟩
                  · have g200 := oNlt hc197
                    rw [own_min_r hc197]
                    show OGoal p e below s _ _ _ (T190.setTop (mkF m 264 #[.val (.int p1), .val (.int p2), .val (.ref a14), .val (.int (1 : Int32)), .val (.int (1 : Int32)), .val (.int (1 : Int32)), .val (.int (3 : Int32)), .val (.int (0 : Int32)), .val (.int (0 : Int32))] [(.int p2), (.int p123)]))
                    have hd201 : p123 = p2 := mEq (by omega)
                    refine OGoal.mp (S' := (T190.setTop (mkF m 267 #[.val (.int p1), .val (.int p2), .val (.ref a14), .val (.int (1 : Int32)), .val (.int (1 : Int32)), .val (.int (1 : Int32)), .val (.int (3 : Int32)), .val (.int (0 : Int32)), .val (.int (0 : Int32))] []))) (fun _ k => XS.icmpNo X192.here hx rfl (hb hby at_264) rfl (XT.ii_ne_f hd201) k) ?_
                    refine OGoal.mp (S' := (T190.setTop (mkF m 268 #[.val (.int p1), .val (.int p2), .val (.ref a14), .val (.int (1 : Int32)), .val (.int (1 : Int32)), .val (.int (1 : Int32)), .val (.int (3 : Int32)), .val (.int (0 : Int32)), .val (.int (0 : Int32))] [(.int (1 : Int32))]))) (fun _ k => XS.iconst X192.here hx rfl (hb hby at_267) k) ?_
                    refine OGoal.mp (S' := (T190.setTop (mkF m 272 #[.val (.int p1), .val (.int p2), .val (.ref a14), .val (.int (1 : Int32)), .val (.int (1 : Int32)), .val (.int (1 : Int32)), .val (.int (3 : Int32)), .val (.int (0 : Int32)), .val (.int (0 : Int32))] [(.int (1 : Int32))]))) (fun _ k => XS.goto X192.here hx rfl (pc0 := 268) (pc' := 272) rfl (hb hby at_268) (by decide) (by decide) k) ?_
                    refine oRetZ X192 hx hlk hret (Or.inr rfl) (hb hby at_272) ?_ (by decide) (by decide)
                    exact ⟨rfl, N196⟩
            · have g202 := oNlt hc121
              refine OGoal.mp (S' := (T108.setTop (mkF m 209 #[.val (.int p1), .val (.int p2), .val (.ref a14), .val (.int (1 : Int32)), .val (.int (1 : Int32)), .val (.int (1 : Int32)), .val (.int (3 : Int32)), .unset, .unset] [(.ref a14)]))) (fun _ k => XS.icmpYes X110.here hx rfl (pc0 := 202) (pc' := 209) rfl (hb hby at_202) rfl (XT.ii_ge_t hc121) (by decide) (by decide) k) ?_
              refine OGoal.mp (S' := (T108.setTop (mkF m 210 #[.val (.int p1), .val (.int p2), .val (.ref a14), .val (.int (1 : Int32)), .val (.int (1 : Int32)), .val (.int (1 : Int32)), .val (.int (3 : Int32)), .unset, .unset] [(.int (0 : Int32)), (.ref a14)]))) (fun _ k => XS.iconst X110.here hx rfl (hb hby at_209) k) ?_
              refine oCallV (y := (⟨"com/example/stepwise_medians/stepwisemedians/engine/LeadingRun", "record", "(Z)V"⟩ : MethodName)) (z := (⟨"com/example/stepwise_medians/stepwisemedians/engine/LeadingRun", "record", "(Z)V"⟩ : MethodName)) X110 hx hZ hown (hw _ (List.mem_of_getElem? (i := 23) rfl)) (hw _ (List.mem_of_getElem? (i := 24) rfl)) (hw _ (List.mem_of_getElem? (i := 26) rfl)) (hw _ (List.mem_of_getElem? (i := 25) rfl)) (hw _ (List.mem_of_getElem? (i := 2) rfl)) (hw _ (List.mem_of_getElem? (i := 27) rfl)) (by decide) (rmR0 l Z a0 hw a14 p1 p86 q87 T89.heap n0 Z103 E97 F98 F99 F100 F101 ab21) e113 E97 [(.int (0 : Int32))] [] rfl rfl (by rw [hml]; rfl) (notFace_of_selects (args := #[]) (mvT hZ (hw _ (List.mem_of_getElem? (i := 26) rfl)))) (lenOf own_pd__Z_V rfl) 0 (Nat.le_of_eq rfl) (by decide) (by decide) (by decide) (by decide) (hb hby at_210) ?_
              intro v204 T205 L206 X207 q208
              obtain ⟨q203, q209⟩ := q208
              obtain ⟨rfl, N210, E211, F212, F213, F214, F215⟩ := q209
              have N216 := Fr.app N114 N210
              have Z217 : n0 ≤ T205.heap.size := Nat.le_trans ab21 (Nat.le_of_lt E211.lt)
              show OGoal p e below s _ _ _ (T205.setTop (mkF m 213 #[.val (.int p1), .val (.int p2), .val (.ref a14), .val (.int (1 : Int32)), .val (.int (1 : Int32)), .val (.int (1 : Int32)), .val (.int (3 : Int32)), .unset, .unset] []))
              refine OGoal.mp (S' := (T205.setTop (mkF m 214 #[.val (.int p1), .val (.int p2), .val (.ref a14), .val (.int (1 : Int32)), .val (.int (1 : Int32)), .val (.int (1 : Int32)), .val (.int (3 : Int32)), .unset, .unset] [(.ref a14)]))) (fun _ k => XS.aloadN X207.here hx rfl (hb hby at_213) rfl rfl k) ?_
              refine oCallV (y := (⟨"com/example/stepwise_medians/stepwisemedians/engine/LeadingRun", "isOpen", "()Z"⟩ : MethodName)) (z := (⟨"com/example/stepwise_medians/stepwisemedians/engine/LeadingRun", "isOpen", "()Z"⟩ : MethodName)) X207 hx hZ hown (hw _ (List.mem_of_getElem? (i := 11) rfl)) (hw _ (List.mem_of_getElem? (i := 12) rfl)) (hw _ (List.mem_of_getElem? (i := 14) rfl)) (hw _ (List.mem_of_getElem? (i := 13) rfl)) (hw _ (List.mem_of_getElem? (i := 2) rfl)) (hw _ (List.mem_of_getElem? (i := 15) rfl)) (by decide) (rmO l Z a0 hw a14 p86 q87 T205.heap n0 Z217 F213 F212) rfl E211 [] [] rfl rfl (by rw [hml]; rfl) (notFace_of_selects (args := #[]) (mvT hZ (hw _ (List.mem_of_getElem? (i := 14) rfl)))) (lenOf own_pd___Z rfl) 0 (Nat.le_of_eq rfl) (by decide) (by decide) (by decide) (by decide) (hb hby at_214) ?_
              intro v218 T219 L220 X221 q222
              obtain ⟨rfl, N223, e224⟩ := q222
              have N225 := Fr.app N216 N223
              show OGoal p e below s _ _ _ (T219.setTop (mkF m 217 #[.val (.int p1), .val (.int p2), .val (.ref a14), .val (.int (1 : Int32)), .val (.int (1 : Int32)), .val (.int (1 : Int32)), .val (.int (3 : Int32)), .unset, .unset] [(.int (if p86 < q87 then (1 : Int32) else 0))]))
              have hd226 : p86 < q87 := mLt (by omega)
              rw [if_pos hd226]
              show OGoal p e below s _ _ _ (T219.setTop (mkF m 217 #[.val (.int p1), .val (.int p2), .val (.ref a14), .val (.int (1 : Int32)), .val (.int (1 : Int32)), .val (.int (1 : Int32)), .val (.int (3 : Int32)), .unset, .unset] [(.int (1 : Int32))]))
              refine OGoal.mp (S' := (T219.setTop (mkF m 219 #[.val (.int p1), .val (.int p2), .val (.ref a14), .val (.int (1 : Int32)), .val (.int (1 : Int32)), .val (.int (1 : Int32)), .val (.int (3 : Int32)), .val (.int (1 : Int32)), .unset] []))) (fun _ k => XS.istore X221.here hx rfl (hb hby at_217) rfl (l' := #[.val (.int p1), .val (.int p2), .val (.ref a14), .val (.int (1 : Int32)), .val (.int (1 : Int32)), .val (.int (1 : Int32)), .val (.int (3 : Int32)), .val (.int (1 : Int32)), .unset]) rfl k) ?_
              refine OGoal.mp (S' := (T219.setTop (mkF m 220 #[.val (.int p1), .val (.int p2), .val (.ref a14), .val (.int (1 : Int32)), .val (.int (1 : Int32)), .val (.int (1 : Int32)), .val (.int (3 : Int32)), .val (.int (1 : Int32)), .unset] [(.int p1)]))) (fun _ k => XS.iloadN X221.here hx rfl (hb hby at_219) rfl k) ?_
              refine OGoal.mp (S' := (T219.setTop (mkF m 221 #[.val (.int p1), .val (.int p2), .val (.ref a14), .val (.int (1 : Int32)), .val (.int (1 : Int32)), .val (.int (1 : Int32)), .val (.int (3 : Int32)), .val (.int (1 : Int32)), .unset] [(.int (3 : Int32)), (.int p1)]))) (fun _ k => XS.iconst X221.here hx rfl (hb hby at_220) k) ?_
              have hd227 : (3 : Int32) < p1 := mLt (by omega)
              refine OGoal.mp (S' := (T219.setTop (mkF m 224 #[.val (.int p1), .val (.int p2), .val (.ref a14), .val (.int (1 : Int32)), .val (.int (1 : Int32)), .val (.int (1 : Int32)), .val (.int (3 : Int32)), .val (.int (1 : Int32)), .unset] []))) (fun _ k => XS.icmpNo X221.here hx rfl (hb hby at_221) rfl (XT.ii_le_f hd227) k) ?_
              refine OGoal.mp (S' := (T219.setTop (mkF m 225 #[.val (.int p1), .val (.int p2), .val (.ref a14), .val (.int (1 : Int32)), .val (.int (1 : Int32)), .val (.int (1 : Int32)), .val (.int (3 : Int32)), .val (.int (1 : Int32)), .unset] [(.int p2)]))) (fun _ k => XS.iloadN X221.here hx rfl (hb hby at_224) rfl k) ?_
              refine OGoal.mp (S' := (T219.setTop (mkF m 226 #[.val (.int p1), .val (.int p2), .val (.ref a14), .val (.int (1 : Int32)), .val (.int (1 : Int32)), .val (.int (1 : Int32)), .val (.int (3 : Int32)), .val (.int (1 : Int32)), .unset] [(.int (4 : Int32)), (.int p2)]))) (fun _ k => XS.iconst X221.here hx rfl (hb hby at_225) k) ?_
              have hd228 : p2 < (4 : Int32) := mLt (by omega)
              refine OGoal.mp (S' := (T219.setTop (mkF m 234 #[.val (.int p1), .val (.int p2), .val (.ref a14), .val (.int (1 : Int32)), .val (.int (1 : Int32)), .val (.int (1 : Int32)), .val (.int (3 : Int32)), .val (.int (1 : Int32)), .unset] []))) (fun _ k => XS.icmpYes X221.here hx rfl (pc0 := 226) (pc' := 234) rfl (hb hby at_226) rfl (XT.ii_lt_t hd228) (by decide) (by decide) k) ?_
              refine OGoal.mp (S' := (T219.setTop (mkF m 235 #[.val (.int p1), .val (.int p2), .val (.ref a14), .val (.int (1 : Int32)), .val (.int (1 : Int32)), .val (.int (1 : Int32)), .val (.int (3 : Int32)), .val (.int (1 : Int32)), .unset] [(.int (1 : Int32))]))) (fun _ k => XS.iconst X221.here hx rfl (hb hby at_234) k) ?_
              refine OGoal.mp (S' := (T219.setTop (mkF m 239 #[.val (.int p1), .val (.int p2), .val (.ref a14), .val (.int (1 : Int32)), .val (.int (1 : Int32)), .val (.int (1 : Int32)), .val (.int (3 : Int32)), .val (.int (1 : Int32)), .unset] [(.int (1 : Int32))]))) (fun _ k => XS.goto X221.here hx rfl (pc0 := 235) (pc' := 239) rfl (hb hby at_235) (by decide) (by decide) k) ?_
              refine OGoal.mp (S' := (T219.setTop (mkF m 241 #[.val (.int p1), .val (.int p2), .val (.ref a14), .val (.int (1 : Int32)), .val (.int (1 : Int32)), .val (.int (1 : Int32)), .val (.int (3 : Int32)), .val (.int (1 : Int32)), .val (.int (1 : Int32))] []))) (fun _ k => XS.istore X221.here hx rfl (hb hby at_239) rfl (l' := #[.val (.int p1), .val (.int p2), .val (.ref a14), .val (.int (1 : Int32)), .val (.int (1 : Int32)), .val (.int (1 : Int32)), .val (.int (3 : Int32)), .val (.int (1 : Int32)), .val (.int (1 : Int32))]) rfl k) ?_
              refine OGoal.mp (S' := (T219.setTop (mkF m 243 #[.val (.int p1), .val (.int p2), .val (.ref a14), .val (.int (1 : Int32)), .val (.int (1 : Int32)), .val (.int (1 : Int32)), .val (.int (3 : Int32)), .val (.int (1 : Int32)), .val (.int (1 : Int32))] [(.int (1 : Int32))]))) (fun _ k => XS.iload X221.here hx rfl (hb hby at_241) rfl k) ?_
              refine OGoal.mp (S' := (T219.setTop (mkF m 245 #[.val (.int p1), .val (.int p2), .val (.ref a14), .val (.int (1 : Int32)), .val (.int (1 : Int32)), .val (.int (1 : Int32)), .val (.int (3 : Int32)), .val (.int (1 : Int32)), .val (.int (1 : Int32))] [(.int (1 : Int32)), (.int (1 : Int32))]))) (fun _ k => XS.iload X221.here hx rfl (hb hby at_243) rfl k) ?_
              have hd229 : (1 : Int32) = (1 : Int32) := mEq (by omega)
              refine OGoal.mp (S' := (T219.setTop (mkF m 250 #[.val (.int p1), .val (.int p2), .val (.ref a14), .val (.int (1 : Int32)), .val (.int (1 : Int32)), .val (.int (1 : Int32)), .val (.int (3 : Int32)), .val (.int (1 : Int32)), .val (.int (1 : Int32))] []))) (fun _ k => XS.icmpYes X221.here hx rfl (pc0 := 245) (pc' := 250) rfl (hb hby at_245) rfl (XT.ii_eq_t hd229) (by decide) (by decide) k) ?_
              refine OGoal.mp (S' := (T219.setTop (mkF m 252 #[.val (.int p1), .val (.int p2), .val (.ref a14), .val (.int (1 : Int32)), .val (.int (1 : Int32)), .val (.int (1 : Int32)), .val (.int (3 : Int32)), .val (.int (1 : Int32)), .val (.int (1 : Int32))] [(.int (1 : Int32))]))) (fun _ k => XS.iload X221.here hx rfl (hb hby at_250) rfl k) ?_
              have hd230 : ¬ ((1 : Int32) = 0) := mNe (by omega)
              refine OGoal.mp (S' := (T219.setTop (mkF m 267 #[.val (.int p1), .val (.int p2), .val (.ref a14), .val (.int (1 : Int32)), .val (.int (1 : Int32)), .val (.int (1 : Int32)), .val (.int (3 : Int32)), .val (.int (1 : Int32)), .val (.int (1 : Int32))] []))) (fun _ k => XS.ifYes X221.here hx rfl (pc0 := 252) (pc' := 267) rfl (hb hby at_252) rfl (XT.i0_ne_t hd230) (by decide) (by decide) k) ?_
              refine OGoal.mp (S' := (T219.setTop (mkF m 268 #[.val (.int p1), .val (.int p2), .val (.ref a14), .val (.int (1 : Int32)), .val (.int (1 : Int32)), .val (.int (1 : Int32)), .val (.int (3 : Int32)), .val (.int (1 : Int32)), .val (.int (1 : Int32))] [(.int (1 : Int32))]))) (fun _ k => XS.iconst X221.here hx rfl (hb hby at_267) k) ?_
              refine OGoal.mp (S' := (T219.setTop (mkF m 272 #[.val (.int p1), .val (.int p2), .val (.ref a14), .val (.int (1 : Int32)), .val (.int (1 : Int32)), .val (.int (1 : Int32)), .val (.int (3 : Int32)), .val (.int (1 : Int32)), .val (.int (1 : Int32))] [(.int (1 : Int32))]))) (fun _ k => XS.goto X221.here hx rfl (pc0 := 268) (pc' := 272) rfl (hb hby at_268) (by decide) (by decide) k) ?_
              refine oRetZ X221 hx hlk hret (Or.inr rfl) (hb hby at_272) ?_ (by decide) (by decide)
              exact ⟨rfl, N225⟩
          · have g231 := hc104
            have k232 : q87.toInt = (p1).toInt - 1 := by rw [t95]; exact own_q_r (Int.not_le.mp hc104)
            show OGoal p e below s _ _ _ (T89.setTop (mkF m 130 #[.val (.int p1), .val (.int p2), .val (.ref a14), .val (.int (1 : Int32)), .val (.int (1 : Int32)), .unset, .unset, .unset, .unset] []))
            refine OGoal.mp (S' := (T89.setTop (mkF m 131 #[.val (.int p1), .val (.int p2), .val (.ref a14), .val (.int (1 : Int32)), .val (.int (1 : Int32)), .unset, .unset, .unset, .unset] [(.ref a14)]))) (fun _ k => XS.aloadN X91.here hx rfl (hb hby at_130) rfl rfl k) ?_
            refine oCallV (y := (⟨"com/example/stepwise_medians/stepwisemedians/engine/LeadingRun", "isOpen", "()Z"⟩ : MethodName)) (z := (⟨"com/example/stepwise_medians/stepwisemedians/engine/LeadingRun", "isOpen", "()Z"⟩ : MethodName)) X91 hx hZ hown (hw _ (List.mem_of_getElem? (i := 11) rfl)) (hw _ (List.mem_of_getElem? (i := 12) rfl)) (hw _ (List.mem_of_getElem? (i := 14) rfl)) (hw _ (List.mem_of_getElem? (i := 13) rfl)) (hw _ (List.mem_of_getElem? (i := 2) rfl)) (hw _ (List.mem_of_getElem? (i := 15) rfl)) (by decide) (rmO l Z a0 hw a14 p86 p1 T89.heap n0 Z103 F99 F98) rfl E97 [] [] rfl rfl (by rw [hml]; rfl) (notFace_of_selects (args := #[]) (mvT hZ (hw _ (List.mem_of_getElem? (i := 14) rfl)))) (lenOf own_pd___Z rfl) 0 (Nat.le_of_eq rfl) (by decide) (by decide) (by decide) (by decide) (hb hby at_131) ?_
            intro v233 T234 L235 X236 q237
            obtain ⟨rfl, N238, e239⟩ := q237
            have N240 := Fr.app N102 N238
            show OGoal p e below s _ _ _ (T234.setTop (mkF m 134 #[.val (.int p1), .val (.int p2), .val (.ref a14), .val (.int (1 : Int32)), .val (.int (1 : Int32)), .unset, .unset, .unset, .unset] [(.int (if p86 < p1 then (1 : Int32) else 0))]))
            by_cases hc241 : p86 < p1
            · rw [if_pos hc241]
              have g242 := oLt hc241
              show OGoal p e below s _ _ _ (T234.setTop (mkF m 134 #[.val (.int p1), .val (.int p2), .val (.ref a14), .val (.int (1 : Int32)), .val (.int (1 : Int32)), .unset, .unset, .unset, .unset] [(.int (1 : Int32))]))
              refine OGoal.mp (S' := (T234.setTop (mkF m 136 #[.val (.int p1), .val (.int p2), .val (.ref a14), .val (.int (1 : Int32)), .val (.int (1 : Int32)), .val (.int (1 : Int32)), .unset, .unset, .unset] []))) (fun _ k => XS.istore X236.here hx rfl (hb hby at_134) rfl (l' := #[.val (.int p1), .val (.int p2), .val (.ref a14), .val (.int (1 : Int32)), .val (.int (1 : Int32)), .val (.int (1 : Int32)), .unset, .unset, .unset]) rfl k) ?_
              refine OGoal.mp (S' := (T234.setTop (mkF m 138 #[.val (.int p1), .val (.int p2), .val (.ref a14), .val (.int (1 : Int32)), .val (.int (1 : Int32)), .val (.int (1 : Int32)), .unset, .unset, .unset] [(.int (1 : Int32))]))) (fun _ k => XS.iload X236.here hx rfl (hb hby at_136) rfl k) ?_
              refine OGoal.mp (S' := (T234.setTop (mkF m 139 #[.val (.int p1), .val (.int p2), .val (.ref a14), .val (.int (1 : Int32)), .val (.int (1 : Int32)), .val (.int (1 : Int32)), .unset, .unset, .unset] [(.int p2), (.int (1 : Int32))]))) (fun _ k => XS.iloadN X236.here hx rfl (hb hby at_138) rfl k) ?_
              refine OGoal.mp (S' := (T234.setTop (mkF m 140 #[.val (.int p1), .val (.int p2), .val (.ref a14), .val (.int (1 : Int32)), .val (.int (1 : Int32)), .val (.int (1 : Int32)), .unset, .unset, .unset] [(.int (2 : Int32)), (.int p2), (.int (1 : Int32))]))) (fun _ k => XS.iconst X236.here hx rfl (hb hby at_139) k) ?_
              have hd243 : ¬ (p2 < (2 : Int32)) := mNlt (by omega)
              refine OGoal.mp (S' := (T234.setTop (mkF m 143 #[.val (.int p1), .val (.int p2), .val (.ref a14), .val (.int (1 : Int32)), .val (.int (1 : Int32)), .val (.int (1 : Int32)), .unset, .unset, .unset] [(.int (1 : Int32))]))) (fun _ k => XS.icmpNo X236.here hx rfl (hb hby at_140) rfl (XT.ii_lt_f hd243) k) ?_
              refine OGoal.mp (S' := (T234.setTop (mkF m 144 #[.val (.int p1), .val (.int p2), .val (.ref a14), .val (.int (1 : Int32)), .val (.int (1 : Int32)), .val (.int (1 : Int32)), .unset, .unset, .unset] [(.int p1), (.int (1 : Int32))]))) (fun _ k => XS.iloadN X236.here hx rfl (hb hby at_143) rfl k) ?_
              refine OGoal.mp (S' := (T234.setTop (mkF m 145 #[.val (.int p1), .val (.int p2), .val (.ref a14), .val (.int (1 : Int32)), .val (.int (1 : Int32)), .val (.int (1 : Int32)), .unset, .unset, .unset] [(.int (2 : Int32)), (.int p1), (.int (1 : Int32))]))) (fun _ k => XS.iconst X236.here hx rfl (hb hby at_144) k) ?_
              have hd244 : (2 : Int32) < p1 := mLt (by omega)
              refine OGoal.mp (S' := (T234.setTop (mkF m 148 #[.val (.int p1), .val (.int p2), .val (.ref a14), .val (.int (1 : Int32)), .val (.int (1 : Int32)), .val (.int (1 : Int32)), .unset, .unset, .unset] [(.int (1 : Int32))]))) (fun _ k => XS.icmpNo X236.here hx rfl (hb hby at_145) rfl (XT.ii_le_f hd244) k) ?_
              refine OGoal.mp (S' := (T234.setTop (mkF m 149 #[.val (.int p1), .val (.int p2), .val (.ref a14), .val (.int (1 : Int32)), .val (.int (1 : Int32)), .val (.int (1 : Int32)), .unset, .unset, .unset] [(.int (1 : Int32)), (.int (1 : Int32))]))) (fun _ k => XS.iconst X236.here hx rfl (hb hby at_148) k) ?_
              refine OGoal.mp (S' := (T234.setTop (mkF m 153 #[.val (.int p1), .val (.int p2), .val (.ref a14), .val (.int (1 : Int32)), .val (.int (1 : Int32)), .val (.int (1 : Int32)), .unset, .unset, .unset] [(.int (1 : Int32)), (.int (1 : Int32))]))) (fun _ k => XS.goto X236.here hx rfl (pc0 := 149) (pc' := 153) rfl (hb hby at_149) (by decide) (by decide) k) ?_
              have hd245 : (1 : Int32) = (1 : Int32) := mEq (by omega)
              refine OGoal.mp (S' := (T234.setTop (mkF m 158 #[.val (.int p1), .val (.int p2), .val (.ref a14), .val (.int (1 : Int32)), .val (.int (1 : Int32)), .val (.int (1 : Int32)), .unset, .unset, .unset] []))) (fun _ k => XS.icmpYes X236.here hx rfl (pc0 := 153) (pc' := 158) rfl (hb hby at_153) rfl (XT.ii_eq_t hd245) (by decide) (by decide) k) ?_
              refine OGoal.mp (S' := (T234.setTop (mkF m 160 #[.val (.int p1), .val (.int p2), .val (.ref a14), .val (.int (1 : Int32)), .val (.int (1 : Int32)), .val (.int (1 : Int32)), .unset, .unset, .unset] [(.int (1 : Int32))]))) (fun _ k => XS.iload X236.here hx rfl (hb hby at_158) rfl k) ?_
              have hd246 : ¬ ((1 : Int32) = 0) := mNe (by omega)
              refine OGoal.mp (S' := (T234.setTop (mkF m 186 #[.val (.int p1), .val (.int p2), .val (.ref a14), .val (.int (1 : Int32)), .val (.int (1 : Int32)), .val (.int (1 : Int32)), .unset, .unset, .unset] []))) (fun _ k => XS.ifYes X236.here hx rfl (pc0 := 160) (pc' := 186) rfl (hb hby at_160) rfl (XT.i0_ne_t hd246) (by decide) (by decide) k) ?_
              refine OGoal.mp (S' := (T234.setTop (mkF m 187 #[.val (.int p1), .val (.int p2), .val (.ref a14), .val (.int (1 : Int32)), .val (.int (1 : Int32)), .val (.int (1 : Int32)), .unset, .unset, .unset] [(.int p1)]))) (fun _ k => XS.iloadN X236.here hx rfl (hb hby at_186) rfl k) ?_
              refine OGoal.mp (S' := (T234.setTop (mkF m 188 #[.val (.int p1), .val (.int p2), .val (.ref a14), .val (.int (1 : Int32)), .val (.int (1 : Int32)), .val (.int (1 : Int32)), .unset, .unset, .unset] [(.int (3 : Int32)), (.int p1)]))) (fun _ k => XS.iconst X236.here hx rfl (hb hby at_187) k) ?_
              have hd247 : p1 = (3 : Int32) := mEq (by omega)
              refine OGoal.mp (S' := (T234.setTop (mkF m 191 #[.val (.int p1), .val (.int p2), .val (.ref a14), .val (.int (1 : Int32)), .val (.int (1 : Int32)), .val (.int (1 : Int32)), .unset, .unset, .unset] []))) (fun _ k => XS.icmpNo X236.here hx rfl (hb hby at_188) rfl (XT.ii_ne_f hd247) k) ?_
              refine OGoal.mp (S' := (T234.setTop (mkF m 192 #[.val (.int p1), .val (.int p2), .val (.ref a14), .val (.int (1 : Int32)), .val (.int (1 : Int32)), .val (.int (1 : Int32)), .unset, .unset, .unset] [(.int (2 : Int32))]))) (fun _ k => XS.iconst X236.here hx rfl (hb hby at_191) k) ?_
              refine OGoal.mp (S' := (T234.setTop (mkF m 196 #[.val (.int p1), .val (.int p2), .val (.ref a14), .val (.int (1 : Int32)), .val (.int (1 : Int32)), .val (.int (1 : Int32)), .unset, .unset, .unset] [(.int (2 : Int32))]))) (fun _ k => XS.goto X236.here hx rfl (pc0 := 192) (pc' := 196) rfl (hb hby at_192) (by decide) (by decide) k) ?_
              refine OGoal.mp (S' := (T234.setTop (mkF m 198 #[.val (.int p1), .val (.int p2), .val (.ref a14), .val (.int (1 : Int32)), .val (.int (1 : Int32)), .val (.int (1 : Int32)), .val (.int (2 : Int32)), .unset, .unset] []))) (fun _ k => XS.istore X236.here hx rfl (hb hby at_196) rfl (l' := #[.val (.int p1), .val (.int p2), .val (.ref a14), .val (.int (1 : Int32)), .val (.int (1 : Int32)), .val (.int (1 : Int32)), .val (.int (2 : Int32)), .unset, .unset]) rfl k) ?_
              refine OGoal.mp (S' := (T234.setTop (mkF m 199 #[.val (.int p1), .val (.int p2), .val (.ref a14), .val (.int (1 : Int32)), .val (.int (1 : Int32)), .val (.int (1 : Int32)), .val (.int (2 : Int32)), .unset, .unset] [(.ref a14)]))) (fun _ k => XS.aloadN X236.here hx rfl (hb hby at_198) rfl rfl k) ?_
              refine OGoal.mp (S' := (T234.setTop (mkF m 201 #[.val (.int p1), .val (.int p2), .val (.ref a14), .val (.int (1 : Int32)), .val (.int (1 : Int32)), .val (.int (1 : Int32)), .val (.int (2 : Int32)), .unset, .unset] [(.int (2 : Int32)), (.ref a14)]))) (fun _ k => XS.iload X236.here hx rfl (hb hby at_199) rfl k) ?_
              refine OGoal.mp (S' := (T234.setTop (mkF m 202 #[.val (.int p1), .val (.int p2), .val (.ref a14), .val (.int (1 : Int32)), .val (.int (1 : Int32)), .val (.int (1 : Int32)), .val (.int (2 : Int32)), .unset, .unset] [(.int p2), (.int (2 : Int32)), (.ref a14)]))) (fun _ k => XS.iloadN X236.here hx rfl (hb hby at_201) rfl k) ?_
              by_cases hc248 : (2 : Int32) < p2
              · have g249 := oLt hc248
                refine OGoal.mp (S' := (T234.setTop (mkF m 205 #[.val (.int p1), .val (.int p2), .val (.ref a14), .val (.int (1 : Int32)), .val (.int (1 : Int32)), .val (.int (1 : Int32)), .val (.int (2 : Int32)), .unset, .unset] [(.ref a14)]))) (fun _ k => XS.icmpNo X236.here hx rfl (hb hby at_202) rfl (XT.ii_ge_f hc248) k) ?_
                refine OGoal.mp (S' := (T234.setTop (mkF m 206 #[.val (.int p1), .val (.int p2), .val (.ref a14), .val (.int (1 : Int32)), .val (.int (1 : Int32)), .val (.int (1 : Int32)), .val (.int (2 : Int32)), .unset, .unset] [(.int (1 : Int32)), (.ref a14)]))) (fun _ k => XS.iconst X236.here hx rfl (hb hby at_205) k) ?_
                refine OGoal.mp (S' := (T234.setTop (mkF m 210 #[.val (.int p1), .val (.int p2), .val (.ref a14), .val (.int (1 : Int32)), .val (.int (1 : Int32)), .val (.int (1 : Int32)), .val (.int (2 : Int32)), .unset, .unset] [(.int (1 : Int32)), (.ref a14)]))) (fun _ k => XS.goto X236.here hx rfl (pc0 := 206) (pc' := 210) rfl (hb hby at_206) (by decide) (by decide) k) ?_
                refine oCallV (y := (⟨"com/example/stepwise_medians/stepwisemedians/engine/LeadingRun", "record", "(Z)V"⟩ : MethodName)) (z := (⟨"com/example/stepwise_medians/stepwisemedians/engine/LeadingRun", "record", "(Z)V"⟩ : MethodName)) X236 hx hZ hown (hw _ (List.mem_of_getElem? (i := 23) rfl)) (hw _ (List.mem_of_getElem? (i := 24) rfl)) (hw _ (List.mem_of_getElem? (i := 26) rfl)) (hw _ (List.mem_of_getElem? (i := 25) rfl)) (hw _ (List.mem_of_getElem? (i := 2) rfl)) (hw _ (List.mem_of_getElem? (i := 27) rfl)) (by decide) (rmR1 l Z a0 hw a14 p1 p86 q87 T89.heap n0 Z103 E97 F98 F99 F100 F101 ab21 (by omega) (by omega) (by omega)) e239 E97 [(.int (1 : Int32))] [] rfl rfl (by rw [hml]; rfl) (notFace_of_selects (args := #[]) (mvT hZ (hw _ (List.mem_of_getElem? (i := 26) rfl)))) (lenOf own_pd__Z_V rfl) 0 (Nat.le_of_eq rfl) (by decide) (by decide) (by decide) (by decide) (hb hby at_210) ?_
                intro v252 T253 L254 X255 q256
                obtain ⟨p250, q251, q257, t258, t259⟩ := q256
                obtain ⟨rfl, N260, E261, F262, F263, F264, F265⟩ := q257
                have N266 := Fr.app N240 N260
                have Z267 : n0 ≤ T253.heap.size := Nat.le_trans ab21 (Nat.le_of_lt E261.lt)
                show OGoal p e below s _ _ _ (T253.setTop (mkF m 213 #[.val (.int p1), .val (.int p2), .val (.ref a14), .val (.int (1 : Int32)), .val (.int (1 : Int32)), .val (.int (1 : Int32)), .val (.int (2 : Int32)), .unset, .unset] []))
                have hd268 : (p1).toInt - p250.toInt < p250.toInt := (by omega)
                have k269 : q251.toInt = (p1).toInt - 1 := by rw [t259]; exact own_q_r hd268
                show OGoal p e below s _ _ _ (T253.setTop (mkF m 213 #[.val (.int p1), .val (.int p2), .val (.ref a14), .val (.int (1 : Int32)), .val (.int (1 : Int32)), .val (.int (1 : Int32)), .val (.int (2 : Int32)), .unset, .unset] []))
                refine OGoal.mp (S' := (T253.setTop (mkF m 214 #[.val (.int p1), .val (.int p2), .val (.ref a14), .val (.int (1 : Int32)), .val (.int (1 : Int32)), .val (.int (1 : Int32)), .val (.int (2 : Int32)), .unset, .unset] [(.ref a14)]))) (fun _ k => XS.aloadN X255.here hx rfl (hb hby at_213) rfl rfl k) ?_
                refine oCallV (y := (⟨"com/example/stepwise_medians/stepwisemedians/engine/LeadingRun", "isOpen", "()Z"⟩ : MethodName)) (z := (⟨"com/example/stepwise_medians/stepwisemedians/engine/LeadingRun", "isOpen", "()Z"⟩ : MethodName)) X255 hx hZ hown (hw _ (List.mem_of_getElem? (i := 11) rfl)) (hw _ (List.mem_of_getElem? (i := 12) rfl)) (hw _ (List.mem_of_getElem? (i := 14) rfl)) (hw _ (List.mem_of_getElem? (i := 13) rfl)) (hw _ (List.mem_of_getElem? (i := 2) rfl)) (hw _ (List.mem_of_getElem? (i := 15) rfl)) (by decide) (rmO l Z a0 hw a14 p250 p1 T253.heap n0 Z267 F263 F262) rfl E261 [] [] rfl rfl (by rw [hml]; rfl) (notFace_of_selects (args := #[]) (mvT hZ (hw _ (List.mem_of_getElem? (i := 14) rfl)))) (lenOf own_pd___Z rfl) 0 (Nat.le_of_eq rfl) (by decide) (by decide) (by decide) (by decide) (hb hby at_214) ?_
                intro v270 T271 L272 X273 q274
                obtain ⟨rfl, N275, e276⟩ := q274
                have N277 := Fr.app N266 N275
                show OGoal p e below s _ _ _ (T271.setTop (mkF m 217 #[.val (.int p1), .val (.int p2), .val (.ref a14), .val (.int (1 : Int32)), .val (.int (1 : Int32)), .val (.int (1 : Int32)), .val (.int (2 : Int32)), .unset, .unset] [(.int (if p250 < p1 then (1 : Int32) else 0))]))
                have hd278 : ¬ (p250 < p1) := mNlt (by omega)
                rw [if_neg hd278]
                show OGoal p e below s _ _ _ (T271.setTop (mkF m 217 #[.val (.int p1), .val (.int p2), .val (.ref a14), .val (.int (1 : Int32)), .val (.int (1 : Int32)), .val (.int (1 : Int32)), .val (.int (2 : Int32)), .unset, .unset] [(.int (0 : Int32))]))
                refine OGoal.mp (S' := (T271.setTop (mkF m 219 #[.val (.int p1), .val (.int p2), .val (.ref a14), .val (.int (1 : Int32)), .val (.int (1 : Int32)), .val (.int (1 : Int32)), .val (.int (2 : Int32)), .val (.int (0 : Int32)), .unset] []))) (fun _ k => XS.istore X273.here hx rfl (hb hby at_217) rfl (l' := #[.val (.int p1), .val (.int p2), .val (.ref a14), .val (.int (1 : Int32)), .val (.int (1 : Int32)), .val (.int (1 : Int32)), .val (.int (2 : Int32)), .val (.int (0 : Int32)), .unset]) rfl k) ?_
                refine OGoal.mp (S' := (T271.setTop (mkF m 220 #[.val (.int p1), .val (.int p2), .val (.ref a14), .val (.int (1 : Int32)), .val (.int (1 : Int32)), .val (.int (1 : Int32)), .val (.int (2 : Int32)), .val (.int (0 : Int32)), .unset] [(.int p1)]))) (fun _ k => XS.iloadN X273.here hx rfl (hb hby at_219) rfl k) ?_
                refine OGoal.mp (S' := (T271.setTop (mkF m 221 #[.val (.int p1), .val (.int p2), .val (.ref a14), .val (.int (1 : Int32)), .val (.int (1 : Int32)), .val (.int (1 : Int32)), .val (.int (2 : Int32)), .val (.int (0 : Int32)), .unset] [(.int (3 : Int32)), (.int p1)]))) (fun _ k => XS.iconst X273.here hx rfl (hb hby at_220) k) ?_
                have hd279 : ¬ ((3 : Int32) < p1) := mNlt (by omega)
                refine OGoal.mp (S' := (T271.setTop (mkF m 238 #[.val (.int p1), .val (.int p2), .val (.ref a14), .val (.int (1 : Int32)), .val (.int (1 : Int32)), .val (.int (1 : Int32)), .val (.int (2 : Int32)), .val (.int (0 : Int32)), .unset] []))) (fun _ k => XS.icmpYes X273.here hx rfl (pc0 := 221) (pc' := 238) rfl (hb hby at_221) rfl (XT.ii_le_t hd279) (by decide) (by decide) k) ?_
                refine OGoal.mp (S' := (T271.setTop (mkF m 239 #[.val (.int p1), .val (.int p2), .val (.ref a14), .val (.int (1 : Int32)), .val (.int (1 : Int32)), .val (.int (1 : Int32)), .val (.int (2 : Int32)), .val (.int (0 : Int32)), .unset] [(.int (0 : Int32))]))) (fun _ k => XS.iconst X273.here hx rfl (hb hby at_238) k) ?_
                refine OGoal.mp (S' := (T271.setTop (mkF m 241 #[.val (.int p1), .val (.int p2), .val (.ref a14), .val (.int (1 : Int32)), .val (.int (1 : Int32)), .val (.int (1 : Int32)), .val (.int (2 : Int32)), .val (.int (0 : Int32)), .val (.int (0 : Int32))] []))) (fun _ k => XS.istore X273.here hx rfl (hb hby at_239) rfl (l' := #[.val (.int p1), .val (.int p2), .val (.ref a14), .val (.int (1 : Int32)), .val (.int (1 : Int32)), .val (.int (1 : Int32)), .val (.int (2 : Int32)), .val (.int (0 : Int32)), .val (.int (0 : Int32))]) rfl k) ?_
                refine OGoal.mp (S' := (T271.setTop (mkF m 243 #[.val (.int p1), .val (.int p2), .val (.ref a14), .val (.int (1 : Int32)), .val (.int (1 : Int32)), .val (.int (1 : Int32)), .val (.int (2 : Int32)), .val (.int (0 : Int32)), .val (.int (0 : Int32))] [(.int (0 : Int32))]))) (fun _ k => XS.iload X273.here hx rfl (hb hby at_241) rfl k) ?_
                refine OGoal.mp (S' := (T271.setTop (mkF m 245 #[.val (.int p1), .val (.int p2), .val (.ref a14), .val (.int (1 : Int32)), .val (.int (1 : Int32)), .val (.int (1 : Int32)), .val (.int (2 : Int32)), .val (.int (0 : Int32)), .val (.int (0 : Int32))] [(.int (0 : Int32)), (.int (0 : Int32))]))) (fun _ k => XS.iload X273.here hx rfl (hb hby at_243) rfl k) ?_
                have hd280 : (0 : Int32) = (0 : Int32) := mEq (by omega)
                refine OGoal.mp (S' := (T271.setTop (mkF m 250 #[.val (.int p1), .val (.int p2), .val (.ref a14), .val (.int (1 : Int32)), .val (.int (1 : Int32)), .val (.int (1 : Int32)), .val (.int (2 : Int32)), .val (.int (0 : Int32)), .val (.int (0 : Int32))] []))) (fun _ k => XS.icmpYes X273.here hx rfl (pc0 := 245) (pc' := 250) rfl (hb hby at_245) rfl (XT.ii_eq_t hd280) (by decide) (by decide) k) ?_
                refine OGoal.mp (S' := (T271.setTop (mkF m 252 #[.val (.int p1), .val (.int p2), .val (.ref a14), .val (.int (1 : Int32)), .val (.int (1 : Int32)), .val (.int (1 : Int32)), .val (.int (2 : Int32)), .val (.int (0 : Int32)), .val (.int (0 : Int32))] [(.int (0 : Int32))]))) (fun _ k => XS.iload X273.here hx rfl (hb hby at_250) rfl k) ?_
                have hd281 : (0 : Int32) = 0 := mEq (by omega)
                refine OGoal.mp (S' := (T271.setTop (mkF m 255 #[.val (.int p1), .val (.int p2), .val (.ref a14), .val (.int (1 : Int32)), .val (.int (1 : Int32)), .val (.int (1 : Int32)), .val (.int (2 : Int32)), .val (.int (0 : Int32)), .val (.int (0 : Int32))] []))) (fun _ k => XS.ifNo X273.here hx rfl (hb hby at_252) rfl (XT.i0_ne_f hd281) k) ?_
                refine OGoal.mp (S' := (T271.setTop (mkF m 256 #[.val (.int p1), .val (.int p2), .val (.ref a14), .val (.int (1 : Int32)), .val (.int (1 : Int32)), .val (.int (1 : Int32)), .val (.int (2 : Int32)), .val (.int (0 : Int32)), .val (.int (0 : Int32))] [(.ref a14)]))) (fun _ k => XS.aloadN X273.here hx rfl (hb hby at_255) rfl rfl k) ?_
                refine oCallV (y := (⟨"com/example/stepwise_medians/stepwisemedians/engine/LeadingRun", "length", "()I"⟩ : MethodName)) (z := (⟨"com/example/stepwise_medians/stepwisemedians/engine/LeadingRun", "length", "()I"⟩ : MethodName)) X273 hx hZ hown (hw _ (List.mem_of_getElem? (i := 18) rfl)) (hw _ (List.mem_of_getElem? (i := 19) rfl)) (hw _ (List.mem_of_getElem? (i := 21) rfl)) (hw _ (List.mem_of_getElem? (i := 20) rfl)) (hw _ (List.mem_of_getElem? (i := 2) rfl)) (hw _ (List.mem_of_getElem? (i := 22) rfl)) (by decide) (rmL l Z a0 hw a14 p250 T253.heap n0 Z267 F263) e276 E261 [] [] rfl rfl (by rw [hml]; rfl) (notFace_of_selects (args := #[]) (mvT hZ (hw _ (List.mem_of_getElem? (i := 21) rfl)))) (lenOf own_pd___I rfl) 0 (Nat.le_of_eq rfl) (by decide) (by decide) (by decide) (by decide) (hb hby at_256) ?_
                intro v282 T283 L284 X285 q286
                obtain ⟨rfl, N287, e288⟩ := q286
                have N289 := Fr.app N277 N287
                show OGoal p e below s _ _ _ (T283.setTop (mkF m 259 #[.val (.int p1), .val (.int p2), .val (.ref a14), .val (.int (1 : Int32)), .val (.int (1 : Int32)), .val (.int (1 : Int32)), .val (.int (2 : Int32)), .val (.int (0 : Int32)), .val (.int (0 : Int32))] [(.int p250)]))
                refine OGoal.mp (S' := (T283.setTop (mkF m 260 #[.val (.int p1), .val (.int p2), .val (.ref a14), .val (.int (1 : Int32)), .val (.int (1 : Int32)), .val (.int (1 : Int32)), .val (.int (2 : Int32)), .val (.int (0 : Int32)), .val (.int (0 : Int32))] [(.int p2), (.int p250)]))) (fun _ k => XS.iloadN X285.here hx rfl (hb hby at_259) rfl k) ?_
                refine OGoal.mp (S' := (T283.setTop (mkF m 261 #[.val (.int p1), .val (.int p2), .val (.ref a14), .val (.int (1 : Int32)), .val (.int (1 : Int32)), .val (.int (1 : Int32)), .val (.int (2 : Int32)), .val (.int (0 : Int32)), .val (.int (0 : Int32))] [(.int p1), (.int p2), (.int p250)]))) (fun _ k => XS.iloadN X285.here hx rfl (hb hby at_260) rfl k) ?_
                refine oCallS (y := (⟨"java/lang/Math", "min", "(II)I"⟩ : MethodName)) X285 hx hZ hown (hw _ (List.mem_of_getElem? (i := 36) rfl)) (hw _ (List.mem_of_getElem? (i := 33) rfl)) (hw _ (List.mem_of_getElem? (i := 34) rfl)) (hw _ (List.mem_of_getElem? (i := 35) rfl)) (by decide) (rmM l Z a0 hw p2 p1 T253.heap n0 Z267) e288 [(.int p2), (.int p1)] [(.int p250)] rfl rfl (by rw [hml]; rfl) (lenOf own_pd__II_I rfl) 1 (Nat.le_of_eq rfl) (by decide) (by decide) (by decide) (by decide) (hb hby at_261) ?_
                intro v290 T291 L292 X293 q294
                obtain ⟨rfl, N295, e296⟩ := q294
                have N297 := Fr.app N289 N295
                show OGoal p e below s _ _ _ (T291.setTop (mkF m 264 #[.val (.int p1), .val (.int p2), .val (.ref a14), .val (.int (1 : Int32)), .val (.int (1 : Int32)), .val (.int (1 : Int32)), .val (.int (2 : Int32)), .val (.int (0 : Int32)), .val (.int (0 : Int32))] [(.int (own_min p2 p1)), (.int p250)]))
                by_cases hc298 : p1 < p2
                · have g299 := oLt hc298
                  rw [own_min_l hc298]
                  show OGoal p e below s _ _ _ (T291.setTop (mkF m 264 #[.val (.int p1), .val (.int p2), .val (.ref a14), .val (.int (1 : Int32)), .val (.int (1 : Int32)), .val (.int (1 : Int32)), .val (.int (2 : Int32)), .val (.int (0 : Int32)), .val (.int (0 : Int32))] [(.int p1), (.int p250)]))
                  have hd300 : p250 = p1 := mEq (by omega)
                  refine OGoal.mp (S' := (T291.setTop (mkF m 267 #[.val (.int p1), .val (.int p2), .val (.ref a14), .val (.int (1 : Int32)), .val (.int (1 : Int32)), .val (.int (1 : Int32)), .val (.int (2 : Int32)), .val (.int (0 : Int32)), .val (.int (0 : Int32))] []))) (fun _ k => XS.icmpNo X293.here hx rfl (hb hby at_264) rfl (XT.ii_ne_f hd300) k) ?_
                  refine OGoal.mp (S' := (T291.setTop (mkF m 268 #[.val (.int p1), .val (.int p2), .val (.ref a14), .val (.int (1 : Int32)), .val (.int (1 : Int32)), .val (.int (1 : Int32)), .val (.int (2 : Int32)), .val (.int (0 : Int32)), .val (.int (0 : Int32))] [(.int (1 : Int32))]))) (fun _ k => XS.iconst X293.here hx rfl (hb hby at_267) k) ?_
                  refine OGoal.mp (S' := (T291.setTop (mkF m 272 #[.val (.int p1), .val (.int p2), .val (.ref a14), .val (.int (1 : Int32)), .val (.int (1 : Int32)), .val (.int (1 : Int32)), .val (.int (2 : Int32)), .val (.int (0 : Int32)), .val (.int (0 : Int32))] [(.int (1 : Int32))]))) (fun _ k => XS.goto X293.here hx rfl (pc0 := 268) (pc' := 272) rfl (hb hby at_268) (by decide) (by decide) k) ?_
                  refine oRetZ X293 hx hlk hret (Or.inr rfl) (hb hby at_272) ?_ (by decide) (by decide)
                  exact ⟨rfl, N297⟩
                · have g301 := oNlt hc298
                  rw [own_min_r hc298]
                  show OGoal p e below s _ _ _ (T291.setTop (mkF m 264 #[.val (.int p1), .val (.int p2), .val (.ref a14), .val (.int (1 : Int32)), .val (.int (1 : Int32)), .val (.int (1 : Int32)), .val (.int (2 : Int32)), .val (.int (0 : Int32)), .val (.int (0 : Int32))] [(.int p2), (.int p250)]))
                  have hd302 : p250 = p2 := mEq (by omega)
                  refine OGoal.mp (S' := (T291.setTop (mkF m 267 #[.val (.int p1), .val (.int p2), .val (.ref a14), .val (.int (1 : Int32)), .val (.int (1 : Int32)), .val (.int (1 : Int32)), .val (.int (2 : Int32)), .val (.int (0 : Int32)), .val (.int (0 : Int32))] []))) (fun _ k => XS.icmpNo X293.here hx rfl (hb hby at_264) rfl (XT.ii_ne_f hd302) k) ?_
                  refine OGoal.mp (S' := (T291.setTop (mkF m 268 #[.val (.int p1), .val (.int p2), .val (.ref a14), .val (.int (1 : Int32)), .val (.int (1 : Int32)), .val (.int (1 : Int32)), .val (.int (2 : Int32)), .val (.int (0 : Int32)), .val (.int (0 : Int32))] [(.int (1 : Int32))]))) (fun _ k => XS.iconst X293.here hx rfl (hb hby at_267) k) ?_
                  refine OGoal.mp (S' := (T291.setTop (mkF m 272 #[.val (.int p1), .val (.int p2), .val (.ref a14), .val (.int (1 : Int32)), .val (.int (1 : Int32)), .val (.int (1 : Int32)), .val (.int (2 : Int32)), .val (.int (0 : Int32)), .val (.int (0 : Int32))] [(.int (1 : Int32))]))) (fun _ k => XS.goto X293.here hx rfl (pc0 := 268) (pc' := 272) rfl (hb hby at_268) (by decide) (by decide) k) ?_
                  refine oRetZ X293 hx hlk hret (Or.inr rfl) (hb hby at_272) ?_ (by decide) (by decide)
                  exact ⟨rfl, N297⟩
              · have g303 := oNlt hc248
                refine OGoal.mp (S' := (T234.setTop (mkF m 209 #[.val (.int p1), .val (.int p2), .val (.ref a14), .val (.int (1 : Int32)), .val (.int (1 : Int32)), .val (.int (1 : Int32)), .val (.int (2 : Int32)), .unset, .unset] [(.ref a14)]))) (fun _ k => XS.icmpYes X236.here hx rfl (pc0 := 202) (pc' := 209) rfl (hb hby at_202) rfl (XT.ii_ge_t hc248) (by decide) (by decide) k) ?_
                refine OGoal.mp (S' := (T234.setTop (mkF m 210 #[.val (.int p1), .val (.int p2), .val (.ref a14), .val (.int (1 : Int32)), .val (.int (1 : Int32)), .val (.int (1 : Int32)), .val (.int (2 : Int32)), .unset, .unset] [(.int (0 : Int32)), (.ref a14)]))) (fun _ k => XS.iconst X236.here hx rfl (hb hby at_209) k) ?_
                refine oCallV (y := (⟨"com/example/stepwise_medians/stepwisemedians/engine/LeadingRun", "record", "(Z)V"⟩ : MethodName)) (z := (⟨"com/example/stepwise_medians/stepwisemedians/engine/LeadingRun", "record", "(Z)V"⟩ : MethodName)) X236 hx hZ hown (hw _ (List.mem_of_getElem? (i := 23) rfl)) (hw _ (List.mem_of_getElem? (i := 24) rfl)) (hw _ (List.mem_of_getElem? (i := 26) rfl)) (hw _ (List.mem_of_getElem? (i := 25) rfl)) (hw _ (List.mem_of_getElem? (i := 2) rfl)) (hw _ (List.mem_of_getElem? (i := 27) rfl)) (by decide) (rmR0 l Z a0 hw a14 p1 p86 q87 T89.heap n0 Z103 E97 F98 F99 F100 F101 ab21) e239 E97 [(.int (0 : Int32))] [] rfl rfl (by rw [hml]; rfl) (notFace_of_selects (args := #[]) (mvT hZ (hw _ (List.mem_of_getElem? (i := 26) rfl)))) (lenOf own_pd__Z_V rfl) 0 (Nat.le_of_eq rfl) (by decide) (by decide) (by decide) (by decide) (hb hby at_210) ?_
                intro v305 T306 L307 X308 q309
                obtain ⟨q304, q310⟩ := q309
                obtain ⟨rfl, N311, E312, F313, F314, F315, F316⟩ := q310
                have N317 := Fr.app N240 N311
                have Z318 : n0 ≤ T306.heap.size := Nat.le_trans ab21 (Nat.le_of_lt E312.lt)
                show OGoal p e below s _ _ _ (T306.setTop (mkF m 213 #[.val (.int p1), .val (.int p2), .val (.ref a14), .val (.int (1 : Int32)), .val (.int (1 : Int32)), .val (.int (1 : Int32)), .val (.int (2 : Int32)), .unset, .unset] []))
                refine OGoal.mp (S' := (T306.setTop (mkF m 214 #[.val (.int p1), .val (.int p2), .val (.ref a14), .val (.int (1 : Int32)), .val (.int (1 : Int32)), .val (.int (1 : Int32)), .val (.int (2 : Int32)), .unset, .unset] [(.ref a14)]))) (fun _ k => XS.aloadN X308.here hx rfl (hb hby at_213) rfl rfl k) ?_
                refine oCallV (y := (⟨"com/example/stepwise_medians/stepwisemedians/engine/LeadingRun", "isOpen", "()Z"⟩ : MethodName)) (z := (⟨"com/example/stepwise_medians/stepwisemedians/engine/LeadingRun", "isOpen", "()Z"⟩ : MethodName)) X308 hx hZ hown (hw _ (List.mem_of_getElem? (i := 11) rfl)) (hw _ (List.mem_of_getElem? (i := 12) rfl)) (hw _ (List.mem_of_getElem? (i := 14) rfl)) (hw _ (List.mem_of_getElem? (i := 13) rfl)) (hw _ (List.mem_of_getElem? (i := 2) rfl)) (hw _ (List.mem_of_getElem? (i := 15) rfl)) (by decide) (rmO l Z a0 hw a14 p86 q87 T306.heap n0 Z318 F314 F313) rfl E312 [] [] rfl rfl (by rw [hml]; rfl) (notFace_of_selects (args := #[]) (mvT hZ (hw _ (List.mem_of_getElem? (i := 14) rfl)))) (lenOf own_pd___Z rfl) 0 (Nat.le_of_eq rfl) (by decide) (by decide) (by decide) (by decide) (hb hby at_214) ?_
                intro v319 T320 L321 X322 q323
                obtain ⟨rfl, N324, e325⟩ := q323
                have N326 := Fr.app N317 N324
                show OGoal p e below s _ _ _ (T320.setTop (mkF m 217 #[.val (.int p1), .val (.int p2), .val (.ref a14), .val (.int (1 : Int32)), .val (.int (1 : Int32)), .val (.int (1 : Int32)), .val (.int (2 : Int32)), .unset, .unset] [(.int (if p86 < q87 then (1 : Int32) else 0))]))
                have hd327 : ¬ (p86 < q87) := mNlt (by omega)
                rw [if_neg hd327]
                show OGoal p e below s _ _ _ (T320.setTop (mkF m 217 #[.val (.int p1), .val (.int p2), .val (.ref a14), .val (.int (1 : Int32)), .val (.int (1 : Int32)), .val (.int (1 : Int32)), .val (.int (2 : Int32)), .unset, .unset] [(.int (0 : Int32))]))
                refine OGoal.mp (S' := (T320.setTop (mkF m 219 #[.val (.int p1), .val (.int p2), .val (.ref a14), .val (.int (1 : Int32)), .val (.int (1 : Int32)), .val (.int (1 : Int32)), .val (.int (2 : Int32)), .val (.int (0 : Int32)), .unset] []))) (fun _ k => XS.istore X322.here hx rfl (hb hby at_217) rfl (l' := #[.val (.int p1), .val (.int p2), .val (.ref a14), .val (.int (1 : Int32)), .val (.int (1 : Int32)), .val (.int (1 : Int32)), .val (.int (2 : Int32)), .val (.int (0 : Int32)), .unset]) rfl k) ?_
                refine OGoal.mp (S' := (T320.setTop (mkF m 220 #[.val (.int p1), .val (.int p2), .val (.ref a14), .val (.int (1 : Int32)), .val (.int (1 : Int32)), .val (.int (1 : Int32)), .val (.int (2 : Int32)), .val (.int (0 : Int32)), .unset] [(.int p1)]))) (fun _ k => XS.iloadN X322.here hx rfl (hb hby at_219) rfl k) ?_
                refine OGoal.mp (S' := (T320.setTop (mkF m 221 #[.val (.int p1), .val (.int p2), .val (.ref a14), .val (.int (1 : Int32)), .val (.int (1 : Int32)), .val (.int (1 : Int32)), .val (.int (2 : Int32)), .val (.int (0 : Int32)), .unset] [(.int (3 : Int32)), (.int p1)]))) (fun _ k => XS.iconst X322.here hx rfl (hb hby at_220) k) ?_
                have hd328 : ¬ ((3 : Int32) < p1) := mNlt (by omega)
                refine OGoal.mp (S' := (T320.setTop (mkF m 238 #[.val (.int p1), .val (.int p2), .val (.ref a14), .val (.int (1 : Int32)), .val (.int (1 : Int32)), .val (.int (1 : Int32)), .val (.int (2 : Int32)), .val (.int (0 : Int32)), .unset] []))) (fun _ k => XS.icmpYes X322.here hx rfl (pc0 := 221) (pc' := 238) rfl (hb hby at_221) rfl (XT.ii_le_t hd328) (by decide) (by decide) k) ?_
                refine OGoal.mp (S' := (T320.setTop (mkF m 239 #[.val (.int p1), .val (.int p2), .val (.ref a14), .val (.int (1 : Int32)), .val (.int (1 : Int32)), .val (.int (1 : Int32)), .val (.int (2 : Int32)), .val (.int (0 : Int32)), .unset] [(.int (0 : Int32))]))) (fun _ k => XS.iconst X322.here hx rfl (hb hby at_238) k) ?_
                refine OGoal.mp (S' := (T320.setTop (mkF m 241 #[.val (.int p1), .val (.int p2), .val (.ref a14), .val (.int (1 : Int32)), .val (.int (1 : Int32)), .val (.int (1 : Int32)), .val (.int (2 : Int32)), .val (.int (0 : Int32)), .val (.int (0 : Int32))] []))) (fun _ k => XS.istore X322.here hx rfl (hb hby at_239) rfl (l' := #[.val (.int p1), .val (.int p2), .val (.ref a14), .val (.int (1 : Int32)), .val (.int (1 : Int32)), .val (.int (1 : Int32)), .val (.int (2 : Int32)), .val (.int (0 : Int32)), .val (.int (0 : Int32))]) rfl k) ?_
                refine OGoal.mp (S' := (T320.setTop (mkF m 243 #[.val (.int p1), .val (.int p2), .val (.ref a14), .val (.int (1 : Int32)), .val (.int (1 : Int32)), .val (.int (1 : Int32)), .val (.int (2 : Int32)), .val (.int (0 : Int32)), .val (.int (0 : Int32))] [(.int (0 : Int32))]))) (fun _ k => XS.iload X322.here hx rfl (hb hby at_241) rfl k) ?_
                refine OGoal.mp (S' := (T320.setTop (mkF m 245 #[.val (.int p1), .val (.int p2), .val (.ref a14), .val (.int (1 : Int32)), .val (.int (1 : Int32)), .val (.int (1 : Int32)), .val (.int (2 : Int32)), .val (.int (0 : Int32)), .val (.int (0 : Int32))] [(.int (0 : Int32)), (.int (0 : Int32))]))) (fun _ k => XS.iload X322.here hx rfl (hb hby at_243) rfl k) ?_
                have hd329 : (0 : Int32) = (0 : Int32) := mEq (by omega)
                refine OGoal.mp (S' := (T320.setTop (mkF m 250 #[.val (.int p1), .val (.int p2), .val (.ref a14), .val (.int (1 : Int32)), .val (.int (1 : Int32)), .val (.int (1 : Int32)), .val (.int (2 : Int32)), .val (.int (0 : Int32)), .val (.int (0 : Int32))] []))) (fun _ k => XS.icmpYes X322.here hx rfl (pc0 := 245) (pc' := 250) rfl (hb hby at_245) rfl (XT.ii_eq_t hd329) (by decide) (by decide) k) ?_
                refine OGoal.mp (S' := (T320.setTop (mkF m 252 #[.val (.int p1), .val (.int p2), .val (.ref a14), .val (.int (1 : Int32)), .val (.int (1 : Int32)), .val (.int (1 : Int32)), .val (.int (2 : Int32)), .val (.int (0 : Int32)), .val (.int (0 : Int32))] [(.int (0 : Int32))]))) (fun _ k => XS.iload X322.here hx rfl (hb hby at_250) rfl k) ?_
                have hd330 : (0 : Int32) = 0 := mEq (by omega)
                refine OGoal.mp (S' := (T320.setTop (mkF m 255 #[.val (.int p1), .val (.int p2), .val (.ref a14), .val (.int (1 : Int32)), .val (.int (1 : Int32)), .val (.int (1 : Int32)), .val (.int (2 : Int32)), .val (.int (0 : Int32)), .val (.int (0 : Int32))] []))) (fun _ k => XS.ifNo X322.here hx rfl (hb hby at_252) rfl (XT.i0_ne_f hd330) k) ?_
                refine OGoal.mp (S' := (T320.setTop (mkF m 256 #[.val (.int p1), .val (.int p2), .val (.ref a14), .val (.int (1 : Int32)), .val (.int (1 : Int32)), .val (.int (1 : Int32)), .val (.int (2 : Int32)), .val (.int (0 : Int32)), .val (.int (0 : Int32))] [(.ref a14)]))) (fun _ k => XS.aloadN X322.here hx rfl (hb hby at_255) rfl rfl k) ?_
                refine oCallV (y := (⟨"com/example/stepwise_medians/stepwisemedians/engine/LeadingRun", "length", "()I"⟩ : MethodName)) (z := (⟨"com/example/stepwise_medians/stepwisemedians/engine/LeadingRun", "length", "()I"⟩ : MethodName)) X322 hx hZ hown (hw _ (List.mem_of_getElem? (i := 18) rfl)) (hw _ (List.mem_of_getElem? (i := 19) rfl)) (hw _ (List.mem_of_getElem? (i := 21) rfl)) (hw _ (List.mem_of_getElem? (i := 20) rfl)) (hw _ (List.mem_of_getElem? (i := 2) rfl)) (hw _ (List.mem_of_getElem? (i := 22) rfl)) (by decide) (rmL l Z a0 hw a14 p86 T306.heap n0 Z318 F314) e325 E312 [] [] rfl rfl (by rw [hml]; rfl) (notFace_of_selects (args := #[]) (mvT hZ (hw _ (List.mem_of_getElem? (i := 21) rfl)))) (lenOf own_pd___I rfl) 0 (Nat.le_of_eq rfl) (by decide) (by decide) (by decide) (by decide) (hb hby at_256) ?_
                intro v331 T332 L333 X334 q335
                obtain ⟨rfl, N336, e337⟩ := q335
                have N338 := Fr.app N326 N336
                show OGoal p e below s _ _ _ (T332.setTop (mkF m 259 #[.val (.int p1), .val (.int p2), .val (.ref a14), .val (.int (1 : Int32)), .val (.int (1 : Int32)), .val (.int (1 : Int32)), .val (.int (2 : Int32)), .val (.int (0 : Int32)), .val (.int (0 : Int32))] [(.int p86)]))
                refine OGoal.mp (S' := (T332.setTop (mkF m 260 #[.val (.int p1), .val (.int p2), .val (.ref a14), .val (.int (1 : Int32)), .val (.int (1 : Int32)), .val (.int (1 : Int32)), .val (.int (2 : Int32)), .val (.int (0 : Int32)), .val (.int (0 : Int32))] [(.int p2), (.int p86)]))) (fun _ k => XS.iloadN X334.here hx rfl (hb hby at_259) rfl k) ?_
                refine OGoal.mp (S' := (T332.setTop (mkF m 261 #[.val (.int p1), .val (.int p2), .val (.ref a14), .val (.int (1 : Int32)), .val (.int (1 : Int32)), .val (.int (1 : Int32)), .val (.int (2 : Int32)), .val (.int (0 : Int32)), .val (.int (0 : Int32))] [(.int p1), (.int p2), (.int p86)]))) (fun _ k => XS.iloadN X334.here hx rfl (hb hby at_260) rfl k) ?_
                refine oCallS (y := (⟨"java/lang/Math", "min", "(II)I"⟩ : MethodName)) X334 hx hZ hown (hw _ (List.mem_of_getElem? (i := 36) rfl)) (hw _ (List.mem_of_getElem? (i := 33) rfl)) (hw _ (List.mem_of_getElem? (i := 34) rfl)) (hw _ (List.mem_of_getElem? (i := 35) rfl)) (by decide) (rmM l Z a0 hw p2 p1 T306.heap n0 Z318) e337 [(.int p2), (.int p1)] [(.int p86)] rfl rfl (by rw [hml]; rfl) (lenOf own_pd__II_I rfl) 1 (Nat.le_of_eq rfl) (by decide) (by decide) (by decide) (by decide) (hb hby at_261) ?_
                intro v339 T340 L341 X342 q343
                obtain ⟨rfl, N344, e345⟩ := q343
                have N346 := Fr.app N338 N344
                show OGoal p e below s _ _ _ (T340.setTop (mkF m 264 #[.val (.int p1), .val (.int p2), .val (.ref a14), .val (.int (1 : Int32)), .val (.int (1 : Int32)), .val (.int (1 : Int32)), .val (.int (2 : Int32)), .val (.int (0 : Int32)), .val (.int (0 : Int32))] [(.int (own_min p2 p1)), (.int p86)]))
                have hd347 : ¬ (p1 < p2) := mNlt (by omega)
                rw [own_min_r hd347]
                show OGoal p e below s _ _ _ (T340.setTop (mkF m 264 #[.val (.int p1), .val (.int p2), .val (.ref a14), .val (.int (1 : Int32)), .val (.int (1 : Int32)), .val (.int (1 : Int32)), .val (.int (2 : Int32)), .val (.int (0 : Int32)), .val (.int (0 : Int32))] [(.int p2), (.int p86)]))
                have hd348 : p86 = p2 := mEq (by omega)
                refine OGoal.mp (S' := (T340.setTop (mkF m 267 #[.val (.int p1), .val (.int p2), .val (.ref a14), .val (.int (1 : Int32)), .val (.int (1 : Int32)), .val (.int (1 : Int32)), .val (.int (2 : Int32)), .val (.int (0 : Int32)), .val (.int (0 : Int32))] []))) (fun _ k => XS.icmpNo X342.here hx rfl (hb hby at_264) rfl (XT.ii_ne_f hd348) k) ?_
                refine OGoal.mp (S' := (T340.setTop (mkF m 268 #[.val (.int p1), .val (.int p2), .val (.ref a14), .val (.int (1 : Int32)), .val (.int (1 : Int32)), .val (.int (1 : Int32)), .val (.int (2 : Int32)), .val (.int (0 : Int32)), .val (.int (0 : Int32))] [(.int (1 : Int32))]))) (fun _ k => XS.iconst X342.here hx rfl (hb hby at_267) k) ?_
                refine OGoal.mp (S' := (T340.setTop (mkF m 272 #[.val (.int p1), .val (.int p2), .val (.ref a14), .val (.int (1 : Int32)), .val (.int (1 : Int32)), .val (.int (1 : Int32)), .val (.int (2 : Int32)), .val (.int (0 : Int32)), .val (.int (0 : Int32))] [(.int (1 : Int32))]))) (fun _ k => XS.goto X342.here hx rfl (pc0 := 268) (pc' := 272) rfl (hb hby at_268) (by decide) (by decide) k) ?_
                refine oRetZ X342 hx hlk hret (Or.inr rfl) (hb hby at_272) ?_ (by decide) (by decide)
                exact ⟨rfl, N346⟩
            · rw [if_neg hc241]
              have g349 := oNlt hc241
              show OGoal p e below s _ _ _ (T234.setTop (mkF m 134 #[.val (.int p1), .val (.int p2), .val (.ref a14), .val (.int (1 : Int32)), .val (.int (1 : Int32)), .unset, .unset, .unset, .unset] [(.int (0 : Int32))]))
              refine OGoal.mp (S' := (T234.setTop (mkF m 136 #[.val (.int p1), .val (.int p2), .val (.ref a14), .val (.int (1 : Int32)), .val (.int (1 : Int32)), .val (.int (0 : Int32)), .unset, .unset, .unset] []))) (fun _ k => XS.istore X236.here hx rfl (hb hby at_134) rfl (l' := #[.val (.int p1), .val (.int p2), .val (.ref a14), .val (.int (1 : Int32)), .val (.int (1 : Int32)), .val (.int (0 : Int32)), .unset, .unset, .unset]) rfl k) ?_
              refine OGoal.mp (S' := (T234.setTop (mkF m 138 #[.val (.int p1), .val (.int p2), .val (.ref a14), .val (.int (1 : Int32)), .val (.int (1 : Int32)), .val (.int (0 : Int32)), .unset, .unset, .unset] [(.int (0 : Int32))]))) (fun _ k => XS.iload X236.here hx rfl (hb hby at_136) rfl k) ?_
              refine OGoal.mp (S' := (T234.setTop (mkF m 139 #[.val (.int p1), .val (.int p2), .val (.ref a14), .val (.int (1 : Int32)), .val (.int (1 : Int32)), .val (.int (0 : Int32)), .unset, .unset, .unset] [(.int p2), (.int (0 : Int32))]))) (fun _ k => XS.iloadN X236.here hx rfl (hb hby at_138) rfl k) ?_
              refine OGoal.mp (S' := (T234.setTop (mkF m 140 #[.val (.int p1), .val (.int p2), .val (.ref a14), .val (.int (1 : Int32)), .val (.int (1 : Int32)), .val (.int (0 : Int32)), .unset, .unset, .unset] [(.int (2 : Int32)), (.int p2), (.int (0 : Int32))]))) (fun _ k => XS.iconst X236.here hx rfl (hb hby at_139) k) ?_
              have hd350 : ¬ (p2 < (2 : Int32)) := mNlt (by omega)
              refine OGoal.mp (S' := (T234.setTop (mkF m 143 #[.val (.int p1), .val (.int p2), .val (.ref a14), .val (.int (1 : Int32)), .val (.int (1 : Int32)), .val (.int (0 : Int32)), .unset, .unset, .unset] [(.int (0 : Int32))]))) (fun _ k => XS.icmpNo X236.here hx rfl (hb hby at_140) rfl (XT.ii_lt_f hd350) k) ?_
              refine OGoal.mp (S' := (T234.setTop (mkF m 144 #[.val (.int p1), .val (.int p2), .val (.ref a14), .val (.int (1 : Int32)), .val (.int (1 : Int32)), .val (.int (0 : Int32)), .unset, .unset, .unset] [(.int p1), (.int (0 : Int32))]))) (fun _ k => XS.iloadN X236.here hx rfl (hb hby at_143) rfl k) ?_
              refine OGoal.mp (S' := (T234.setTop (mkF m 145 #[.val (.int p1), .val (.int p2), .val (.ref a14), .val (.int (1 : Int32)), .val (.int (1 : Int32)), .val (.int (0 : Int32)), .unset, .unset, .unset] [(.int (2 : Int32)), (.int p1), (.int (0 : Int32))]))) (fun _ k => XS.iconst X236.here hx rfl (hb hby at_144) k) ?_
              have hd351 : ¬ ((2 : Int32) < p1) := mNlt (by omega)
              refine OGoal.mp (S' := (T234.setTop (mkF m 152 #[.val (.int p1), .val (.int p2), .val (.ref a14), .val (.int (1 : Int32)), .val (.int (1 : Int32)), .val (.int (0 : Int32)), .unset, .unset, .unset] [(.int (0 : Int32))]))) (fun _ k => XS.icmpYes X236.here hx rfl (pc0 := 145) (pc' := 152) rfl (hb hby at_145) rfl (XT.ii_le_t hd351) (by decide) (by decide) k) ?_
              refine OGoal.mp (S' := (T234.setTop (mkF m 153 #[.val (.int p1), .val (.int p2), .val (.ref a14), .val (.int (1 : Int32)), .val (.int (1 : Int32)), .val (.int (0 : Int32)), .unset, .unset, .unset] [(.int (0 : Int32)), (.int (0 : Int32))]))) (fun _ k => XS.iconst X236.here hx rfl (hb hby at_152) k) ?_
              have hd352 : (0 : Int32) = (0 : Int32) := mEq (by omega)
              refine OGoal.mp (S' := (T234.setTop (mkF m 158 #[.val (.int p1), .val (.int p2), .val (.ref a14), .val (.int (1 : Int32)), .val (.int (1 : Int32)), .val (.int (0 : Int32)), .unset, .unset, .unset] []))) (fun _ k => XS.icmpYes X236.here hx rfl (pc0 := 153) (pc' := 158) rfl (hb hby at_153) rfl (XT.ii_eq_t hd352) (by decide) (by decide) k) ?_
              refine OGoal.mp (S' := (T234.setTop (mkF m 160 #[.val (.int p1), .val (.int p2), .val (.ref a14), .val (.int (1 : Int32)), .val (.int (1 : Int32)), .val (.int (0 : Int32)), .unset, .unset, .unset] [(.int (0 : Int32))]))) (fun _ k => XS.iload X236.here hx rfl (hb hby at_158) rfl k) ?_
              have hd353 : (0 : Int32) = 0 := mEq (by omega)
              refine OGoal.mp (S' := (T234.setTop (mkF m 163 #[.val (.int p1), .val (.int p2), .val (.ref a14), .val (.int (1 : Int32)), .val (.int (1 : Int32)), .val (.int (0 : Int32)), .unset, .unset, .unset] []))) (fun _ k => XS.ifNo X236.here hx rfl (hb hby at_160) rfl (XT.i0_ne_f hd353) k) ?_
              refine OGoal.mp (S' := (T234.setTop (mkF m 164 #[.val (.int p1), .val (.int p2), .val (.ref a14), .val (.int (1 : Int32)), .val (.int (1 : Int32)), .val (.int (0 : Int32)), .unset, .unset, .unset] [(.ref a14)]))) (fun _ k => XS.aloadN X236.here hx rfl (hb hby at_163) rfl rfl k) ?_
              refine oCallV (y := (⟨"com/example/stepwise_medians/stepwisemedians/engine/LeadingRun", "length", "()I"⟩ : MethodName)) (z := (⟨"com/example/stepwise_medians/stepwisemedians/engine/LeadingRun", "length", "()I"⟩ : MethodName)) X236 hx hZ hown (hw _ (List.mem_of_getElem? (i := 18) rfl)) (hw _ (List.mem_of_getElem? (i := 19) rfl)) (hw _ (List.mem_of_getElem? (i := 21) rfl)) (hw _ (List.mem_of_getElem? (i := 20) rfl)) (hw _ (List.mem_of_getElem? (i := 2) rfl)) (hw _ (List.mem_of_getElem? (i := 22) rfl)) (by decide) (rmL l Z a0 hw a14 p86 T89.heap n0 Z103 F99) e239 E97 [] [] rfl rfl (by rw [hml]; rfl) (notFace_of_selects (args := #[]) (mvT hZ (hw _ (List.mem_of_getElem? (i := 21) rfl)))) (lenOf own_pd___I rfl) 0 (Nat.le_of_eq rfl) (by decide) (by decide) (by decide) (by decide) (hb hby at_164) ?_
              intro v354 T355 L356 X357 q358
              obtain ⟨rfl, N359, e360⟩ := q358
              have N361 := Fr.app N240 N359
              show OGoal p e below s _ _ _ (T355.setTop (mkF m 167 #[.val (.int p1), .val (.int p2), .val (.ref a14), .val (.int (1 : Int32)), .val (.int (1 : Int32)), .val (.int (0 : Int32)), .unset, .unset, .unset] [(.int p86)]))
              refine OGoal.mp (S' := (T355.setTop (mkF m 168 #[.val (.int p1), .val (.int p2), .val (.ref a14), .val (.int (1 : Int32)), .val (.int (1 : Int32)), .val (.int (0 : Int32)), .unset, .unset, .unset] [(.int p2), (.int p86)]))) (fun _ k => XS.iloadN X357.here hx rfl (hb hby at_167) rfl k) ?_
              refine OGoal.mp (S' := (T355.setTop (mkF m 169 #[.val (.int p1), .val (.int p2), .val (.ref a14), .val (.int (1 : Int32)), .val (.int (1 : Int32)), .val (.int (0 : Int32)), .unset, .unset, .unset] [(.int (2 : Int32)), (.int p2), (.int p86)]))) (fun _ k => XS.iconst X357.here hx rfl (hb hby at_168) k) ?_
              have hd362 : ¬ (p2 < (2 : Int32)) := mNlt (by omega)
              refine OGoal.mp (S' := (T355.setTop (mkF m 172 #[.val (.int p1), .val (.int p2), .val (.ref a14), .val (.int (1 : Int32)), .val (.int (1 : Int32)), .val (.int (0 : Int32)), .unset, .unset, .unset] [(.int p86)]))) (fun _ k => XS.icmpNo X357.here hx rfl (hb hby at_169) rfl (XT.ii_lt_f hd362) k) ?_
              refine OGoal.mp (S' := (T355.setTop (mkF m 173 #[.val (.int p1), .val (.int p2), .val (.ref a14), .val (.int (1 : Int32)), .val (.int (1 : Int32)), .val (.int (0 : Int32)), .unset, .unset, .unset] [(.int (2 : Int32)), (.int p86)]))) (fun _ k => XS.iconst X357.here hx rfl (hb hby at_172) k) ?_
              refine OGoal.mp (S' := (T355.setTop (mkF m 177 #[.val (.int p1), .val (.int p2), .val (.ref a14), .val (.int (1 : Int32)), .val (.int (1 : Int32)), .val (.int (0 : Int32)), .unset, .unset, .unset] [(.int (2 : Int32)), (.int p86)]))) (fun _ k => XS.goto X357.here hx rfl (pc0 := 173) (pc' := 177) rfl (hb hby at_173) (by decide) (by decide) k) ?_
              have hd363 : p86 = (2 : Int32) := mEq (by omega)
              refine OGoal.mp (S' := (T355.setTop (mkF m 180 #[.val (.int p1), .val (.int p2), .val (.ref a14), .val (.int (1 : Int32)), .val (.int (1 : Int32)), .val (.int (0 : Int32)), .unset, .unset, .unset] []))) (fun _ k => XS.icmpNo X357.here hx rfl (hb hby at_177) rfl (XT.ii_ne_f hd363) k) ?_
              refine OGoal.mp (S' := (T355.setTop (mkF m 181 #[.val (.int p1), .val (.int p2), .val (.ref a14), .val (.int (1 : Int32)), .val (.int (1 : Int32)), .val (.int (0 : Int32)), .unset, .unset, .unset] [(.int (1 : Int32))]))) (fun _ k => XS.iconst X357.here hx rfl (hb hby at_180) k) ?_
              refine OGoal.mp (S' := (T355.setTop (mkF m 185 #[.val (.int p1), .val (.int p2), .val (.ref a14), .val (.int (1 : Int32)), .val (.int (1 : Int32)), .val (.int (0 : Int32)), .unset, .unset, .unset] [(.int (1 : Int32))]))) (fun _ k => XS.goto X357.here hx rfl (pc0 := 181) (pc' := 185) rfl (hb hby at_181) (by decide) (by decide) k) ?_
              refine oRetZ X357 hx hlk hret (Or.inr rfl) (hb hby at_185) ?_ (by decide) (by decide)
              exact ⟨rfl, N361⟩
        · have g364 := oNlt hc84
          refine OGoal.mp (S' := (T72.setTop (mkF m 126 #[.val (.int p1), .val (.int p2), .val (.ref a14), .val (.int (1 : Int32)), .val (.int (1 : Int32)), .unset, .unset, .unset, .unset] [(.ref a14)]))) (fun _ k => XS.icmpYes X74.here hx rfl (pc0 := 119) (pc' := 126) rfl (hb hby at_119) rfl (XT.ii_ge_t hc84) (by decide) (by decide) k) ?_
          refine OGoal.mp (S' := (T72.setTop (mkF m 127 #[.val (.int p1), .val (.int p2), .val (.ref a14), .val (.int (1 : Int32)), .val (.int (1 : Int32)), .unset, .unset, .unset, .unset] [(.int (0 : Int32)), (.ref a14)]))) (fun _ k => XS.iconst X74.here hx rfl (hb hby at_126) k) ?_
          refine oCallV (y := (⟨"com/example/stepwise_medians/stepwisemedians/engine/LeadingRun", "record", "(Z)V"⟩ : MethodName)) (z := (⟨"com/example/stepwise_medians/stepwisemedians/engine/LeadingRun", "record", "(Z)V"⟩ : MethodName)) X74 hx hZ hown (hw _ (List.mem_of_getElem? (i := 23) rfl)) (hw _ (List.mem_of_getElem? (i := 24) rfl)) (hw _ (List.mem_of_getElem? (i := 26) rfl)) (hw _ (List.mem_of_getElem? (i := 25) rfl)) (hw _ (List.mem_of_getElem? (i := 2) rfl)) (hw _ (List.mem_of_getElem? (i := 27) rfl)) (by decide) (rmR0 l Z a0 hw a14 p1 p50 q51 T53.heap n0 Z67 E61 F62 F63 F64 F65 ab21) e77 E61 [(.int (0 : Int32))] [] rfl rfl (by rw [hml]; rfl) (notFace_of_selects (args := #[]) (mvT hZ (hw _ (List.mem_of_getElem? (i := 26) rfl)))) (lenOf own_pd__Z_V rfl) 0 (Nat.le_of_eq rfl) (by decide) (by decide) (by decide) (by decide) (hb hby at_127) ?_
          intro v366 T367 L368 X369 q370
          obtain ⟨q365, q371⟩ := q370
          obtain ⟨rfl, N372, E373, F374, F375, F376, F377⟩ := q371
          have N378 := Fr.app N78 N372
          have Z379 : n0 ≤ T367.heap.size := Nat.le_trans ab21 (Nat.le_of_lt E373.lt)
          show OGoal p e below s _ _ _ (T367.setTop (mkF m 130 #[.val (.int p1), .val (.int p2), .val (.ref a14), .val (.int (1 : Int32)), .val (.int (1 : Int32)), .unset, .unset, .unset, .unset] []))
          refine OGoal.mp (S' := (T367.setTop (mkF m 131 #[.val (.int p1), .val (.int p2), .val (.ref a14), .val (.int (1 : Int32)), .val (.int (1 : Int32)), .unset, .unset, .unset, .unset] [(.ref a14)]))) (fun _ k => XS.aloadN X369.here hx rfl (hb hby at_130) rfl rfl k) ?_
          refine oCallV (y := (⟨"com/example/stepwise_medians/stepwisemedians/engine/LeadingRun", "isOpen", "()Z"⟩ : MethodName)) (z := (⟨"com/example/stepwise_medians/stepwisemedians/engine/LeadingRun", "isOpen", "()Z"⟩ : MethodName)) X369 hx hZ hown (hw _ (List.mem_of_getElem? (i := 11) rfl)) (hw _ (List.mem_of_getElem? (i := 12) rfl)) (hw _ (List.mem_of_getElem? (i := 14) rfl)) (hw _ (List.mem_of_getElem? (i := 13) rfl)) (hw _ (List.mem_of_getElem? (i := 2) rfl)) (hw _ (List.mem_of_getElem? (i := 15) rfl)) (by decide) (rmO l Z a0 hw a14 p50 q51 T367.heap n0 Z379 F375 F374) rfl E373 [] [] rfl rfl (by rw [hml]; rfl) (notFace_of_selects (args := #[]) (mvT hZ (hw _ (List.mem_of_getElem? (i := 14) rfl)))) (lenOf own_pd___Z rfl) 0 (Nat.le_of_eq rfl) (by decide) (by decide) (by decide) (by decide) (hb hby at_131) ?_
          intro v380 T381 L382 X383 q384
          obtain ⟨rfl, N385, e386⟩ := q384
          have N387 := Fr.app N378 N385
          show OGoal p e below s _ _ _ (T381.setTop (mkF m 134 #[.val (.int p1), .val (.int p2), .val (.ref a14), .val (.int (1 : Int32)), .val (.int (1 : Int32)), .unset, .unset, .unset, .unset] [(.int (if p50 < q51 then (1 : Int32) else 0))]))
          have hd388 : ¬ (p50 < q51) := mNlt (by omega)
          rw [if_neg hd388]
          show OGoal p e below s _ _ _ (T381.setTop (mkF m 134 #[.val (.int p1), .val (.int p2), .val (.ref a14), .val (.int (1 : Int32)), .val (.int (1 : Int32)), .unset, .unset, .unset, .unset] [(.int (0 : Int32))]))
          refine OGoal.mp (S' := (T381.setTop (mkF m 136 #[.val (.int p1), .val (.int p2), .val (.ref a14), .val (.int (1 : Int32)), .val (.int (1 : Int32)), .val (.int (0 : Int32)), .unset, .unset, .unset] []))) (fun _ k => XS.istore X383.here hx rfl (hb hby at_134) rfl (l' := #[.val (.int p1), .val (.int p2), .val (.ref a14), .val (.int (1 : Int32)), .val (.int (1 : Int32)), .val (.int (0 : Int32)), .unset, .unset, .unset]) rfl k) ?_
          refine OGoal.mp (S' := (T381.setTop (mkF m 138 #[.val (.int p1), .val (.int p2), .val (.ref a14), .val (.int (1 : Int32)), .val (.int (1 : Int32)), .val (.int (0 : Int32)), .unset, .unset, .unset] [(.int (0 : Int32))]))) (fun _ k => XS.iload X383.here hx rfl (hb hby at_136) rfl k) ?_
          refine OGoal.mp (S' := (T381.setTop (mkF m 139 #[.val (.int p1), .val (.int p2), .val (.ref a14), .val (.int (1 : Int32)), .val (.int (1 : Int32)), .val (.int (0 : Int32)), .unset, .unset, .unset] [(.int p2), (.int (0 : Int32))]))) (fun _ k => XS.iloadN X383.here hx rfl (hb hby at_138) rfl k) ?_
          refine OGoal.mp (S' := (T381.setTop (mkF m 140 #[.val (.int p1), .val (.int p2), .val (.ref a14), .val (.int (1 : Int32)), .val (.int (1 : Int32)), .val (.int (0 : Int32)), .unset, .unset, .unset] [(.int (2 : Int32)), (.int p2), (.int (0 : Int32))]))) (fun _ k => XS.iconst X383.here hx rfl (hb hby at_139) k) ?_
          have hd389 : p2 < (2 : Int32) := mLt (by omega)
          refine OGoal.mp (S' := (T381.setTop (mkF m 152 #[.val (.int p1), .val (.int p2), .val (.ref a14), .val (.int (1 : Int32)), .val (.int (1 : Int32)), .val (.int (0 : Int32)), .unset, .unset, .unset] [(.int (0 : Int32))]))) (fun _ k => XS.icmpYes X383.here hx rfl (pc0 := 140) (pc' := 152) rfl (hb hby at_140) rfl (XT.ii_lt_t hd389) (by decide) (by decide) k) ?_
          refine OGoal.mp (S' := (T381.setTop (mkF m 153 #[.val (.int p1), .val (.int p2), .val (.ref a14), .val (.int (1 : Int32)), .val (.int (1 : Int32)), .val (.int (0 : Int32)), .unset, .unset, .unset] [(.int (0 : Int32)), (.int (0 : Int32))]))) (fun _ k => XS.iconst X383.here hx rfl (hb hby at_152) k) ?_
          have hd390 : (0 : Int32) = (0 : Int32) := mEq (by omega)
          refine OGoal.mp (S' := (T381.setTop (mkF m 158 #[.val (.int p1), .val (.int p2), .val (.ref a14), .val (.int (1 : Int32)), .val (.int (1 : Int32)), .val (.int (0 : Int32)), .unset, .unset, .unset] []))) (fun _ k => XS.icmpYes X383.here hx rfl (pc0 := 153) (pc' := 158) rfl (hb hby at_153) rfl (XT.ii_eq_t hd390) (by decide) (by decide) k) ?_
          refine OGoal.mp (S' := (T381.setTop (mkF m 160 #[.val (.int p1), .val (.int p2), .val (.ref a14), .val (.int (1 : Int32)), .val (.int (1 : Int32)), .val (.int (0 : Int32)), .unset, .unset, .unset] [(.int (0 : Int32))]))) (fun _ k => XS.iload X383.here hx rfl (hb hby at_158) rfl k) ?_
          have hd391 : (0 : Int32) = 0 := mEq (by omega)
          refine OGoal.mp (S' := (T381.setTop (mkF m 163 #[.val (.int p1), .val (.int p2), .val (.ref a14), .val (.int (1 : Int32)), .val (.int (1 : Int32)), .val (.int (0 : Int32)), .unset, .unset, .unset] []))) (fun _ k => XS.ifNo X383.here hx rfl (hb hby at_160) rfl (XT.i0_ne_f hd391) k) ?_
          refine OGoal.mp (S' := (T381.setTop (mkF m 164 #[.val (.int p1), .val (.int p2), .val (.ref a14), .val (.int (1 : Int32)), .val (.int (1 : Int32)), .val (.int (0 : Int32)), .unset, .unset, .unset] [(.ref a14)]))) (fun _ k => XS.aloadN X383.here hx rfl (hb hby at_163) rfl rfl k) ?_
          refine oCallV (y := (⟨"com/example/stepwise_medians/stepwisemedians/engine/LeadingRun", "length", "()I"⟩ : MethodName)) (z := (⟨"com/example/stepwise_medians/stepwisemedians/engine/LeadingRun", "length", "()I"⟩ : MethodName)) X383 hx hZ hown (hw _ (List.mem_of_getElem? (i := 18) rfl)) (hw _ (List.mem_of_getElem? (i := 19) rfl)) (hw _ (List.mem_of_getElem? (i := 21) rfl)) (hw _ (List.mem_of_getElem? (i := 20) rfl)) (hw _ (List.mem_of_getElem? (i := 2) rfl)) (hw _ (List.mem_of_getElem? (i := 22) rfl)) (by decide) (rmL l Z a0 hw a14 p50 T367.heap n0 Z379 F375) e386 E373 [] [] rfl rfl (by rw [hml]; rfl) (notFace_of_selects (args := #[]) (mvT hZ (hw _ (List.mem_of_getElem? (i := 21) rfl)))) (lenOf own_pd___I rfl) 0 (Nat.le_of_eq rfl) (by decide) (by decide) (by decide) (by decide) (hb hby at_164) ?_
          intro v392 T393 L394 X395 q396
          obtain ⟨rfl, N397, e398⟩ := q396
          have N399 := Fr.app N387 N397
          show OGoal p e below s _ _ _ (T393.setTop (mkF m 167 #[.val (.int p1), .val (.int p2), .val (.ref a14), .val (.int (1 : Int32)), .val (.int (1 : Int32)), .val (.int (0 : Int32)), .unset, .unset, .unset] [(.int p50)]))
          refine OGoal.mp (S' := (T393.setTop (mkF m 168 #[.val (.int p1), .val (.int p2), .val (.ref a14), .val (.int (1 : Int32)), .val (.int (1 : Int32)), .val (.int (0 : Int32)), .unset, .unset, .unset] [(.int p2), (.int p50)]))) (fun _ k => XS.iloadN X395.here hx rfl (hb hby at_167) rfl k) ?_
          refine OGoal.mp (S' := (T393.setTop (mkF m 169 #[.val (.int p1), .val (.int p2), .val (.ref a14), .val (.int (1 : Int32)), .val (.int (1 : Int32)), .val (.int (0 : Int32)), .unset, .unset, .unset] [(.int (2 : Int32)), (.int p2), (.int p50)]))) (fun _ k => XS.iconst X395.here hx rfl (hb hby at_168) k) ?_
          have hd400 : p2 < (2 : Int32) := mLt (by omega)
          refine OGoal.mp (S' := (T393.setTop (mkF m 176 #[.val (.int p1), .val (.int p2), .val (.ref a14), .val (.int (1 : Int32)), .val (.int (1 : Int32)), .val (.int (0 : Int32)), .unset, .unset, .unset] [(.int p50)]))) (fun _ k => XS.icmpYes X395.here hx rfl (pc0 := 169) (pc' := 176) rfl (hb hby at_169) rfl (XT.ii_lt_t hd400) (by decide) (by decide) k) ?_
          refine OGoal.mp (S' := (T393.setTop (mkF m 177 #[.val (.int p1), .val (.int p2), .val (.ref a14), .val (.int (1 : Int32)), .val (.int (1 : Int32)), .val (.int (0 : Int32)), .unset, .unset, .unset] [(.int (1 : Int32)), (.int p50)]))) (fun _ k => XS.iconst X395.here hx rfl (hb hby at_176) k) ?_
          have hd401 : p50 = (1 : Int32) := mEq (by omega)
          refine OGoal.mp (S' := (T393.setTop (mkF m 180 #[.val (.int p1), .val (.int p2), .val (.ref a14), .val (.int (1 : Int32)), .val (.int (1 : Int32)), .val (.int (0 : Int32)), .unset, .unset, .unset] []))) (fun _ k => XS.icmpNo X395.here hx rfl (hb hby at_177) rfl (XT.ii_ne_f hd401) k) ?_
          refine OGoal.mp (S' := (T393.setTop (mkF m 181 #[.val (.int p1), .val (.int p2), .val (.ref a14), .val (.int (1 : Int32)), .val (.int (1 : Int32)), .val (.int (0 : Int32)), .unset, .unset, .unset] [(.int (1 : Int32))]))) (fun _ k => XS.iconst X395.here hx rfl (hb hby at_180) k) ?_
          refine OGoal.mp (S' := (T393.setTop (mkF m 185 #[.val (.int p1), .val (.int p2), .val (.ref a14), .val (.int (1 : Int32)), .val (.int (1 : Int32)), .val (.int (0 : Int32)), .unset, .unset, .unset] [(.int (1 : Int32))]))) (fun _ k => XS.goto X395.here hx rfl (pc0 := 181) (pc' := 185) rfl (hb hby at_181) (by decide) (by decide) k) ?_
          refine oRetZ X395 hx hlk hret (Or.inr rfl) (hb hby at_185) ?_ (by decide) (by decide)
          exact ⟨rfl, N399⟩
      · have g402 := hc68
        have k403 : q51.toInt = (p1).toInt - 1 := by rw [t59]; exact own_q_r (Int.not_le.mp hc68)
        show OGoal p e below s _ _ _ (T53.setTop (mkF m 60 #[.val (.int p1), .val (.int p2), .val (.ref a14), .val (.int (1 : Int32)), .unset, .unset, .unset, .unset, .unset] []))
        refine OGoal.mp (S' := (T53.setTop (mkF m 61 #[.val (.int p1), .val (.int p2), .val (.ref a14), .val (.int (1 : Int32)), .unset, .unset, .unset, .unset, .unset] [(.ref a14)]))) (fun _ k => XS.aloadN X55.here hx rfl (hb hby at_60) rfl rfl k) ?_
        refine oCallV (y := (⟨"com/example/stepwise_medians/stepwisemedians/engine/LeadingRun", "isOpen", "()Z"⟩ : MethodName)) (z := (⟨"com/example/stepwise_medians/stepwisemedians/engine/LeadingRun", "isOpen", "()Z"⟩ : MethodName)) X55 hx hZ hown (hw _ (List.mem_of_getElem? (i := 11) rfl)) (hw _ (List.mem_of_getElem? (i := 12) rfl)) (hw _ (List.mem_of_getElem? (i := 14) rfl)) (hw _ (List.mem_of_getElem? (i := 13) rfl)) (hw _ (List.mem_of_getElem? (i := 2) rfl)) (hw _ (List.mem_of_getElem? (i := 15) rfl)) (by decide) (rmO l Z a0 hw a14 p50 p1 T53.heap n0 Z67 F63 F62) rfl E61 [] [] rfl rfl (by rw [hml]; rfl) (notFace_of_selects (args := #[]) (mvT hZ (hw _ (List.mem_of_getElem? (i := 14) rfl)))) (lenOf own_pd___Z rfl) 0 (Nat.le_of_eq rfl) (by decide) (by decide) (by decide) (by decide) (hb hby at_61) ?_
        intro v404 T405 L406 X407 q408
        obtain ⟨rfl, N409, e410⟩ := q408
        have N411 := Fr.app N66 N409
        show OGoal p e below s _ _ _ (T405.setTop (mkF m 64 #[.val (.int p1), .val (.int p2), .val (.ref a14), .val (.int (1 : Int32)), .unset, .unset, .unset, .unset, .unset] [(.int (if p50 < p1 then (1 : Int32) else 0))]))
        have hd412 : ¬ (p50 < p1) := mNlt (by omega)
        rw [if_neg hd412]
        show OGoal p e below s _ _ _ (T405.setTop (mkF m 64 #[.val (.int p1), .val (.int p2), .val (.ref a14), .val (.int (1 : Int32)), .unset, .unset, .unset, .unset, .unset] [(.int (0 : Int32))]))
        refine OGoal.mp (S' := (T405.setTop (mkF m 66 #[.val (.int p1), .val (.int p2), .val (.ref a14), .val (.int (1 : Int32)), .val (.int (0 : Int32)), .unset, .unset, .unset, .unset] []))) (fun _ k => XS.istore X407.here hx rfl (hb hby at_64) rfl (l' := #[.val (.int p1), .val (.int p2), .val (.ref a14), .val (.int (1 : Int32)), .val (.int (0 : Int32)), .unset, .unset, .unset, .unset]) rfl k) ?_
        refine OGoal.mp (S' := (T405.setTop (mkF m 68 #[.val (.int p1), .val (.int p2), .val (.ref a14), .val (.int (1 : Int32)), .val (.int (0 : Int32)), .unset, .unset, .unset, .unset] [(.int (0 : Int32))]))) (fun _ k => XS.iload X407.here hx rfl (hb hby at_66) rfl k) ?_
        refine OGoal.mp (S' := (T405.setTop (mkF m 69 #[.val (.int p1), .val (.int p2), .val (.ref a14), .val (.int (1 : Int32)), .val (.int (0 : Int32)), .unset, .unset, .unset, .unset] [(.int p2), (.int (0 : Int32))]))) (fun _ k => XS.iloadN X407.here hx rfl (hb hby at_68) rfl k) ?_
        refine OGoal.mp (S' := (T405.setTop (mkF m 70 #[.val (.int p1), .val (.int p2), .val (.ref a14), .val (.int (1 : Int32)), .val (.int (0 : Int32)), .unset, .unset, .unset, .unset] [(.int (1 : Int32)), (.int p2), (.int (0 : Int32))]))) (fun _ k => XS.iconst X407.here hx rfl (hb hby at_69) k) ?_
        have hd413 : ¬ (p2 < (1 : Int32)) := mNlt (by omega)
        refine OGoal.mp (S' := (T405.setTop (mkF m 73 #[.val (.int p1), .val (.int p2), .val (.ref a14), .val (.int (1 : Int32)), .val (.int (0 : Int32)), .unset, .unset, .unset, .unset] [(.int (0 : Int32))]))) (fun _ k => XS.icmpNo X407.here hx rfl (hb hby at_70) rfl (XT.ii_lt_f hd413) k) ?_
        refine OGoal.mp (S' := (T405.setTop (mkF m 74 #[.val (.int p1), .val (.int p2), .val (.ref a14), .val (.int (1 : Int32)), .val (.int (0 : Int32)), .unset, .unset, .unset, .unset] [(.int p1), (.int (0 : Int32))]))) (fun _ k => XS.iloadN X407.here hx rfl (hb hby at_73) rfl k) ?_
        refine OGoal.mp (S' := (T405.setTop (mkF m 75 #[.val (.int p1), .val (.int p2), .val (.ref a14), .val (.int (1 : Int32)), .val (.int (0 : Int32)), .unset, .unset, .unset, .unset] [(.int (1 : Int32)), (.int p1), (.int (0 : Int32))]))) (fun _ k => XS.iconst X407.here hx rfl (hb hby at_74) k) ?_
        have hd414 : ¬ ((1 : Int32) < p1) := mNlt (by omega)
        refine OGoal.mp (S' := (T405.setTop (mkF m 82 #[.val (.int p1), .val (.int p2), .val (.ref a14), .val (.int (1 : Int32)), .val (.int (0 : Int32)), .unset, .unset, .unset, .unset] [(.int (0 : Int32))]))) (fun _ k => XS.icmpYes X407.here hx rfl (pc0 := 75) (pc' := 82) rfl (hb hby at_75) rfl (XT.ii_le_t hd414) (by decide) (by decide) k) ?_
        refine OGoal.mp (S' := (T405.setTop (mkF m 83 #[.val (.int p1), .val (.int p2), .val (.ref a14), .val (.int (1 : Int32)), .val (.int (0 : Int32)), .unset, .unset, .unset, .unset] [(.int (0 : Int32)), (.int (0 : Int32))]))) (fun _ k => XS.iconst X407.here hx rfl (hb hby at_82) k) ?_
        have hd415 : (0 : Int32) = (0 : Int32) := mEq (by omega)
        refine OGoal.mp (S' := (T405.setTop (mkF m 88 #[.val (.int p1), .val (.int p2), .val (.ref a14), .val (.int (1 : Int32)), .val (.int (0 : Int32)), .unset, .unset, .unset, .unset] []))) (fun _ k => XS.icmpYes X407.here hx rfl (pc0 := 83) (pc' := 88) rfl (hb hby at_83) rfl (XT.ii_eq_t hd415) (by decide) (by decide) k) ?_
        refine OGoal.mp (S' := (T405.setTop (mkF m 90 #[.val (.int p1), .val (.int p2), .val (.ref a14), .val (.int (1 : Int32)), .val (.int (0 : Int32)), .unset, .unset, .unset, .unset] [(.int (0 : Int32))]))) (fun _ k => XS.iload X407.here hx rfl (hb hby at_88) rfl k) ?_
        have hd416 : (0 : Int32) = 0 := mEq (by omega)
        refine OGoal.mp (S' := (T405.setTop (mkF m 93 #[.val (.int p1), .val (.int p2), .val (.ref a14), .val (.int (1 : Int32)), .val (.int (0 : Int32)), .unset, .unset, .unset, .unset] []))) (fun _ k => XS.ifNo X407.here hx rfl (hb hby at_90) rfl (XT.i0_ne_f hd416) k) ?_
        refine OGoal.mp (S' := (T405.setTop (mkF m 94 #[.val (.int p1), .val (.int p2), .val (.ref a14), .val (.int (1 : Int32)), .val (.int (0 : Int32)), .unset, .unset, .unset, .unset] [(.ref a14)]))) (fun _ k => XS.aloadN X407.here hx rfl (hb hby at_93) rfl rfl k) ?_
        refine oCallV (y := (⟨"com/example/stepwise_medians/stepwisemedians/engine/LeadingRun", "length", "()I"⟩ : MethodName)) (z := (⟨"com/example/stepwise_medians/stepwisemedians/engine/LeadingRun", "length", "()I"⟩ : MethodName)) X407 hx hZ hown (hw _ (List.mem_of_getElem? (i := 18) rfl)) (hw _ (List.mem_of_getElem? (i := 19) rfl)) (hw _ (List.mem_of_getElem? (i := 21) rfl)) (hw _ (List.mem_of_getElem? (i := 20) rfl)) (hw _ (List.mem_of_getElem? (i := 2) rfl)) (hw _ (List.mem_of_getElem? (i := 22) rfl)) (by decide) (rmL l Z a0 hw a14 p50 T53.heap n0 Z67 F63) e410 E61 [] [] rfl rfl (by rw [hml]; rfl) (notFace_of_selects (args := #[]) (mvT hZ (hw _ (List.mem_of_getElem? (i := 21) rfl)))) (lenOf own_pd___I rfl) 0 (Nat.le_of_eq rfl) (by decide) (by decide) (by decide) (by decide) (hb hby at_94) ?_
        intro v417 T418 L419 X420 q421
        obtain ⟨rfl, N422, e423⟩ := q421
        have N424 := Fr.app N411 N422
        show OGoal p e below s _ _ _ (T418.setTop (mkF m 97 #[.val (.int p1), .val (.int p2), .val (.ref a14), .val (.int (1 : Int32)), .val (.int (0 : Int32)), .unset, .unset, .unset, .unset] [(.int p50)]))
        refine OGoal.mp (S' := (T418.setTop (mkF m 98 #[.val (.int p1), .val (.int p2), .val (.ref a14), .val (.int (1 : Int32)), .val (.int (0 : Int32)), .unset, .unset, .unset, .unset] [(.int p2), (.int p50)]))) (fun _ k => XS.iloadN X420.here hx rfl (hb hby at_97) rfl k) ?_
        refine OGoal.mp (S' := (T418.setTop (mkF m 99 #[.val (.int p1), .val (.int p2), .val (.ref a14), .val (.int (1 : Int32)), .val (.int (0 : Int32)), .unset, .unset, .unset, .unset] [(.int (1 : Int32)), (.int p2), (.int p50)]))) (fun _ k => XS.iconst X420.here hx rfl (hb hby at_98) k) ?_
        have hd425 : ¬ (p2 < (1 : Int32)) := mNlt (by omega)
        refine OGoal.mp (S' := (T418.setTop (mkF m 102 #[.val (.int p1), .val (.int p2), .val (.ref a14), .val (.int (1 : Int32)), .val (.int (0 : Int32)), .unset, .unset, .unset, .unset] [(.int p50)]))) (fun _ k => XS.icmpNo X420.here hx rfl (hb hby at_99) rfl (XT.ii_lt_f hd425) k) ?_
        refine OGoal.mp (S' := (T418.setTop (mkF m 103 #[.val (.int p1), .val (.int p2), .val (.ref a14), .val (.int (1 : Int32)), .val (.int (0 : Int32)), .unset, .unset, .unset, .unset] [(.int (1 : Int32)), (.int p50)]))) (fun _ k => XS.iconst X420.here hx rfl (hb hby at_102) k) ?_
        refine OGoal.mp (S' := (T418.setTop (mkF m 107 #[.val (.int p1), .val (.int p2), .val (.ref a14), .val (.int (1 : Int32)), .val (.int (0 : Int32)), .unset, .unset, .unset, .unset] [(.int (1 : Int32)), (.int p50)]))) (fun _ k => XS.goto X420.here hx rfl (pc0 := 103) (pc' := 107) rfl (hb hby at_103) (by decide) (by decide) k) ?_
        have hd426 : p50 = (1 : Int32) := mEq (by omega)
        refine OGoal.mp (S' := (T418.setTop (mkF m 110 #[.val (.int p1), .val (.int p2), .val (.ref a14), .val (.int (1 : Int32)), .val (.int (0 : Int32)), .unset, .unset, .unset, .unset] []))) (fun _ k => XS.icmpNo X420.here hx rfl (hb hby at_107) rfl (XT.ii_ne_f hd426) k) ?_
        refine OGoal.mp (S' := (T418.setTop (mkF m 111 #[.val (.int p1), .val (.int p2), .val (.ref a14), .val (.int (1 : Int32)), .val (.int (0 : Int32)), .unset, .unset, .unset, .unset] [(.int (1 : Int32))]))) (fun _ k => XS.iconst X420.here hx rfl (hb hby at_110) k) ?_
        refine OGoal.mp (S' := (T418.setTop (mkF m 115 #[.val (.int p1), .val (.int p2), .val (.ref a14), .val (.int (1 : Int32)), .val (.int (0 : Int32)), .unset, .unset, .unset, .unset] [(.int (1 : Int32))]))) (fun _ k => XS.goto X420.here hx rfl (pc0 := 111) (pc' := 115) rfl (hb hby at_111) (by decide) (by decide) k) ?_
        refine oRetZ X420 hx hlk hret (Or.inr rfl) (hb hby at_115) ?_ (by decide) (by decide)
        exact ⟨rfl, N424⟩
    · have g427 := oNlt hc48
      refine OGoal.mp (S' := (T36.setTop (mkF m 56 #[.val (.int p1), .val (.int p2), .val (.ref a14), .val (.int (1 : Int32)), .unset, .unset, .unset, .unset, .unset] [(.ref a14)]))) (fun _ k => XS.icmpYes X38.here hx rfl (pc0 := 49) (pc' := 56) rfl (hb hby at_49) rfl (XT.ii_ge_t hc48) (by decide) (by decide) k) ?_
      refine OGoal.mp (S' := (T36.setTop (mkF m 57 #[.val (.int p1), .val (.int p2), .val (.ref a14), .val (.int (1 : Int32)), .unset, .unset, .unset, .unset, .unset] [(.int (0 : Int32)), (.ref a14)]))) (fun _ k => XS.iconst X38.here hx rfl (hb hby at_56) k) ?_
      refine oCallV (y := (⟨"com/example/stepwise_medians/stepwisemedians/engine/LeadingRun", "record", "(Z)V"⟩ : MethodName)) (z := (⟨"com/example/stepwise_medians/stepwisemedians/engine/LeadingRun", "record", "(Z)V"⟩ : MethodName)) X38 hx hZ hown (hw _ (List.mem_of_getElem? (i := 23) rfl)) (hw _ (List.mem_of_getElem? (i := 24) rfl)) (hw _ (List.mem_of_getElem? (i := 26) rfl)) (hw _ (List.mem_of_getElem? (i := 25) rfl)) (hw _ (List.mem_of_getElem? (i := 2) rfl)) (hw _ (List.mem_of_getElem? (i := 27) rfl)) (by decide) (rmR0 l Z a0 hw a14 p1 (0 : Int32) (0 : Int32) T23.heap n0 Z34 E28 F29 F30 F31 F32 ab21) e41 E28 [(.int (0 : Int32))] [] rfl rfl (by rw [hml]; rfl) (notFace_of_selects (args := #[]) (mvT hZ (hw _ (List.mem_of_getElem? (i := 26) rfl)))) (lenOf own_pd__Z_V rfl) 0 (Nat.le_of_eq rfl) (by decide) (by decide) (by decide) (by decide) (hb hby at_57) ?_
      intro v429 T430 L431 X432 q433
      obtain ⟨q428, q434⟩ := q433
      obtain ⟨rfl, N435, E436, F437, F438, F439, F440⟩ := q434
      have N441 := Fr.app N42 N435
      have Z442 : n0 ≤ T430.heap.size := Nat.le_trans ab21 (Nat.le_of_lt E436.lt)
      show OGoal p e below s _ _ _ (T430.setTop (mkF m 60 #[.val (.int p1), .val (.int p2), .val (.ref a14), .val (.int (1 : Int32)), .unset, .unset, .unset, .unset, .unset] []))
      refine OGoal.mp (S' := (T430.setTop (mkF m 61 #[.val (.int p1), .val (.int p2), .val (.ref a14), .val (.int (1 : Int32)), .unset, .unset, .unset, .unset, .unset] [(.ref a14)]))) (fun _ k => XS.aloadN X432.here hx rfl (hb hby at_60) rfl rfl k) ?_
      refine oCallV (y := (⟨"com/example/stepwise_medians/stepwisemedians/engine/LeadingRun", "isOpen", "()Z"⟩ : MethodName)) (z := (⟨"com/example/stepwise_medians/stepwisemedians/engine/LeadingRun", "isOpen", "()Z"⟩ : MethodName)) X432 hx hZ hown (hw _ (List.mem_of_getElem? (i := 11) rfl)) (hw _ (List.mem_of_getElem? (i := 12) rfl)) (hw _ (List.mem_of_getElem? (i := 14) rfl)) (hw _ (List.mem_of_getElem? (i := 13) rfl)) (hw _ (List.mem_of_getElem? (i := 2) rfl)) (hw _ (List.mem_of_getElem? (i := 15) rfl)) (by decide) (rmO l Z a0 hw a14 (0 : Int32) (0 : Int32) T430.heap n0 Z442 F438 F437) rfl E436 [] [] rfl rfl (by rw [hml]; rfl) (notFace_of_selects (args := #[]) (mvT hZ (hw _ (List.mem_of_getElem? (i := 14) rfl)))) (lenOf own_pd___Z rfl) 0 (Nat.le_of_eq rfl) (by decide) (by decide) (by decide) (by decide) (hb hby at_61) ?_
      intro v443 T444 L445 X446 q447
      obtain ⟨rfl, N448, e449⟩ := q447
      have N450 := Fr.app N441 N448
      show OGoal p e below s _ _ _ (T444.setTop (mkF m 64 #[.val (.int p1), .val (.int p2), .val (.ref a14), .val (.int (1 : Int32)), .unset, .unset, .unset, .unset, .unset] [(.int (if (0 : Int32) < (0 : Int32) then (1 : Int32) else 0))]))
      have hd451 : ¬ ((0 : Int32) < (0 : Int32)) := mNlt (by omega)
      rw [if_neg hd451]
      show OGoal p e below s _ _ _ (T444.setTop (mkF m 64 #[.val (.int p1), .val (.int p2), .val (.ref a14), .val (.int (1 : Int32)), .unset, .unset, .unset, .unset, .unset] [(.int (0 : Int32))]))
      refine OGoal.mp (S' := (T444.setTop (mkF m 66 #[.val (.int p1), .val (.int p2), .val (.ref a14), .val (.int (1 : Int32)), .val (.int (0 : Int32)), .unset, .unset, .unset, .unset] []))) (fun _ k => XS.istore X446.here hx rfl (hb hby at_64) rfl (l' := #[.val (.int p1), .val (.int p2), .val (.ref a14), .val (.int (1 : Int32)), .val (.int (0 : Int32)), .unset, .unset, .unset, .unset]) rfl k) ?_
      refine OGoal.mp (S' := (T444.setTop (mkF m 68 #[.val (.int p1), .val (.int p2), .val (.ref a14), .val (.int (1 : Int32)), .val (.int (0 : Int32)), .unset, .unset, .unset, .unset] [(.int (0 : Int32))]))) (fun _ k => XS.iload X446.here hx rfl (hb hby at_66) rfl k) ?_
      refine OGoal.mp (S' := (T444.setTop (mkF m 69 #[.val (.int p1), .val (.int p2), .val (.ref a14), .val (.int (1 : Int32)), .val (.int (0 : Int32)), .unset, .unset, .unset, .unset] [(.int p2), (.int (0 : Int32))]))) (fun _ k => XS.iloadN X446.here hx rfl (hb hby at_68) rfl k) ?_
      refine OGoal.mp (S' := (T444.setTop (mkF m 70 #[.val (.int p1), .val (.int p2), .val (.ref a14), .val (.int (1 : Int32)), .val (.int (0 : Int32)), .unset, .unset, .unset, .unset] [(.int (1 : Int32)), (.int p2), (.int (0 : Int32))]))) (fun _ k => XS.iconst X446.here hx rfl (hb hby at_69) k) ?_
      have hd452 : p2 < (1 : Int32) := mLt (by omega)
      refine OGoal.mp (S' := (T444.setTop (mkF m 82 #[.val (.int p1), .val (.int p2), .val (.ref a14), .val (.int (1 : Int32)), .val (.int (0 : Int32)), .unset, .unset, .unset, .unset] [(.int (0 : Int32))]))) (fun _ k => XS.icmpYes X446.here hx rfl (pc0 := 70) (pc' := 82) rfl (hb hby at_70) rfl (XT.ii_lt_t hd452) (by decide) (by decide) k) ?_
      refine OGoal.mp (S' := (T444.setTop (mkF m 83 #[.val (.int p1), .val (.int p2), .val (.ref a14), .val (.int (1 : Int32)), .val (.int (0 : Int32)), .unset, .unset, .unset, .unset] [(.int (0 : Int32)), (.int (0 : Int32))]))) (fun _ k => XS.iconst X446.here hx rfl (hb hby at_82) k) ?_
      have hd453 : (0 : Int32) = (0 : Int32) := mEq (by omega)
      refine OGoal.mp (S' := (T444.setTop (mkF m 88 #[.val (.int p1), .val (.int p2), .val (.ref a14), .val (.int (1 : Int32)), .val (.int (0 : Int32)), .unset, .unset, .unset, .unset] []))) (fun _ k => XS.icmpYes X446.here hx rfl (pc0 := 83) (pc' := 88) rfl (hb hby at_83) rfl (XT.ii_eq_t hd453) (by decide) (by decide) k) ?_
      refine OGoal.mp (S' := (T444.setTop (mkF m 90 #[.val (.int p1), .val (.int p2), .val (.ref a14), .val (.int (1 : Int32)), .val (.int (0 : Int32)), .unset, .unset, .unset, .unset] [(.int (0 : Int32))]))) (fun _ k => XS.iload X446.here hx rfl (hb hby at_88) rfl k) ?_
      have hd454 : (0 : Int32) = 0 := mEq (by omega)
      refine OGoal.mp (S' := (T444.setTop (mkF m 93 #[.val (.int p1), .val (.int p2), .val (.ref a14), .val (.int (1 : Int32)), .val (.int (0 : Int32)), .unset, .unset, .unset, .unset] []))) (fun _ k => XS.ifNo X446.here hx rfl (hb hby at_90) rfl (XT.i0_ne_f hd454) k) ?_
      refine OGoal.mp (S' := (T444.setTop (mkF m 94 #[.val (.int p1), .val (.int p2), .val (.ref a14), .val (.int (1 : Int32)), .val (.int (0 : Int32)), .unset, .unset, .unset, .unset] [(.ref a14)]))) (fun _ k => XS.aloadN X446.here hx rfl (hb hby at_93) rfl rfl k) ?_
      refine oCallV (y := (⟨"com/example/stepwise_medians/stepwisemedians/engine/LeadingRun", "length", "()I"⟩ : MethodName)) (z := (⟨"com/example/stepwise_medians/stepwisemedians/engine/LeadingRun", "length", "()I"⟩ : MethodName)) X446 hx hZ hown (hw _ (List.mem_of_getElem? (i := 18) rfl)) (hw _ (List.mem_of_getElem? (i := 19) rfl)) (hw _ (List.mem_of_getElem? (i := 21) rfl)) (hw _ (List.mem_of_getElem? (i := 20) rfl)) (hw _ (List.mem_of_getElem? (i := 2) rfl)) (hw _ (List.mem_of_getElem? (i := 22) rfl)) (by decide) (rmL l Z a0 hw a14 (0 : Int32) T430.heap n0 Z442 F438) e449 E436 [] [] rfl rfl (by rw [hml]; rfl) (notFace_of_selects (args := #[]) (mvT hZ (hw _ (List.mem_of_getElem? (i := 21) rfl)))) (lenOf own_pd___I rfl) 0 (Nat.le_of_eq rfl) (by decide) (by decide) (by decide) (by decide) (hb hby at_94) ?_
      intro v455 T456 L457 X458 q459
      obtain ⟨rfl, N460, e461⟩ := q459
      have N462 := Fr.app N450 N460
      show OGoal p e below s _ _ _ (T456.setTop (mkF m 97 #[.val (.int p1), .val (.int p2), .val (.ref a14), .val (.int (1 : Int32)), .val (.int (0 : Int32)), .unset, .unset, .unset, .unset] [(.int (0 : Int32))]))
      refine OGoal.mp (S' := (T456.setTop (mkF m 98 #[.val (.int p1), .val (.int p2), .val (.ref a14), .val (.int (1 : Int32)), .val (.int (0 : Int32)), .unset, .unset, .unset, .unset] [(.int p2), (.int (0 : Int32))]))) (fun _ k => XS.iloadN X458.here hx rfl (hb hby at_97) rfl k) ?_
      refine OGoal.mp (S' := (T456.setTop (mkF m 99 #[.val (.int p1), .val (.int p2), .val (.ref a14), .val (.int (1 : Int32)), .val (.int (0 : Int32)), .unset, .unset, .unset, .unset] [(.int (1 : Int32)), (.int p2), (.int (0 : Int32))]))) (fun _ k => XS.iconst X458.here hx rfl (hb hby at_98) k) ?_
      have hd463 : p2 < (1 : Int32) := mLt (by omega)
      refine OGoal.mp (S' := (T456.setTop (mkF m 106 #[.val (.int p1), .val (.int p2), .val (.ref a14), .val (.int (1 : Int32)), .val (.int (0 : Int32)), .unset, .unset, .unset, .unset] [(.int (0 : Int32))]))) (fun _ k => XS.icmpYes X458.here hx rfl (pc0 := 99) (pc' := 106) rfl (hb hby at_99) rfl (XT.ii_lt_t hd463) (by decide) (by decide) k) ?_
      refine OGoal.mp (S' := (T456.setTop (mkF m 107 #[.val (.int p1), .val (.int p2), .val (.ref a14), .val (.int (1 : Int32)), .val (.int (0 : Int32)), .unset, .unset, .unset, .unset] [(.int (0 : Int32)), (.int (0 : Int32))]))) (fun _ k => XS.iconst X458.here hx rfl (hb hby at_106) k) ?_
      have hd464 : (0 : Int32) = (0 : Int32) := mEq (by omega)
      refine OGoal.mp (S' := (T456.setTop (mkF m 110 #[.val (.int p1), .val (.int p2), .val (.ref a14), .val (.int (1 : Int32)), .val (.int (0 : Int32)), .unset, .unset, .unset, .unset] []))) (fun _ k => XS.icmpNo X458.here hx rfl (hb hby at_107) rfl (XT.ii_ne_f hd464) k) ?_
      refine OGoal.mp (S' := (T456.setTop (mkF m 111 #[.val (.int p1), .val (.int p2), .val (.ref a14), .val (.int (1 : Int32)), .val (.int (0 : Int32)), .unset, .unset, .unset, .unset] [(.int (1 : Int32))]))) (fun _ k => XS.iconst X458.here hx rfl (hb hby at_110) k) ?_
      refine OGoal.mp (S' := (T456.setTop (mkF m 115 #[.val (.int p1), .val (.int p2), .val (.ref a14), .val (.int (1 : Int32)), .val (.int (0 : Int32)), .unset, .unset, .unset, .unset] [(.int (1 : Int32))]))) (fun _ k => XS.goto X458.here hx rfl (pc0 := 111) (pc' := 115) rfl (hb hby at_111) (by decide) (by decide) k) ?_
      refine oRetZ X458 hx hlk hret (Or.inr rfl) (hb hby at_115) ?_ (by decide) (by decide)
      exact ⟨rfl, N462⟩
  · rw [if_neg hc43]
    have g465 := oNlt hc43
    show OGoal p e below s _ _ _ (T36.setTop (mkF m 13 #[.val (.int p1), .val (.int p2), .val (.ref a14), .unset, .unset, .unset, .unset, .unset, .unset] [(.int (0 : Int32))]))
    refine OGoal.mp (S' := (T36.setTop (mkF m 14 #[.val (.int p1), .val (.int p2), .val (.ref a14), .val (.int (0 : Int32)), .unset, .unset, .unset, .unset, .unset] []))) (fun _ k => XS.istoreN X38.here hx rfl (hb hby at_13) rfl (l' := #[.val (.int p1), .val (.int p2), .val (.ref a14), .val (.int (0 : Int32)), .unset, .unset, .unset, .unset, .unset]) rfl k) ?_
    refine OGoal.mp (S' := (T36.setTop (mkF m 15 #[.val (.int p1), .val (.int p2), .val (.ref a14), .val (.int (0 : Int32)), .unset, .unset, .unset, .unset, .unset] [(.int (0 : Int32))]))) (fun _ k => XS.iloadN X38.here hx rfl (hb hby at_14) rfl k) ?_
    refine OGoal.mp (S' := (T36.setTop (mkF m 16 #[.val (.int p1), .val (.int p2), .val (.ref a14), .val (.int (0 : Int32)), .unset, .unset, .unset, .unset, .unset] [(.int p1), (.int (0 : Int32))]))) (fun _ k => XS.iloadN X38.here hx rfl (hb hby at_15) rfl k) ?_
    have hd466 : ¬ (0 < p1) := mNlt (by omega)
    refine OGoal.mp (S' := (T36.setTop (mkF m 23 #[.val (.int p1), .val (.int p2), .val (.ref a14), .val (.int (0 : Int32)), .unset, .unset, .unset, .unset, .unset] [(.int (0 : Int32))]))) (fun _ k => XS.ifYes X38.here hx rfl (pc0 := 16) (pc' := 23) rfl (hb hby at_16) rfl (XT.i0_le_t hd466) (by decide) (by decide) k) ?_
    refine OGoal.mp (S' := (T36.setTop (mkF m 24 #[.val (.int p1), .val (.int p2), .val (.ref a14), .val (.int (0 : Int32)), .unset, .unset, .unset, .unset, .unset] [(.int (0 : Int32)), (.int (0 : Int32))]))) (fun _ k => XS.iconst X38.here hx rfl (hb hby at_23) k) ?_
    have hd467 : (0 : Int32) = (0 : Int32) := mEq (by omega)
    refine OGoal.mp (S' := (T36.setTop (mkF m 29 #[.val (.int p1), .val (.int p2), .val (.ref a14), .val (.int (0 : Int32)), .unset, .unset, .unset, .unset, .unset] []))) (fun _ k => XS.icmpYes X38.here hx rfl (pc0 := 24) (pc' := 29) rfl (hb hby at_24) rfl (XT.ii_eq_t hd467) (by decide) (by decide) k) ?_
    refine OGoal.mp (S' := (T36.setTop (mkF m 30 #[.val (.int p1), .val (.int p2), .val (.ref a14), .val (.int (0 : Int32)), .unset, .unset, .unset, .unset, .unset] [(.int (0 : Int32))]))) (fun _ k => XS.iloadN X38.here hx rfl (hb hby at_29) rfl k) ?_
    have hd468 : (0 : Int32) = 0 := mEq (by omega)
    refine OGoal.mp (S' := (T36.setTop (mkF m 33 #[.val (.int p1), .val (.int p2), .val (.ref a14), .val (.int (0 : Int32)), .unset, .unset, .unset, .unset, .unset] []))) (fun _ k => XS.ifNo X38.here hx rfl (hb hby at_30) rfl (XT.i0_ne_f hd468) k) ?_
    refine OGoal.mp (S' := (T36.setTop (mkF m 34 #[.val (.int p1), .val (.int p2), .val (.ref a14), .val (.int (0 : Int32)), .unset, .unset, .unset, .unset, .unset] [(.ref a14)]))) (fun _ k => XS.aloadN X38.here hx rfl (hb hby at_33) rfl rfl k) ?_
    refine oCallV (y := (⟨"com/example/stepwise_medians/stepwisemedians/engine/LeadingRun", "length", "()I"⟩ : MethodName)) (z := (⟨"com/example/stepwise_medians/stepwisemedians/engine/LeadingRun", "length", "()I"⟩ : MethodName)) X38 hx hZ hown (hw _ (List.mem_of_getElem? (i := 18) rfl)) (hw _ (List.mem_of_getElem? (i := 19) rfl)) (hw _ (List.mem_of_getElem? (i := 21) rfl)) (hw _ (List.mem_of_getElem? (i := 20) rfl)) (hw _ (List.mem_of_getElem? (i := 2) rfl)) (hw _ (List.mem_of_getElem? (i := 22) rfl)) (by decide) (rmL l Z a0 hw a14 (0 : Int32) T23.heap n0 Z34 F30) e41 E28 [] [] rfl rfl (by rw [hml]; rfl) (notFace_of_selects (args := #[]) (mvT hZ (hw _ (List.mem_of_getElem? (i := 21) rfl)))) (lenOf own_pd___I rfl) 0 (Nat.le_of_eq rfl) (by decide) (by decide) (by decide) (by decide) (hb hby at_34) ?_
    intro v469 T470 L471 X472 q473
    obtain ⟨rfl, N474, e475⟩ := q473
    have N476 := Fr.app N42 N474
    show OGoal p e below s _ _ _ (T470.setTop (mkF m 37 #[.val (.int p1), .val (.int p2), .val (.ref a14), .val (.int (0 : Int32)), .unset, .unset, .unset, .unset, .unset] [(.int (0 : Int32))]))
    have hd477 : (0 : Int32) = 0 := mEq (by omega)
    refine OGoal.mp (S' := (T470.setTop (mkF m 40 #[.val (.int p1), .val (.int p2), .val (.ref a14), .val (.int (0 : Int32)), .unset, .unset, .unset, .unset, .unset] []))) (fun _ k => XS.ifNo X472.here hx rfl (hb hby at_37) rfl (XT.i0_ne_f hd477) k) ?_
    refine OGoal.mp (S' := (T470.setTop (mkF m 41 #[.val (.int p1), .val (.int p2), .val (.ref a14), .val (.int (0 : Int32)), .unset, .unset, .unset, .unset, .unset] [(.int (1 : Int32))]))) (fun _ k => XS.iconst X472.here hx rfl (hb hby at_40) k) ?_
    refine OGoal.mp (S' := (T470.setTop (mkF m 45 #[.val (.int p1), .val (.int p2), .val (.ref a14), .val (.int (0 : Int32)), .unset, .unset, .unset, .unset, .unset] [(.int (1 : Int32))]))) (fun _ k => XS.goto X472.here hx rfl (pc0 := 41) (pc' := 45) rfl (hb hby at_41) (by decide) (by decide) k) ?_
    refine oRetZ X472 hx hlk hret (Or.inr rfl) (hb hby at_45) ?_ (by decide) (by decide)
    exact ⟨rfl, N476⟩
set_option maxRecDepth 65536 in
set_option maxHeartbeats 40000000 in
theorem comes_1 {Post : Tables → Env → Array Value → State → Outcome → State → Prop} (hpost : ∀ tb e args s v u, (limb_1_1.after args s (.returned v) u = true ∧ limb_1_2.after args s (.returned v) u = true ∧ True) → FrameEnd s (.returned v) u (Jvm.fieldLocs frame_1_writes args s ++ Jvm.arrayLocs frame_1_arrays args s ++ Jvm.staticLocs frame_1_statics s) 16 128 → Post tb e args s (.returned v) u) :
    ArmFor flags0 classFile x code maxLocals ret World_1 tables_1 room_1 Calls_1 rest_1 Pre_1 Post := by
  intro l hfl _ _ p e ha hc hk s m args below hf hA hF happ hP
  obtain ⟨hcalls, hrest, hpre⟩ := hP
  obtain ⟨-, -, -, hnamed, -, -, -, hat⟩ := (Spec.applies_iff hf).mp happ
  obtain ⟨hg, hn⟩ := and_e (Cond.before_iff.mp (show (Jvm.Cond.and given_1 narrow_1).before args s = true from hpre))
  obtain ⟨hcnt, hg⟩ := and_e hg
  obtain ⟨w0, w1, rfl⟩ : ∃ w0 w1 : Value, args = #[w0, w1] := by
    have hs : args.size = 2 := by simpa [Cond.value, given_1] using hcnt
    obtain ⟨L⟩ := args
    match L, hs with
    | [w0, w1], _ => exact ⟨w0, w1, rfl⟩
  have hw := fun d (hd : d ∈ tables_1) => atoms_spec (ws := Jvm.Cond.code x code maxLocals ret :: tables_1) hat d (List.mem_cons_of_mem _ hd)
  have hfit : Fit s := fun {y c} hc i hi => by
    obtain ⟨ha, rfl⟩ := Array.getElem?_eq_some_iff.mp hc
    have q := List.all_eq_true.mp ((Array.all_eq_true_iff_forall_mem.mp hF) _ (Array.getElem_mem ha)) i (List.mem_range.mpr hi)
    simpa [Array.getElem?_eq_getElem hi] using q
  obtain ⟨hg0, hg⟩ := and_e hg
  obtain ⟨i0, ei0⟩ := is_v hg0
  obtain rfl : w0 = (.int i0) := Option.some.inj ei0
  obtain ⟨i1, ei1⟩ := is_v hg
  obtain rfl : w1 = (.int i1) := Option.some.inj ei1
  obtain ⟨n, o, h1, h2, h3, _, L, rfl, ⟨rfl, N⟩, hq⟩ := rm0 l s _ hw i0 i1 s.heap s.heap.size (Nat.le_refl _)  tables_1 p e ha hc hk s m _ below hf ((Spec.applies_iff_loose hf).mp happ).1 ⟨rfl, State.Warmed39.refl s, rfl⟩ trivial
  refine ⟨n, _, h1, h2, h3, hpost _ _ _ _ _ _ ⟨Cond.after_iff.mpr rfl, Cond.after_iff.mpr (eq_i res_at (Term.int_eval (1)) rfl), trivial⟩ ⟨hq.1, hq.2.1, (hq.2.2.sift fun y hy => Or.inr (N y hy)).mono (by decide) (by decide)⟩⟩
theorem main_1_1 : Claimed_1_1 := comes_1 fun _ _ _ _ _ _ h hF => ⟨h.1, hF⟩
theorem main_1_2 : Claimed_1_2 := comes_1 fun _ _ _ _ _ _ h hF => ⟨h.2.1, hF⟩
end Jvm.Pilot.@@N@@
namespace Jvm.Pilot.@@N@@
open Jvm Jvm.ClassFile Sem Op Lib Jvm.Free Jvm.Stand Jvm.Pilot.@@N@@.Jvm.D
/-! MADE BY PROGRAM (witnessworld.py) out of the Statement's table words and the real class files: 10 classes; the members and pool entries that the words name. The judged class is class 1, her method 1. -/
namespace start1
open Jvm.ClassFile
def u (s : String) : CpInfo := .utf8 (stringToUtf16 s)
/-- a pool by its gaps: so many unusable entries, then the entry; so many at the end -/
def gap : Nat → List CpInfo → List CpInfo
  | 0, r => r
  | n + 1, r => .unusable :: gap n r
def poolList (es : List (Nat × CpInfo)) (last : Nat) : List CpInfo := es.foldr (fun e r => gap e.1 (e.2 :: r)) (gap last [])
def pool (es : List (Nat × CpInfo)) (last : Nat) : Array CpInfo := ⟨poolList es last⟩
def fileOf (pool : Array CpInfo) (this : Nat) (attrs : Array Attribute := #[]) (ms : Array MethodInfo := #[]) (fl : Nat := 33) (sup : Nat := 0) (ifs : Array Nat := #[]) (fds : Array FieldInfo := #[]) : ClassFile where
  minorVersion := 0
  majorVersion := 65
  constantPool := pool
  accessFlags := fl
  thisClass := this
  superClass := sup
  interfaces := ifs
  fields := fds
  methods := ms
  attributes := attrs
def plain (name : String) (sup : Option ClassId) : Class where
  name := name
  kind := .ordinary
  loader := none
  accessFlags := 33
  super := sup
  interfaces := #[]
  cf := none
  fields := #[]
  methods := #[]
  instanceTypes := #[]
  staticTypes := #[]
  resolved := #[]
  callSites := []
  init := .initialized
  statics := none
  mirror := none

def pool0 : Array CpInfo := pool [(5, u "<init>"), (0, u "()V"), (1, .class_ 10), (1, u "java/lang/Object")] 113

def k0c0 : Code := { maxStack := 0, maxLocals := 1, code := object_method_1_code, exceptionTable := #[], attributes := #[] }
def k0m0 : Method := { name := "<init>", desc := "()V", sig := { parameters := [], returnType := none }, accessFlags := 1, code := some k0c0 }
/-- java/lang/Object -/
def k0 : Class := { plain "java/lang/Object" none with
  accessFlags := 33
  interfaces := #[]
  cf := some (fileOf pool0 8 #[] #[{ accessFlags := 1, nameIndex := 5, descriptorIndex := 6, attributes := #[] }] 33 0 #[] #[])
  fields := #[]
  methods := #[k0m0]
  instanceTypes := #[]
  staticTypes := #[]
  resolved := Array.replicate 124 none
  statics := none }

def pool1 : Array CpInfo := pool [(2, .class_ 4), (1, u "java/lang/Object"), (0, u "<init>"), (0, u "()V"), (0, .class_ 8), (0, u "com/example/stepwise_medians/stepwisemedians/engine/LeadingRun"), (0, .methodref 7 10), (0, .nameAndType 5 11), (0, u "(I)V"), (0, .methodref 7 13), (0, .nameAndType 14 15), (0, u "isOpen"), (0, u "()Z"), (0, .methodref 7 17), (0, .nameAndType 18 19), (0, u "length"), (0, u "()I"), (0, .methodref 7 21), (0, .nameAndType 22 23), (0, u "record"), (0, u "(Z)V"), (0, .methodref 25 26), (0, .class_ 27), (0, .nameAndType 28 29), (0, u "java/lang/Math"), (0, u "min"), (0, u "(II)I"), (0, .class_ 31), (0, u "com/example/stepwise_medians/stepwisemedians/engine/LeadingRunIsOpenPinLaw"), (2, u "law"), (0, u "(II)Z")] 3

def k1m0 : Method := { name := "<init>", desc := "()V", sig := { parameters := [], returnType := none }, accessFlags := 1, code := none }
def k1c1 : Code := { maxStack := 3, maxLocals := 9, code := code, exceptionTable := #[], attributes := #[] }
def k1m1 : Method := { name := "law", desc := "(II)Z", sig := { parameters := [.int, .int], returnType := some .boolean }, accessFlags := 9, code := some k1c1 }
/-- com/example/stepwise_medians/stepwisemedians/engine/LeadingRunIsOpenPinLaw -/
def k1 : Class := { plain "com/example/stepwise_medians/stepwisemedians/engine/LeadingRunIsOpenPinLaw" (some 0) with
  accessFlags := 49
  interfaces := #[]
  cf := some (fileOf pool1 30 #[] #[{ accessFlags := 1, nameIndex := 5, descriptorIndex := 6, attributes := #[] }, { accessFlags := 9, nameIndex := 34, descriptorIndex := 35, attributes := #[] }] 49 2 #[] #[])
  fields := #[]
  methods := #[k1m0, k1m1]
  instanceTypes := #[]
  staticTypes := #[]
  resolved := Array.replicate 39 none
  statics := none }

def pool2 : Array CpInfo := pool [(1, .methodref 2 3), (0, .class_ 4), (0, .nameAndType 5 6), (0, u "java/lang/Object"), (0, u "<init>"), (0, u "()V"), (0, .fieldref 8 9), (0, .class_ 10), (0, .nameAndType 11 12), (0, u "com/example/stepwise_medians/stepwisemedians/engine/LeadingRun"), (0, u "failing"), (0, u "I"), (0, .fieldref 8 14), (0, .nameAndType 15 12), (0, u "passed"), (0, .fieldref 8 17), (0, .nameAndType 18 12), (0, u "probe"), (0, .fieldref 8 20), (0, .nameAndType 21 22), (0, u "bisecting"), (0, u "Z"), (0, .methodref 24 25), (0, .class_ 26), (0, .nameAndType 27 28), (0, u "java/lang/Math"), (0, u "min"), (0, u "(II)I"), (0, u "(I)V"), (2, u "isOpen"), (0, u "()Z"), (1, u "()I"), (0, u "record"), (0, u "(Z)V"), (0, u "length")] 2

def k2c0 : Code := { maxStack := 2, maxLocals := 2, code := prog_10_method_1_code, exceptionTable := #[], attributes := #[] }
def k2m0 : Method := { name := "<init>", desc := "(I)V", sig := { parameters := [.int], returnType := none }, accessFlags := 0, code := some k2c0 }
def k2c1 : Code := { maxStack := 2, maxLocals := 1, code := prog_10_method_2_code, exceptionTable := #[], attributes := #[] }
def k2m1 : Method := { name := "isOpen", desc := "()Z", sig := { parameters := [], returnType := some .boolean }, accessFlags := 0, code := some k2c1 }
def k2c2 : Code := { maxStack := 5, maxLocals := 2, code := prog_10_method_4_code, exceptionTable := #[], attributes := #[] }
def k2m2 : Method := { name := "record", desc := "(Z)V", sig := { parameters := [.boolean], returnType := none }, accessFlags := 0, code := some k2c2 }
def k2c3 : Code := { maxStack := 1, maxLocals := 1, code := prog_10_method_5_code, exceptionTable := #[], attributes := #[] }
def k2m3 : Method := { name := "length", desc := "()I", sig := { parameters := [], returnType := some .int }, accessFlags := 0, code := some k2c3 }
/-- com/example/stepwise_medians/stepwisemedians/engine/LeadingRun -/
def k2 : Class := { plain "com/example/stepwise_medians/stepwisemedians/engine/LeadingRun" (some 0) with
  accessFlags := 48
  interfaces := #[]
  cf := some (fileOf pool2 8 #[] #[{ accessFlags := 0, nameIndex := 5, descriptorIndex := 29, attributes := #[] }, { accessFlags := 0, nameIndex := 32, descriptorIndex := 33, attributes := #[] }, { accessFlags := 0, nameIndex := 36, descriptorIndex := 37, attributes := #[] }, { accessFlags := 0, nameIndex := 38, descriptorIndex := 35, attributes := #[] }] 48 2 #[] #[{ accessFlags := 2, nameIndex := 15, descriptorIndex := 12, attributes := #[] }, { accessFlags := 2, nameIndex := 11, descriptorIndex := 12, attributes := #[] }, { accessFlags := 2, nameIndex := 21, descriptorIndex := 22, attributes := #[] }, { accessFlags := 2, nameIndex := 18, descriptorIndex := 12, attributes := #[] }])
  fields := #[{ name := "passed", type := .int, accessFlags := 2, slot := 0, constantValue := 0 }, { name := "failing", type := .int, accessFlags := 2, slot := 1, constantValue := 0 }, { name := "bisecting", type := .boolean, accessFlags := 2, slot := 2, constantValue := 0 }, { name := "probe", type := .int, accessFlags := 2, slot := 3, constantValue := 0 }]
  methods := #[k2m0, k2m1, k2m2, k2m3]
  instanceTypes := #[.int, .int, .boolean, .int]
  staticTypes := #[]
  resolved := Array.replicate 41 none
  statics := none }

def pool3 : Array CpInfo := pool [(1, .class_ 2), (0, u "java/lang/Math"), (1, .class_ 6), (1, u "java/lang/Object"), (0, u "<init>"), (0, u "()V"), (89, .class_ 100), (1, u "java/lang/Math$RandomNumberGeneratorHolder"), (71, u "negativeZeroFloatBits"), (0, u "J"), (2, u "negativeZeroDoubleBits"), (24, u "min"), (43, u "$assertionsDisabled"), (0, u "Z"), (88, u "(II)I"), (2, u "twoToTheDoubleScaleDown"), (0, u "D"), (4, u "twoToTheDoubleScaleUp"), (9, u "E"), (3, u "PI"), (2, u "TAU"), (2, u "DEGREES_TO_RADIANS"), (0, u "RADIANS_TO_DEGREES")] 94

def k3m0 : Method := { name := "<init>", desc := "()V", sig := { parameters := [], returnType := none }, accessFlags := 2, code := none }
def k3c1 : Code := { maxStack := 2, maxLocals := 2, code := jdk_29_method_69_code, exceptionTable := #[], attributes := #[] }
def k3m1 : Method := { name := "min", desc := "(II)I", sig := { parameters := [.int, .int], returnType := some .int }, accessFlags := 9, code := some k3c1 }
/-- java/lang/Math -/
def k3 : Class := { plain "java/lang/Math" (some 0) with
  accessFlags := 49
  interfaces := #[]
  cf := some (fileOf pool3 1 #[.nestMembers #[98]] #[{ accessFlags := 2, nameIndex := 7, descriptorIndex := 8, attributes := #[] }, { accessFlags := 9, nameIndex := 201, descriptorIndex := 335, attributes := #[] }] 49 4 #[] #[{ accessFlags := 25, nameIndex := 354, descriptorIndex := 339, attributes := #[] }, { accessFlags := 25, nameIndex := 358, descriptorIndex := 339, attributes := #[] }, { accessFlags := 25, nameIndex := 361, descriptorIndex := 339, attributes := #[] }, { accessFlags := 26, nameIndex := 364, descriptorIndex := 339, attributes := #[] }, { accessFlags := 26, nameIndex := 365, descriptorIndex := 339, attributes := #[] }, { accessFlags := 26, nameIndex := 172, descriptorIndex := 173, attributes := #[] }, { accessFlags := 26, nameIndex := 176, descriptorIndex := 173, attributes := #[] }, { accessFlags := 8, nameIndex := 344, descriptorIndex := 339, attributes := #[] }, { accessFlags := 8, nameIndex := 338, descriptorIndex := 339, attributes := #[] }, { accessFlags := 4120, nameIndex := 245, descriptorIndex := 246, attributes := #[] }])
  fields := #[{ name := "E", type := .double, accessFlags := 25, slot := 0, constantValue := 0 }, { name := "PI", type := .double, accessFlags := 25, slot := 1, constantValue := 0 }, { name := "TAU", type := .double, accessFlags := 25, slot := 2, constantValue := 0 }, { name := "DEGREES_TO_RADIANS", type := .double, accessFlags := 26, slot := 3, constantValue := 0 }, { name := "RADIANS_TO_DEGREES", type := .double, accessFlags := 26, slot := 4, constantValue := 0 }, { name := "negativeZeroFloatBits", type := .long, accessFlags := 26, slot := 5, constantValue := 0 }, { name := "negativeZeroDoubleBits", type := .long, accessFlags := 26, slot := 6, constantValue := 0 }, { name := "twoToTheDoubleScaleUp", type := .double, accessFlags := 8, slot := 7, constantValue := 0 }, { name := "twoToTheDoubleScaleDown", type := .double, accessFlags := 8, slot := 8, constantValue := 0 }, { name := "$assertionsDisabled", type := .boolean, accessFlags := 4120, slot := 9, constantValue := 0 }]
  methods := #[k3m0, k3m1]
  instanceTypes := #[]
  staticTypes := #[.double, .double, .double, .double, .double, .long, .long, .double, .double, .boolean]
  resolved := Array.replicate 460 none
  statics := none }

def pool4 : Array CpInfo := pool [(1, u "java/lang/Cloneable"), (0, .class_ 1), (0, u "java/lang/Object"), (0, .class_ 3)] 3

/-- java/lang/Cloneable -/
def k4 : Class := { plain "java/lang/Cloneable" (some 0) with
  accessFlags := 1537
  interfaces := #[]
  cf := some (fileOf pool4 2 #[] #[] 1537 4 #[] #[])
  fields := #[]
  methods := #[]
  instanceTypes := #[]
  staticTypes := #[]
  resolved := Array.replicate 8 none
  statics := none }

def pool5 : Array CpInfo := pool [(1, u "java/io/Serializable"), (0, .class_ 1), (0, u "java/lang/Object"), (0, .class_ 3)] 3

/-- java/io/Serializable -/
def k5 : Class := { plain "java/io/Serializable" (some 0) with
  accessFlags := 1537
  interfaces := #[]
  cf := some (fileOf pool5 2 #[] #[] 1537 4 #[] #[])
  fields := #[]
  methods := #[]
  instanceTypes := #[]
  staticTypes := #[]
  resolved := Array.replicate 8 none
  statics := none }

/-- the primitive byte -/
def k6 : Class := { plain "byte" none with kind := .primitive 'B', accessFlags := 0x411 }
/-- [B -/
def k7 : Class := { plain "[B" (some 0) with kind := .array 6 .byte, interfaces := #[4, 5], accessFlags := 1041 }

/-- the primitive int -/
def k8 : Class := { plain "int" none with kind := .primitive 'I', accessFlags := 0x411 }
/-- [I -/
def k9 : Class := { plain "[I" (some 0) with kind := .array 8 .int, interfaces := #[4, 5], accessFlags := 1041 }

def heap : Heap := #[]
def classes : Array Class := #[k0, k1, k2, k3, k4, k5, k6, k7, k8, k9]
def interned : List (Array UInt16 × Addr) := []
def slotsUsed : Nat := 0
def theMethod : MethodId := ⟨1, 1⟩
def args0 : Array Value := #[.int 5, .int 3]
def aboutOver (below : List Frame) : State where
  vm := { classes := classes, interned := interned.toArray }
  heap := heap
  slotsUsed := slotsUsed
  threads := #[{ frames := .invoking theMethod args0 :: below }]
def below0 : List Frame := [.native { method := ⟨0, 0⟩, args := #[] }]
def about1 : State := aboutOver below0
def p0 : Program := .bare "" "" ""
def e0 : Env := launch0.env 0 0 0
theorem w_frames : about1.frames = Frame.invoking theMethod args0 :: below0 := rfl
set_option maxRecDepth 65536 in
theorem w_args : argsFit about1.vm theMethod args0 = true := by decide +kernel
set_option maxRecDepth 65536 in
theorem w_heap : heapFits about1 = true := by decide +kernel
set_option maxRecDepth 65536 in
theorem w_runnable : about1.curStatus? = some .runnable := by decide +kernel
set_option maxRecDepth 65536 in
theorem w_alone : about1.alone = true := by decide +kernel
set_option maxRecDepth 65536 in
theorem w_named : about1.methodNamed? x = some theMethod := by decide +kernel
set_option maxRecDepth 65536 in
theorem w_hears : about1.hears theMethod below0 = true := by decide +kernel
set_option maxRecDepth 65536 in
theorem w_ripe : about1.ripe theMethod args0 below0 = true := by decide +kernel
theorem w_running : about1.status = .running := rfl
set_option maxRecDepth 65536 in
theorem w_room : about1.hasRoom e0.platform room_1 = true :=
  launch0.hasRoom_least _ room_1 (by decide +kernel) (by decide +kernel) (by decide +kernel) (by decide +kernel) (by decide +kernel) (by decide +kernel)
theorem allAtoms_all (ts : List Jvm.Cond) (a : Array Jvm.Value) (st : Jvm.State) : (allAtoms ts).before a st = ts.all (fun c => c.before a st) := by
  induction ts with
  | nil => rfl
  | cons c t ih =>
    show (Jvm.Cond.and c (allAtoms t)).before a st = _
    rw [Jvm.Cond.before_and, ih, List.all_cons]
def words1 : List Jvm.Cond := Jvm.Cond.code x code maxLocals ret :: tables_1
/-- a 'code' word, met by the world's own term for the bytes: nothing is compared byte by byte -/
theorem code_word {y : MethodName} {bytes : ByteArray} {mx : Nat} {rt : Option FieldType} {a : Array Value} {s : State} {m : MethodId} {meth : Method} {c : Code} (h1 : s.methodNamed? y = some m) (h2 : s.vm.method? m = some meth) (h3 : meth.code = some c) (h4 : c.code = bytes)
    (h5 : (c.maxLocals == mx && c.exceptionTable.isEmpty && decide (c.maxStack ≤ mostOperands) && decide (meth.sig.returnType = rt) && !meth.locks && decide (parseMethodDescriptor y.desc = some meth.sig)) = true) : (Jvm.Cond.code y bytes mx rt).before a s = true := by
  simp only [Bool.and_eq_true, beq_iff_eq, Bool.not_eq_true', decide_eq_true_eq] at h5
  obtain ⟨⟨⟨⟨⟨g1, g2⟩, g3⟩, g4⟩, g5⟩, g6⟩ := h5
  simp [Cond.before, Cond.holds, Cond.value, h1, h2, h3, h4, g1, g2, g3, g4, g5, g6]
def isCode : Jvm.Cond → Bool
  | .code _ _ _ _ => true
  | _ => false
theorem all_split {L : List Jvm.Cond} {P : Jvm.Cond → Bool} (h1 : L.all (fun c => isCode c || P c) = true) (h2 : ∀ c ∈ L.filter isCode, P c = true) : L.all P = true := by
  refine List.all_eq_true.mpr fun c hc => ?_
  have h := List.all_eq_true.mp h1 c hc
  rcases Bool.eq_false_or_eq_true (isCode c) with hi | hi
  · exact h2 c (List.mem_filter.mpr ⟨hc, hi⟩)
  · simpa [hi] using h
set_option maxRecDepth 65536 in
theorem w_c0 : (Jvm.Cond.code x code maxLocals ret).before args0 about1 = true := code_word (m := ⟨1, 1⟩) (meth := k1m1) (c := k1c1) (by decide +kernel) rfl rfl rfl (by decide +kernel)
set_option maxRecDepth 65536 in
theorem w_c1 : (Jvm.Cond.code ({ cls := "com/example/stepwise_medians/stepwisemedians/engine/LeadingRun", name := "<init>", desc := "(I)V" } : Jvm.MethodName) prog_10_method_1_code (2 : Nat) (Option.none : Option Jvm.ClassFile.FieldType)).before args0 about1 = true := code_word (m := ⟨2, 0⟩) (meth := k2m0) (c := k2c0) (by decide +kernel) rfl rfl rfl (by decide +kernel)
set_option maxRecDepth 65536 in
theorem w_c2 : (Jvm.Cond.code ({ cls := "java/lang/Object", name := "<init>", desc := "()V" } : Jvm.MethodName) object_method_1_code (1 : Nat) (Option.none : Option Jvm.ClassFile.FieldType)).before args0 about1 = true := code_word (m := ⟨0, 0⟩) (meth := k0m0) (c := k0c0) (by decide +kernel) rfl rfl rfl (by decide +kernel)
set_option maxRecDepth 65536 in
theorem w_c3 : (Jvm.Cond.code ({ cls := "com/example/stepwise_medians/stepwisemedians/engine/LeadingRun", name := "isOpen", desc := "()Z" } : Jvm.MethodName) prog_10_method_2_code (1 : Nat) (Option.some Jvm.ClassFile.FieldType.boolean)).before args0 about1 = true := code_word (m := ⟨2, 1⟩) (meth := k2m1) (c := k2c1) (by decide +kernel) rfl rfl rfl (by decide +kernel)
set_option maxRecDepth 65536 in
theorem w_c4 : (Jvm.Cond.code ({ cls := "com/example/stepwise_medians/stepwisemedians/engine/LeadingRun", name := "length", desc := "()I" } : Jvm.MethodName) prog_10_method_5_code (1 : Nat) (Option.some Jvm.ClassFile.FieldType.int)).before args0 about1 = true := code_word (m := ⟨2, 3⟩) (meth := k2m3) (c := k2c3) (by decide +kernel) rfl rfl rfl (by decide +kernel)
set_option maxRecDepth 65536 in
theorem w_c5 : (Jvm.Cond.code ({ cls := "com/example/stepwise_medians/stepwisemedians/engine/LeadingRun", name := "record", desc := "(Z)V" } : Jvm.MethodName) prog_10_method_4_code (2 : Nat) (Option.none : Option Jvm.ClassFile.FieldType)).before args0 about1 = true := code_word (m := ⟨2, 2⟩) (meth := k2m2) (c := k2c2) (by decide +kernel) rfl rfl rfl (by decide +kernel)
set_option maxRecDepth 65536 in
theorem w_c6 : (Jvm.Cond.code ({ cls := "java/lang/Math", name := "min", desc := "(II)I" } : Jvm.MethodName) jdk_29_method_69_code (2 : Nat) (Option.some Jvm.ClassFile.FieldType.int)).before args0 about1 = true := code_word (m := ⟨3, 1⟩) (meth := k3m1) (c := k3c1) (by decide +kernel) rfl rfl rfl (by decide +kernel)
def codes1 : List Jvm.Cond := [Jvm.Cond.code x code maxLocals ret, Jvm.Cond.code ({ cls := "com/example/stepwise_medians/stepwisemedians/engine/LeadingRun", name := "<init>", desc := "(I)V" } : Jvm.MethodName) prog_10_method_1_code (2 : Nat) (Option.none : Option Jvm.ClassFile.FieldType), Jvm.Cond.code ({ cls := "java/lang/Object", name := "<init>", desc := "()V" } : Jvm.MethodName) object_method_1_code (1 : Nat) (Option.none : Option Jvm.ClassFile.FieldType), Jvm.Cond.code ({ cls := "com/example/stepwise_medians/stepwisemedians/engine/LeadingRun", name := "isOpen", desc := "()Z" } : Jvm.MethodName) prog_10_method_2_code (1 : Nat) (Option.some Jvm.ClassFile.FieldType.boolean), Jvm.Cond.code ({ cls := "com/example/stepwise_medians/stepwisemedians/engine/LeadingRun", name := "length", desc := "()I" } : Jvm.MethodName) prog_10_method_5_code (1 : Nat) (Option.some Jvm.ClassFile.FieldType.int), Jvm.Cond.code ({ cls := "com/example/stepwise_medians/stepwisemedians/engine/LeadingRun", name := "record", desc := "(Z)V" } : Jvm.MethodName) prog_10_method_4_code (2 : Nat) (Option.none : Option Jvm.ClassFile.FieldType), Jvm.Cond.code ({ cls := "java/lang/Math", name := "min", desc := "(II)I" } : Jvm.MethodName) jdk_29_method_69_code (2 : Nat) (Option.some Jvm.ClassFile.FieldType.int)]
set_option maxRecDepth 65536 in
theorem codes_eq : words1.filter isCode = codes1 := rfl
theorem w_codes : ∀ c ∈ words1.filter isCode, c.before args0 about1 = true := by
  rw [codes_eq]
  intro c hc
  simp only [codes1, List.mem_cons, List.not_mem_nil, or_false] at hc
  rcases hc with rfl | rfl | rfl | rfl | rfl | rfl | rfl
  · exact w_c0
  · exact w_c1
  · exact w_c2
  · exact w_c3
  · exact w_c4
  · exact w_c5
  · exact w_c6
set_option maxRecDepth 65536 in
theorem w_t1 : (words1.take 24).all (fun c => isCode c || c.before args0 about1) = true := by decide +kernel
set_option maxRecDepth 65536 in
theorem w_t2 : (words1.drop 24).all (fun c => isCode c || c.before args0 about1) = true := by decide +kernel
theorem w_tables : (allAtoms (Jvm.Cond.code x code maxLocals ret :: tables_1)).before args0 about1 = true := by
  rw [allAtoms_all]
  show words1.all (fun c => c.before args0 about1) = true
  refine all_split ?_ w_codes
  rw [← List.take_append_drop 24 words1, List.all_append, w_t1, w_t2]
  rfl
set_option maxRecDepth 65536 in
theorem w_case : (Jvm.Cond.and given_1 narrow_1).before args0 about1 = true := by decide +kernel
theorem w_applies : (headSpec (Jvm.Cond.code x code maxLocals ret :: tables_1) room_1).applies x e0.platform about1 = true :=
  (Spec.applies_iff w_frames).mpr ⟨w_running, w_runnable, w_alone, w_named, w_hears, w_ripe, w_room, w_tables⟩
theorem atStart : AtStart classFile x code maxLocals ret World_1 tables_1 room_1 Calls_1 rest_1 Pre_1 launch0 p0 e0 about1 theMethod args0 below0 :=
  ⟨lists_1, trivial, launch0.admits_env _ _ _, launch0.least_env, fairChoices_fair.cas, fairChoices_fair.clock, w_frames, w_args, w_heap, w_applies, trivial, trivial, w_case⟩
end start1
theorem witness_1 : WitnessClaimed_1 := ⟨start1.p0, start1.e0, start1.about1, start1.theMethod, start1.args0, start1.below0, start1.atStart⟩
end Jvm.Pilot.@@N@@
