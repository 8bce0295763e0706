import JvmDerived
import JvmDerived.Pilot.@@N@@Statement
import JvmDerived.Pilot.@@N@@Code
set_option linter.unusedVariables false
set_option linter.unusedSimpArgs false
namespace Jvm.Pilot.@@N@@
open Jvm Jvm.ClassFile Sem Op Lib Jvm.Free Jvm.Stand Jvm.LawKit Jvm.RoadKit Bundle Jvm.Pilot.@@N@@.Jvm.D
/-! own helpers: the goal of a walk as one predicate, its steps, its calls -/
section OwnKit
variable {p : Program} {l : Launch} {e : Env} {R : Room} {s : State} {m : MethodId} {args : Array Value} {below : List Frame} {meth : Method} {c : Code} {T : State} {locs : List Loc} {cells slots : Nat} {Z : State} {a0 : Array Value} {h : Heap} {Q : Option Value → Heap → List Loc → Prop} {kc ks : Nat}
/-- from S the run ends, returns, and Q holds of what it returns, of the heap and of the places written -/
def OGoal (p : Program) (e : Env) (below : List Frame) (s : State) (Q : Option Value → Heap → List Loc → Prop) (kc ks : Nat) (S : State) : Prop :=
  ∃ s₂ o, Steps p.tables e below S s₂ ∧ s₂.status = .running ∧ Ended s₂ below o ∧ ∃ v L, o = .returned v ∧ Q v s₂.heap L ∧ FrameEnd s o s₂ L kc ks
theorem OGoal.mp {S S' : State} (k : ∀ t, Steps p.tables e below S' t → Steps p.tables e below S t) (g : OGoal p e below s Q kc ks S') : OGoal p e below s Q kc ks S := by
  obtain ⟨s₂, o, h1, h2⟩ := g
  exact ⟨s₂, o, k _ h1, h2⟩
theorem oRet (X : Stand p l e R s m args below meth c T locs cells slots) (hx : p.tables.exec = Jvm.exec) (hlk : meth.locks = false) {pc : Nat} {Ls : Array Slot} {w : Value} {t : FieldType} {i : Instr} {rest : List Value} (hret : meth.sig.returnType = some t) (hn : narrow t w = w)
    (hi : (i = .ireturn ∧ (t = .int ∨ t = .boolean ∨ t = .byte ∨ t = .char ∨ t = .short) ∧ ∃ z, w = .int z) ∨ (i = .lreturn ∧ t = .long ∧ ∃ z, w = .long z) ∨ (i = .dreturn ∧ t = .double ∧ ∃ z, w = .double z) ∨ (i = .freturn ∧ t = .float ∧ ∃ z, w = .float z) ∨ (i = .areturn ∧ t.isReference = true ∧ w.isRef = true))
    (hd : decode c.code pc = .ok (i, 1)) (hQ : Q (some w) T.heap locs) (hc : cells ≤ kc) (hs : slots ≤ ks) : OGoal p e below s Q kc ks (T.setTop (mkF m pc Ls (w :: rest))) := by
  obtain ⟨fs, hr, hrun, hended, hW, hsame⟩ := X.leave (v := some w) (fun q => by rw [hret] at q; cases q) hlk
  exact ⟨_, _, retOut X hx hret hn hi hd hr, hrun, hended, _, _, rfl, hQ, ⟨_, rfl⟩, hW, hsame.mono hc hs⟩
theorem oRetI (X : Stand p l e R s m args below meth c T locs cells slots) (hx : p.tables.exec = Jvm.exec) (hlk : meth.locks = false) {pc : Nat} {Ls : Array Slot} {z : Int32} {rest : List Value} (hret : meth.sig.returnType = some .int)
    (hd : decode c.code pc = .ok (.ireturn, 1)) (hQ : Q (some (.int z)) T.heap locs) (hc : cells ≤ kc) (hs : slots ≤ ks) : OGoal p e below s Q kc ks (T.setTop (mkF m pc Ls (.int z :: rest))) :=
  oRet X hx hlk hret rfl (Or.inl ⟨rfl, Or.inl rfl, _, rfl⟩) hd hQ hc hs
theorem oRetZ (X : Stand p l e R s m args below meth c T locs cells slots) (hx : p.tables.exec = Jvm.exec) (hlk : meth.locks = false) {pc : Nat} {Ls : Array Slot} {z : Int32} {rest : List Value} (hret : meth.sig.returnType = some .boolean) (hz : z = 0 ∨ z = 1)
    (hd : decode c.code pc = .ok (.ireturn, 1)) (hQ : Q (some (.int z)) T.heap locs) (hc : cells ≤ kc) (hs : slots ≤ ks) : OGoal p e below s Q kc ks (T.setTop (mkF m pc Ls (.int z :: rest))) :=
  oRet X hx hlk hret (by rcases hz with rfl | rfl <;> rfl) (Or.inl ⟨rfl, Or.inr (Or.inl rfl), _, rfl⟩) hd hQ hc hs
theorem oRetJ (X : Stand p l e R s m args below meth c T locs cells slots) (hx : p.tables.exec = Jvm.exec) (hlk : meth.locks = false) {pc : Nat} {Ls : Array Slot} {z : Int64} {rest : List Value} (hret : meth.sig.returnType = some .long)
    (hd : decode c.code pc = .ok (.lreturn, 1)) (hQ : Q (some (.long z)) T.heap locs) (hc : cells ≤ kc) (hs : slots ≤ ks) : OGoal p e below s Q kc ks (T.setTop (mkF m pc Ls (.long z :: rest))) :=
  oRet X hx hlk hret rfl (Or.inr (Or.inl ⟨rfl, rfl, _, rfl⟩)) hd hQ hc hs
theorem oRetD (X : Stand p l e R s m args below meth c T locs cells slots) (hx : p.tables.exec = Jvm.exec) (hlk : meth.locks = false) {pc : Nat} {Ls : Array Slot} {z : UInt64} {rest : List Value} (hret : meth.sig.returnType = some .double)
    (hd : decode c.code pc = .ok (.dreturn, 1)) (hQ : Q (some (.double z)) T.heap locs) (hc : cells ≤ kc) (hs : slots ≤ ks) : OGoal p e below s Q kc ks (T.setTop (mkF m pc Ls (.double z :: rest))) :=
  oRet X hx hlk hret rfl (Or.inr (Or.inr (Or.inl ⟨rfl, rfl, _, rfl⟩))) hd hQ hc hs
theorem oNarC {x : Int32} (h : 0 ≤ x.toInt ∧ x.toInt < 65536) : x.toUInt32.toUInt16.toUInt32.toInt32 = x := Int32.toInt_inj.mp (by have q := c_i2c x; omega)
theorem oNarB {x : Int32} (h : -128 ≤ x.toInt ∧ x.toInt < 128) : x.toInt8.toInt32 = x := Int32.toInt_inj.mp (by have q := c_i2b x; omega)
theorem oNarBB (x : Int32) : nar .byte x.toInt8.toInt32 = x.toInt8.toInt32 := oNarB ⟨(c_i2b x).2.1, (c_i2b x).2.2⟩
theorem oRetC (X : Stand p l e R s m args below meth c T locs cells slots) (hx : p.tables.exec = Jvm.exec) (hlk : meth.locks = false) {pc : Nat} {Ls : Array Slot} {z : Int32} {rest : List Value} (hret : meth.sig.returnType = some .char) (hz : 0 ≤ z.toInt ∧ z.toInt < 65536)
    (hd : decode c.code pc = .ok (.ireturn, 1)) (hQ : Q (some (.int z)) T.heap locs) (hc : cells ≤ kc) (hs : slots ≤ ks) : OGoal p e below s Q kc ks (T.setTop (mkF m pc Ls (.int z :: rest))) :=
  oRet X hx hlk hret (congrArg Value.int (oNarC hz)) (Or.inl ⟨rfl, Or.inr (Or.inr (Or.inr (Or.inl rfl))), _, rfl⟩) hd hQ hc hs
theorem oRetB (X : Stand p l e R s m args below meth c T locs cells slots) (hx : p.tables.exec = Jvm.exec) (hlk : meth.locks = false) {pc : Nat} {Ls : Array Slot} {z : Int32} {rest : List Value} (hret : meth.sig.returnType = some .byte) (hz : -128 ≤ z.toInt ∧ z.toInt < 128)
    (hd : decode c.code pc = .ok (.ireturn, 1)) (hQ : Q (some (.int z)) T.heap locs) (hc : cells ≤ kc) (hs : slots ≤ ks) : OGoal p e below s Q kc ks (T.setTop (mkF m pc Ls (.int z :: rest))) :=
  oRet X hx hlk hret (congrArg Value.int (oNarB hz)) (Or.inl ⟨rfl, Or.inr (Or.inr (Or.inl rfl)), _, rfl⟩) hd hQ hc hs
theorem oRetA (X : Stand p l e R s m args below meth c T locs cells slots) (hx : p.tables.exec = Jvm.exec) (hlk : meth.locks = false) {pc : Nat} {Ls : Array Slot} {w : Value} {t : FieldType} {rest : List Value} (hret : meth.sig.returnType = some t) (ht : t.isReference = true) (hw : w.isRef = true)
    (hd : decode c.code pc = .ok (.areturn, 1)) (hQ : Q (some w) T.heap locs) (hc : cells ≤ kc) (hs : slots ≤ ks) : OGoal p e below s Q kc ks (T.setTop (mkF m pc Ls (w :: rest))) :=
  oRet X hx hlk hret (by cases t <;> cases w <;> first | rfl | (cases ht; done) | (cases hw; done)) (Or.inr (Or.inr (Or.inr (Or.inr ⟨rfl, ht, hw⟩)))) hd hQ hc hs
theorem oRetV (X : Stand p l e R s m args below meth c T locs cells slots) (hx : p.tables.exec = Jvm.exec) (hlk : meth.locks = false) {pc : Nat} {Ls : Array Slot} (hret : meth.sig.returnType = none)
    (hd : decode c.code pc = .ok (.return_, 1)) (hQ : Q none T.heap locs) (hc : cells ≤ kc) (hs : slots ≤ ks) : OGoal p e below s Q kc ks (T.setTop (mkF m pc Ls [])) := by
  obtain ⟨fs, hr, hrun, hended, hW, hsame⟩ := X.leave (v := none) (fun _ => rfl) hlk
  exact ⟨_, _, X.returnOut hx hret hd hr, hrun, hended, _, _, rfl, hQ, ⟨_, rfl⟩, hW, hsame.mono hc hs⟩
/-- the contract of a method: called with as' over the heap h it returns, and Q holds; kc cells and ks slots are made at the most -/
def OConK (l : Launch) (Z : State) (y : MethodName) (bytes : ByteArray) (maxL : Nat) (ret : Option FieldType) (rm : Room) (kc ks : Nat) (as' : Array Value) (h : Heap) (Q : Option Value → Heap → List Loc → Prop) : Prop :=
  ∀ ws : List Jvm.Cond, MetFree l y (head1 (Jvm.Cond.code y bytes maxL ret :: ws) rm) (fun a U => a = as' ∧ Z.Warmed39 U.vm ∧ U.heap = h) (fun _ _ _ _ _ => True) (fun _ U o U' => ∃ v L, o = .returned v ∧ Q v U'.heap L ∧ FrameEnd U o U' L kc ks)
abbrev OCon (l : Launch) (Z : State) (y : MethodName) (bytes : ByteArray) (maxL : Nat) (ret : Option FieldType) (rm : Room) (as' : Array Value) (h : Heap) (Q : Option Value → Heap → List Loc → Prop) : Prop := OConK l Z y bytes maxL ret rm rm.cells rm.slots as' h Q
theorem OConK.intro {y : MethodName} {bytes : ByteArray} {maxL : Nat} {ret : Option FieldType} {rm : Room} {as' : Array Value} {Ls : Array Slot} (hpf : plainFor y = true) (ef : ∀ m, entryFrame m as' maxL = mkF m 0 Ls [])
    (H : ∀ p e s m below meth c s₁, p.tables.exec = Jvm.exec → c.code = bytes → c.maxLocals = maxL → s.vm.findClass y.cls = some m.cls → meth.name = y.name → meth.sig.returnType = ret → meth.locks = false → Z.Warmed39 s.vm →
      Stand p l e rm s m as' below meth c s₁ [] 0 0 → s₁.heap = h → OGoal p e below s Q kc ks (s₁.setTop (mkF m 0 Ls []))) : OConK l Z y bytes maxL ret rm kc ks as' h Q := by
  intro ws
  refine MetFree.of_bodySF hpf hisR ?_
  intro p e s m args below meth c s₁ Bd hml hP hK
  obtain ⟨rfl, hZ, hh⟩ := hP
  obtain ⟨s₂, o, h1, h2, h3, h4⟩ := H p e s m below meth c s₁ Bd.exec Bd.bytes hml (findClass_of_methodNamed Bd.named) (name_of_methodNamed Bd.named Bd.method).1 Bd.returns (BodyLoose.notSynchronized Bd) hZ (Stand.of_body Bd) (by rw [← hh, Bd.state]; rfl)
  exact ⟨s₂, o, castTop (ef m) h1, h2, h3, h4⟩
/-- weaker promise -/
theorem OConK.imp {y : MethodName} {bytes : ByteArray} {maxL : Nat} {ret : Option FieldType} {rm : Room} {as' : Array Value} {Q' : Option Value → Heap → List Loc → Prop} (H : OConK l Z y bytes maxL ret rm kc ks as' h Q) (k : ∀ v h' L, Q v h' L → Q' v h' L) : OConK l Z y bytes maxL ret rm kc ks as' h Q' := by
  intro ws p e ha hc hk s m args below hf happ hP hK
  obtain ⟨n, o, h1, h2, h3, v, L, h4, h5, h6⟩ := H ws p e ha hc hk s m args below hf happ hP hK
  exact ⟨n, o, h1, h2, h3, v, L, h4, k _ _ _ h5, h6⟩
theorem oCallS (X : Stand p l e R s m args below meth c T locs cells slots) (hx : p.tables.exec = Jvm.exec) (hZ : Z.Warmed39 s.vm) {own : String} {index : Nat} {y : MethodName} {bytes : ByteArray} {maxL : Nat} {ret : Option FieldType} {rm : Room} {as' : Array Value} {Qc : Option Value → Heap → List Loc → Prop}
    (hown : s.vm.findClass own = some m.cls) (w1 : (Jvm.Cond.methodLink own index y).before a0 Z = true) (w2 : (Jvm.Cond.static y).before a0 Z = true) (w3 : (Jvm.Cond.initialized y.cls).before a0 Z = true) (w4 : (Jvm.Cond.code y bytes maxL ret).before a0 Z = true)
    (hy : y.cls ≠ "java/lang/invoke/MethodHandle" ∧ y.cls ≠ "java/lang/invoke/VarHandle") (hM : OCon l Z y bytes maxL ret rm as' h Qc) (eT : T.heap = h) {pc : Nat} {Ls : Array Slot} {st : List Value} (argsL rest : List Value) (hst : st = argsL.reverse ++ rest) (has : argsL.toArray = as') (hsize : Ls.size = c.maxLocals)
    (hlen : ∀ sig, parseMethodDescriptor y.desc = some sig → argsL.length = sig.parameters.length) (W : Nat) (hW : (rest.map fun v => v.category).sum ≤ W) (hfr : rm.frames + 1 ≤ R.frames) (hlo : W + (maxL + 11) + rm.locals ≤ R.locals) (hce : cells + rm.cells ≤ R.cells) (hsl : slots + rm.slots ≤ R.slots)
    (hd : decode c.code pc = .ok (.invokestatic index, 3))
    (k : ∀ v T' Lc, Stand p l e R s m args below meth c T' (locs ++ Lc) (cells + rm.cells) (slots + rm.slots) → Qc v T'.heap Lc → OGoal p e below s Q kc ks (T'.setTop (mkF m (pc + 3) Ls (v.toList ++ rest)))) :
    OGoal p e below s Q kc ks (T.setTop (mkF m pc Ls st)) := by
  subst hst has
  obtain ⟨v, _, ⟨T', L', k', n'⟩, -, X', ⟨Lc, hQ, l', y', z'⟩, st⟩ := Jvm.LawKit.callS X hx (y := y) hown (mvT hZ w1) (mvT hZ w2) (mvT hZ w3) (mvT hZ w4) hy (backOf (W := W) (hM []) hZ w4 w3 hfr hlo) (g := mkF m pc Ls (argsL.reverse ++ rest)) rfl hsize (argsL := argsL) (rest := rest) hlen rfl (by show 2 * 0 + _ ≤ _; omega) hd (fun _ _ => ⟨rfl, eT, hce, hsl⟩)
  dsimp only [Pt.U, Pt.locs, Pt.cells, Pt.slots] at X' l' y' z' st hQ
  subst l' y' z'
  exact OGoal.mp st (k v T' Lc X' hQ)
theorem oCallV (X : Stand p l e R s m args below meth c T locs cells slots) (hx : p.tables.exec = Jvm.exec) (hZ : Z.Warmed39 s.vm) {own C : String} {index : Nat} {y z : MethodName} {bytes : ByteArray} {maxL : Nat} {ret : Option FieldType} {rm : Room} {as' : Array Value} {Qc : Option Value → Heap → List Loc → Prop}
    (hown : s.vm.findClass own = some m.cls) (w1 : (Jvm.Cond.methodLink own index y).before a0 Z = true) (w2 : (Jvm.Cond.declares y).before a0 Z = true) (w5 : (Jvm.Cond.selects C y z).before a0 Z = true) (w6 : (Jvm.Cond.instanceMethod z).before a0 Z = true) (w3 : (Jvm.Cond.initialized z.cls).before a0 Z = true) (w4 : (Jvm.Cond.code z bytes maxL ret).before a0 Z = true)
    (hy : y.cls ≠ "java/lang/invoke/MethodHandle" ∧ y.cls ≠ "java/lang/invoke/VarHandle") (hM : OCon l Z z bytes maxL ret rm as' h Qc) (eT : T.heap = h) {a : Addr} (E : Exa Z h a C) {pc : Nat} {Ls : Array Slot} {st : List Value} (argsL rest : List Value) (hst : st = argsL.reverse ++ .ref a :: rest) (has : (.ref a :: argsL).toArray = as') (hsize : Ls.size = c.maxLocals)
    (hnf : NotFace s y) (hlen : ∀ sig, parseMethodDescriptor y.desc = some sig → argsL.length = sig.parameters.length) (W : Nat) (hW : (rest.map fun v => v.category).sum ≤ W) (hfr : rm.frames + 1 ≤ R.frames) (hlo : W + (maxL + 11) + rm.locals ≤ R.locals) (hce : cells + rm.cells ≤ R.cells) (hsl : slots + rm.slots ≤ R.slots)
    (hd : decode c.code pc = .ok (.invokevirtual index, 3))
    (k : ∀ v T' Lc, Stand p l e R s m args below meth c T' (locs ++ Lc) (cells + rm.cells) (slots + rm.slots) → Qc v T'.heap Lc → OGoal p e below s Q kc ks (T'.setTop (mkF m (pc + 3) Ls (v.toList ++ rest)))) :
    OGoal p e below s Q kc ks (T.setTop (mkF m pc Ls st)) := by
  subst hst has
  obtain ⟨cq, kq, qa, qb, qc⟩ := isOf hZ eT E
  obtain ⟨v, _, ⟨T', L', k', n'⟩, -, X', ⟨Lc, hQ, l', y', z'⟩, st⟩ := X.virtualBack hx (y := y) (z := z) hown (mvT hZ w1) (mvT hZ w2) hnf (mvT hZ w5) (mvT hZ w6) hy (backOf (W := W) (hM []) hZ w4 w3 hfr hlo) qa qc (g := mkF m pc Ls (argsL.reverse ++ .ref a :: rest)) rfl hsize (Steps.refl _) (argsL := argsL) (rest := rest) hlen rfl (by show 2 * 0 + _ ≤ _; omega) hd (fun _ _ => ⟨rfl, eT, hce, hsl⟩)
  dsimp only [Pt.U, Pt.locs, Pt.cells, Pt.slots] at X' l' y' z' st hQ
  subst l' y' z'
  exact OGoal.mp (fun t q => st.trans q) (k v T' Lc X' hQ)
theorem oCallN (X : Stand p l e R s m args below meth c T locs cells slots) (hx : p.tables.exec = Jvm.exec) (hZ : Z.Warmed39 s.vm) {own : String} {index : Nat} {y : MethodName} {bytes : ByteArray} {maxL : Nat} {rm : Room} {as' : Array Value} {Qc : Option Value → Heap → List Loc → Prop}
    (hy1 : y.name = "<init>") (hown : s.vm.findClass own = some m.cls) (w1 : (Jvm.Cond.methodLink own index y).before a0 Z = true) (w6 : (Jvm.Cond.instanceMethod y).before a0 Z = true) (w3 : (Jvm.Cond.initialized y.cls).before a0 Z = true) (w4 : (Jvm.Cond.code y bytes maxL none).before a0 Z = true)
    (hy : y.cls ≠ "java/lang/invoke/MethodHandle" ∧ y.cls ≠ "java/lang/invoke/VarHandle") (hM : OCon l Z y bytes maxL none rm as' h Qc) (eT : T.heap = h) {a : Addr} {pc : Nat} {Ls : Array Slot} {st : List Value} (argsL rest : List Value) (hst : st = argsL.reverse ++ .ref a :: rest) (has : (.ref a :: argsL).toArray = as') (hsize : Ls.size = c.maxLocals)
    (hlen : ∀ sig, parseMethodDescriptor y.desc = some sig → argsL.length = sig.parameters.length) (W : Nat) (hW : (rest.map fun v => v.category).sum ≤ W) (hfr : rm.frames + 1 ≤ R.frames) (hlo : W + (maxL + 11) + rm.locals ≤ R.locals) (hce : cells + rm.cells ≤ R.cells) (hsl : slots + rm.slots ≤ R.slots)
    (hd : decode c.code pc = .ok (.invokespecial index, 3))
    (k : ∀ v T' Lc, Stand p l e R s m args below meth c T' (locs ++ Lc) (cells + rm.cells) (slots + rm.slots) → Qc v T'.heap Lc → OGoal p e below s Q kc ks (T'.setTop (mkF m (pc + 3) Ls (v.toList ++ rest)))) :
    OGoal p e below s Q kc ks (T.setTop (mkF m pc Ls st)) := by
  subst hst has
  obtain ⟨v, _, ⟨T', L', k', n'⟩, -, X', ⟨Lc, hQ, l', y', z'⟩, st⟩ := X.specialBack hx (y := y) hy1 hown (mvT hZ w1) (mvT hZ w6) (mvT hZ w4) hy (backOf (W := W) (hM []) hZ w4 w3 hfr hlo) (g := mkF m pc Ls (argsL.reverse ++ .ref a :: rest)) rfl hsize (Steps.refl _) (a := a) (argsL := argsL) (rest := rest) hlen rfl (by show 2 * 0 + _ ≤ _; omega) hd (fun _ _ => ⟨rfl, eT, hce, hsl⟩)
  dsimp only [Pt.U, Pt.locs, Pt.cells, Pt.slots] at X' l' y' z' st hQ
  subst l' y' z'
  exact OGoal.mp (fun t q => st.trans q) (k v T' Lc X' hQ)
theorem oNotFace {s : State} {C : String} {k : Nat} (h : (Jvm.Cond.instantiable C k).before args s = true) : ∃ c kc, s.vm.findClass C = some c ∧ s.vm.classes[c]? = some kc ∧ kc.isInterface = false := by
  obtain ⟨c, kc, h1, h2, -, h3, -, -⟩ := Cond.instantiable_spec h
  exact ⟨c, kc, h1, h2, (Bool.or_eq_false_iff.mp h3).1⟩
theorem oCallP (X : Stand p l e R s m args below meth c T locs cells slots) (hx : p.tables.exec = Jvm.exec) (hZ : Z.Warmed39 s.vm) {own C : String} {index : Nat} {y : MethodName} {bytes : ByteArray} {maxL : Nat} {ret : Option FieldType} {rm : Room} {as' : Array Value} {Qc : Option Value → Heap → List Loc → Prop}
    (hown : s.vm.findClass own = some m.cls) (w1 : (Jvm.Cond.methodLink own index y).before a0 Z = true) {kk : Nat} (w5 : (Jvm.Cond.instantiable y.cls kk).before a0 Z = true) (w6 : (Jvm.Cond.instanceMethod y).before a0 Z = true) (w7 : (Jvm.Cond.privateMethod y).before a0 Z = true) (w3 : (Jvm.Cond.initialized y.cls).before a0 Z = true) (w4 : (Jvm.Cond.code y bytes maxL ret).before a0 Z = true)
    (hy : y.cls ≠ "java/lang/invoke/MethodHandle" ∧ y.cls ≠ "java/lang/invoke/VarHandle") (hM : OCon l Z y bytes maxL ret rm as' h Qc) (eT : T.heap = h) {a : Addr} (E : Exa Z h a C) {pc : Nat} {Ls : Array Slot} {st : List Value} (argsL rest : List Value) (hst : st = argsL.reverse ++ .ref a :: rest) (has : (.ref a :: argsL).toArray = as') (hsize : Ls.size = c.maxLocals)
    (hlen : ∀ sig, parseMethodDescriptor y.desc = some sig → argsL.length = sig.parameters.length) (W : Nat) (hW : (rest.map fun v => v.category).sum ≤ W) (hfr : rm.frames + 1 ≤ R.frames) (hlo : W + (maxL + 11) + rm.locals ≤ R.locals) (hce : cells + rm.cells ≤ R.cells) (hsl : slots + rm.slots ≤ R.slots)
    (hd : decode c.code pc = .ok (.invokevirtual index, 3))
    (k : ∀ v T' Lc, Stand p l e R s m args below meth c T' (locs ++ Lc) (cells + rm.cells) (slots + rm.slots) → Qc v T'.heap Lc → OGoal p e below s Q kc ks (T'.setTop (mkF m (pc + 3) Ls (v.toList ++ rest)))) :
    OGoal p e below s Q kc ks (T.setTop (mkF m pc Ls st)) := by
  subst hst has
  obtain ⟨cq, q1, q2⟩ := E.cell
  obtain ⟨c1, k1, hc1, hk1, hi1⟩ := oNotFace (args := #[]) (mvT hZ w5)
  have hpr : s.PrivateAt y := Cond.privateMethod_at (mvP hZ w7 (args := #[]))
  have hse := selects_self_of_private (args := args) hc1 hk1 hi1 hpr (mvT hZ w6) hy
  obtain ⟨v, _, ⟨T', L', k', n'⟩, -, X', ⟨Lc, hQ, l', y', z'⟩, st⟩ := X.privateBack hx (y := y) hown (mvT hZ w1) (mvT hZ w6) hse hpr (mvT hZ w4) hy (backOf (W := W) (hM []) hZ w4 w3 hfr hlo) (g := mkF m pc Ls (argsL.reverse ++ .ref a :: rest)) rfl hsize (Steps.refl _) (a := a) (by rw [eT]; exact q1) q2 (argsL := argsL) (rest := rest) hlen rfl (by show 2 * 0 + _ ≤ _; omega) hd (fun _ _ => ⟨rfl, eT, hce, hsl⟩)
  dsimp only [Pt.U, Pt.locs, Pt.cells, Pt.slots] at X' l' y' z' st hQ
  subst l' y' z'
  exact OGoal.mp (fun t q => st.trans q) (k v T' Lc X' hQ)
theorem oLrem {g : JFrame} {target : State} (X : Stand p l e R s m args below meth c T locs cells slots) (hx : p.tables.exec = Jvm.exec) (hg : g.method = m) {x y : Int64} {rest : List Value} (hd : decode c.code g.pc = .ok (.lrem, 1)) (hs : g.stack = .long y :: .long x :: rest) (hy : y ≠ 0)
    (hr : Steps p.tables e below (T.setTop { g with pc := g.pc + 1, stack := .long (x % y) :: rest }) target) : Steps p.tables e below (T.setTop g) target := XT.lrem X.here hx hg hd hs hy (by rw [lrem_mod]; exact hr)
theorem oLt {x y : Int32} (h : x < y) : x.toInt < y.toInt := Int32.lt_iff_toInt_lt.mp h
theorem oNlt {x y : Int32} (h : ¬ x < y) : y.toInt ≤ x.toInt := Int.not_lt.mp fun q => h (Int32.lt_iff_toInt_lt.mpr q)
theorem oEq {x y : Int32} (h : x = y) : x.toInt = y.toInt := congrArg _ h
theorem oNe {x y : Int32} (h : ¬ x = y) : x.toInt ≠ y.toInt := fun q => h (Int32.toInt_inj.mp q)
theorem oLtL {x y : Int64} (h : x < y) : x.toInt < y.toInt := Int64.lt_iff_toInt_lt.mp h
theorem oNltL {x y : Int64} (h : ¬ x < y) : y.toInt ≤ x.toInt := Int.not_lt.mp fun q => h (Int64.lt_iff_toInt_lt.mpr q)
theorem oEqL {x y : Int64} (h : x = y) : x.toInt = y.toInt := congrArg _ h
theorem oNeL {x y : Int64} (h : ¬ x = y) : x.toInt ≠ y.toInt := fun q => h (Int64.toInt_inj.mp q)
theorem mLt {x y : Int32} (h : x.toInt < y.toInt) : x < y := Int32.lt_iff_toInt_lt.mpr h
theorem mNlt {x y : Int32} (h : y.toInt ≤ x.toInt) : ¬ x < y := fun q => absurd (oLt q) (Int.not_lt.mpr h)
theorem mEq {x y : Int32} (h : x.toInt = y.toInt) : x = y := Int32.toInt_inj.mp h
theorem mNe {x y : Int32} (h : x.toInt ≠ y.toInt) : ¬ x = y := fun q => h (congrArg _ q)
theorem mLtL {x y : Int64} (h : x.toInt < y.toInt) : x < y := Int64.lt_iff_toInt_lt.mpr h
theorem mNltL {x y : Int64} (h : y.toInt ≤ x.toInt) : ¬ x < y := fun q => absurd (oLtL q) (Int.not_lt.mpr h)
theorem mEqL {x y : Int64} (h : x.toInt = y.toInt) : x = y := Int64.toInt_inj.mp h
theorem mNeL {x y : Int64} (h : x.toInt ≠ y.toInt) : ¬ x = y := fun q => h (congrArg _ q)
theorem oRemL (x y : Int64) : 0 ≤ x.toInt → 0 < y.toInt → 0 ≤ (x % y).toInt ∧ (x % y).toInt < y.toInt := by
  intro h1 h2
  rw [Int64.toInt_mod, Int.tmod_eq_emod_of_nonneg h1]
  exact ⟨Int.emod_nonneg _ (by omega), Int.emod_lt_of_pos _ h2⟩
theorem oRemI (x y : Int32) : 0 ≤ x.toInt → 0 < y.toInt → 0 ≤ (x % y).toInt ∧ (x % y).toInt < y.toInt := by
  intro h1 h2
  rw [Int32.toInt_mod, Int.tmod_eq_emod_of_nonneg h1]
  exact ⟨Int.emod_nonneg _ (by omega), Int.emod_lt_of_pos _ h2⟩
/-- an array of kind ty, of length z, whose i-th component is f i -/
def OArr (Z : State) (h : Heap) (a : Addr) (ty : FieldType) (z : Int32) (f : Nat → Value) : Prop := ∃ c : Cell, Arr Z h a c ty ∧ c.slots.size = z.toNatClampNeg ∧ ¬ z < 0 ∧ ∀ i, i < c.slots.size → c.slots[i]? = some (f i)
section OArrs
variable {h' : Heap} {a b : Addr} {ty : FieldType} {z : Int32} {f : Nat → Value} {sl : Nat} {v : Value}
theorem OArr.lt (F : OArr Z h a ty z f) : a < h.size := by obtain ⟨c, A, -⟩ := F; exact A.lt
theorem OArr.ext (F : OArr Z h a ty z f) (E : Ext h h') : OArr Z h' a ty z f := by obtain ⟨c, A, r⟩ := F; exact ⟨c, A.ext E, r⟩
theorem OArr.other (F : OArr Z h b ty z f) (W : Wr h h' a sl v) (q : b ≠ a) : OArr Z h' b ty z f := by obtain ⟨c, A, r⟩ := F; exact ⟨c, A.other W q, r⟩
theorem OArr.keep {ws : List Addr} (F : OArr Z h a ty z f) (K : Keep h h' ws) (q : a ∉ ws) : OArr Z h' a ty z f := by obtain ⟨c, A, r⟩ := F; exact ⟨c, ⟨K.2.1 a c A.1 q, A.2⟩, r⟩
theorem OArr.imp {g : Nat → Value} (F : OArr Z h a ty z f) (k : ∀ i, i < z.toNatClampNeg → f i = g i) : OArr Z h a ty z g := by
  obtain ⟨c, A, S, r, G⟩ := F
  exact ⟨c, A, S, r, fun i hi => by rw [G i hi, k i (by rw [← S]; exact hi)]⟩
theorem OArr.new {k : ClassId} (A : Arr Z h a (newA k ty z) ty) (q : ¬ z < 0) : OArr Z h a ty z (fun _ => defaultValue ty) :=
  ⟨_, A, sz_new _ _ _, q, fun i hi => by simp only [newA, Array.size_replicate] at hi; simp [newA, hi]⟩
theorem OArr.set (F : OArr Z h a ty z f) (W : Wr h h' a sl v) : OArr Z h' a ty z (fun i => if i = sl then v else f i) := by
  obtain ⟨c, A, S, r, G⟩ := F
  refine ⟨_, A.same W, by rw [sz_set]; exact S, r, fun i hi => ?_⟩
  rw [sz_set] at hi
  show (c.setSlot sl v).slots[i]? = some (if i = sl then v else f i)
  by_cases q : i = sl
  · subst q; simp [Cell.setSlot, hi]
  · rw [if_neg q, ← G i hi]
    simp [Cell.setSlot, Array.getElem?_setIfInBounds, Ne.symm q]
theorem oNeA {C : String} {k : Nat} (E : Exa Z h a C) (wi : (Jvm.Cond.instantiable C k).before a0 Z = true) (F : OArr Z h b ty z f) : a ≠ b := by
  obtain ⟨c, A, -⟩ := F; exact ne_arr E wi A
theorem oIn {j : Int32} {n : Nat} (S : n = z.toNatClampNeg) (h1 : 0 ≤ j.toInt) (h2 : j.toInt < z.toInt) : ¬ (j < 0 ∨ n ≤ j.toNatClampNeg) := by
  intro q
  have e0 : (0 : Int32).toInt = 0 := by decide
  have e1 : j.toNatClampNeg = j.toInt.toNat := rfl
  have e2 : z.toNatClampNeg = z.toInt.toNat := rfl
  rcases q with q | q
  · have := oLt q; omega
  · rw [S, e1, e2] at q; omega
theorem oLen (X : Stand p l e R s m args below meth c T locs cells slots) (hx : p.tables.exec = Jvm.exec) (hZ : Z.Warmed39 s.vm) (eT : T.heap = h) (F : OArr Z h a ty z f) {g : JFrame} (hg : g.method = m) {rest : List Value} (hs : g.stack = .ref a :: rest) (hd : decode c.code g.pc = .ok (.arraylength, 1)) {target : State}
    (k : Steps p.tables e below (T.setTop { g with pc := g.pc + 1, stack := .int z :: rest }) target) : Steps p.tables e below (T.setTop g) target := by
  obtain ⟨cl, A, S, r, -⟩ := F
  refine X.arraylength hx (by rw [eT]; exact A.1) (State.isArrayOf_alike hZ.alike A.2.1) (g := g) hg hs hd _ ?_
  rw [len_of S r]; exact k
theorem oInd (F : OArr Z h a ty z f) {j : Int32} (h1 : 0 ≤ j.toInt) (h2 : j.toInt < z.toInt) : ∃ cl, Arr Z h a cl ty ∧ ¬ (j < 0 ∨ cl.slots.size ≤ j.toNatClampNeg) ∧ cl.slots[j.toNatClampNeg]? = some (f j.toNatClampNeg) := by
  obtain ⟨cl, A, S, r, G⟩ := F
  have q := oIn S h1 h2
  exact ⟨cl, A, q, G _ (Nat.lt_of_not_le fun w => q (Or.inr w))⟩
theorem oLdI (X : Stand p l e R s m args below meth c T locs cells slots) (hx : p.tables.exec = Jvm.exec) (hZ : Z.Warmed39 s.vm) (eT : T.heap = h) (F : OArr Z h a .int z f) {j x : Int32} (h1 : 0 ≤ j.toInt) (h2 : j.toInt < z.toInt) (hv : f j.toNatClampNeg = .int x) {g : JFrame} (hg : g.method = m) {rest : List Value} (hs : g.stack = .int j :: .ref a :: rest) (hd : decode c.code g.pc = .ok (.iaload, 1)) {target : State}
    (k : Steps p.tables e below (T.setTop { g with pc := g.pc + 1, stack := .int x :: rest }) target) : Steps p.tables e below (T.setTop g) target := by
  obtain ⟨cl, A, q, G⟩ := oInd F h1 h2
  rw [hv] at G
  exact X.iaload hx (j := j) (v := .int x) (by rw [eT]; exact A.1) (State.isArrayOf_alike hZ.alike A.2.1) A.2.2 q G (g := g) hg hs hd _ k
theorem oLdD (X : Stand p l e R s m args below meth c T locs cells slots) (hx : p.tables.exec = Jvm.exec) (hZ : Z.Warmed39 s.vm) (eT : T.heap = h) (F : OArr Z h a .double z f) {j : Int32} {x : UInt64} (h1 : 0 ≤ j.toInt) (h2 : j.toInt < z.toInt) (hv : f j.toNatClampNeg = .double x) {g : JFrame} (hg : g.method = m) {rest : List Value} (hs : g.stack = .int j :: .ref a :: rest) (hd : decode c.code g.pc = .ok (.daload, 1)) {target : State}
    (k : Steps p.tables e below (T.setTop { g with pc := g.pc + 1, stack := .double x :: rest }) target) : Steps p.tables e below (T.setTop g) target := by
  obtain ⟨cl, A, q, G⟩ := oInd F h1 h2
  rw [hv] at G
  exact X.daload hx (j := j) (v := .double x) (by rw [eT]; exact A.1) (State.isArrayOf_alike hZ.alike A.2.1) A.2.2 q G (g := g) hg hs hd _ k
theorem oLdR (X : Stand p l e R s m args below meth c T locs cells slots) (hx : p.tables.exec = Jvm.exec) (hZ : Z.Warmed39 s.vm) (eT : T.heap = h) (F : OArr Z h a ty z f) (hty : ty.isReference = true) {j : Int32} {x : Value} (h1 : 0 ≤ j.toInt) (h2 : j.toInt < z.toInt) (hv : f j.toNatClampNeg = x) {g : JFrame} (hg : g.method = m) {rest : List Value} (hs : g.stack = .int j :: .ref a :: rest) (hd : decode c.code g.pc = .ok (.aaload, 1)) {target : State}
    (k : Steps p.tables e below (T.setTop { g with pc := g.pc + 1, stack := x :: rest }) target) : Steps p.tables e below (T.setTop g) target := by
  obtain ⟨cl, A, q, G⟩ := oInd F h1 h2
  rw [hv] at G
  exact X.aaload hx (j := j) (v := x) (by rw [eT]; exact A.1) (State.isArrayOf_alike hZ.alike A.2.1) hty A.2.2 q G (g := g) hg hs hd _ k
theorem OArr.of_arv {kc : ClassId} {vs : List Value} {d : Value} (F : Arv Z h a kc ty z vs d) : OArr Z h a ty z (fun i => vs.getD i d) := by
  obtain ⟨c, A, -, S, r, H, -⟩ := F
  exact ⟨c, A, S, r, H⟩
theorem oKext (K : Keep h h' []) : Ext h h' := ⟨K.1, fun a c q => K.2.1 a c q (fun z => nomatch z)⟩
theorem oLdC (X : Stand p l e R s m args below meth c T locs cells slots) (hx : p.tables.exec = Jvm.exec) (hZ : Z.Warmed39 s.vm) (eT : T.heap = h) (F : OArr Z h a .char z f) {j x : Int32} (h1 : 0 ≤ j.toInt) (h2 : j.toInt < z.toInt) (hv : f j.toNatClampNeg = .int x) {g : JFrame} (hg : g.method = m) {rest : List Value} (hs : g.stack = .int j :: .ref a :: rest) (hd : decode c.code g.pc = .ok (.caload, 1)) {target : State}
    (k : Steps p.tables e below (T.setTop { g with pc := g.pc + 1, stack := .int x :: rest }) target) : Steps p.tables e below (T.setTop g) target := by
  obtain ⟨cl, A, q, G⟩ := oInd F h1 h2
  rw [hv] at G
  exact X.caload hx (j := j) (v := .int x) (by rw [eT]; exact A.1) (State.isArrayOf_alike hZ.alike A.2.1) A.2.2 q G (g := g) hg hs hd _ k
theorem oLdB (X : Stand p l e R s m args below meth c T locs cells slots) (hx : p.tables.exec = Jvm.exec) (hZ : Z.Warmed39 s.vm) (eT : T.heap = h) (F : OArr Z h a .byte z f) {j x : Int32} (h1 : 0 ≤ j.toInt) (h2 : j.toInt < z.toInt) (hv : f j.toNatClampNeg = .int x) {g : JFrame} (hg : g.method = m) {rest : List Value} (hs : g.stack = .int j :: .ref a :: rest) (hd : decode c.code g.pc = .ok (.baload, 1)) {target : State}
    (k : Steps p.tables e below (T.setTop { g with pc := g.pc + 1, stack := .int x :: rest }) target) : Steps p.tables e below (T.setTop g) target := by
  obtain ⟨cl, A, q, G⟩ := oInd F h1 h2
  rw [hv] at G
  exact X.baloadBytes hx (j := j) (v := .int x) (by rw [eT]; exact A.1) (State.isArrayOf_alike hZ.alike A.2.1) A.2.2 q G (g := g) hg hs hd _ k
theorem oLdZ (X : Stand p l e R s m args below meth c T locs cells slots) (hx : p.tables.exec = Jvm.exec) (hZ : Z.Warmed39 s.vm) (eT : T.heap = h) (F : OArr Z h a .boolean z f) {j x : Int32} (h1 : 0 ≤ j.toInt) (h2 : j.toInt < z.toInt) (hv : f j.toNatClampNeg = .int x) {g : JFrame} (hg : g.method = m) {rest : List Value} (hs : g.stack = .int j :: .ref a :: rest) (hd : decode c.code g.pc = .ok (.baload, 1)) {target : State}
    (k : Steps p.tables e below (T.setTop { g with pc := g.pc + 1, stack := .int x :: rest }) target) : Steps p.tables e below (T.setTop g) target := by
  obtain ⟨cl, A, q, G⟩ := oInd F h1 h2
  rw [hv] at G
  exact X.baloadBooleans hx (j := j) (v := .int x) (by rw [eT]; exact A.1) (State.isArrayOf_alike hZ.alike A.2.1) A.2.2 q G (g := g) hg hs hd _ k
theorem oStC (X : Stand p l e R s m args below meth c T locs cells slots) (hx : p.tables.exec = Jvm.exec) (hZ : Z.Warmed39 s.vm) (eT : T.heap = h) (F : OArr Z h a .char z f) {j x : Int32} (h1 : 0 ≤ j.toInt) (h2 : j.toInt < z.toInt) (hn : nar .char x = x) {g : JFrame} (hg : g.method = m) {rest : List Value} (hs : g.stack = .int x :: .int j :: .ref a :: rest) (hd : decode c.code g.pc = .ok (.castore, 1)) :
    ∃ T' h', Stand p l e R s m args below meth c T' (locs ++ [⟨a, j.toNatClampNeg⟩]) cells slots ∧ T'.heap = h' ∧ Wr h h' a j.toNatClampNeg (.int x) ∧ ∀ target, Steps p.tables e below (T'.setTop { g with pc := g.pc + 1, stack := rest }) target → Steps p.tables e below (T.setTop g) target := by
  obtain ⟨cl, A, q, G⟩ := oInd F h1 h2
  have r := stC X hx hZ eT A q hg hs hd
  rw [hn] at r; exact r
theorem oStB (X : Stand p l e R s m args below meth c T locs cells slots) (hx : p.tables.exec = Jvm.exec) (hZ : Z.Warmed39 s.vm) (eT : T.heap = h) (F : OArr Z h a .byte z f) {j x : Int32} (h1 : 0 ≤ j.toInt) (h2 : j.toInt < z.toInt) (hn : nar .byte x = x) {g : JFrame} (hg : g.method = m) {rest : List Value} (hs : g.stack = .int x :: .int j :: .ref a :: rest) (hd : decode c.code g.pc = .ok (.bastore, 1)) :
    ∃ T' h', Stand p l e R s m args below meth c T' (locs ++ [⟨a, j.toNatClampNeg⟩]) cells slots ∧ T'.heap = h' ∧ Wr h h' a j.toNatClampNeg (.int x) ∧ ∀ target, Steps p.tables e below (T'.setTop { g with pc := g.pc + 1, stack := rest }) target → Steps p.tables e below (T.setTop g) target := by
  obtain ⟨cl, A, q, G⟩ := oInd F h1 h2
  have r := stB X hx hZ eT A q hg hs hd
  rw [hn] at r; exact r
theorem oStZ (X : Stand p l e R s m args below meth c T locs cells slots) (hx : p.tables.exec = Jvm.exec) (hZ : Z.Warmed39 s.vm) (eT : T.heap = h) (F : OArr Z h a .boolean z f) {j x : Int32} (h1 : 0 ≤ j.toInt) (h2 : j.toInt < z.toInt) (hn : nar .boolean x = x) {g : JFrame} (hg : g.method = m) {rest : List Value} (hs : g.stack = .int x :: .int j :: .ref a :: rest) (hd : decode c.code g.pc = .ok (.bastore, 1)) :
    ∃ T' h', Stand p l e R s m args below meth c T' (locs ++ [⟨a, j.toNatClampNeg⟩]) cells slots ∧ T'.heap = h' ∧ Wr h h' a j.toNatClampNeg (.int x) ∧ ∀ target, Steps p.tables e below (T'.setTop { g with pc := g.pc + 1, stack := rest }) target → Steps p.tables e below (T.setTop g) target := by
  obtain ⟨cl, A, q, G⟩ := oInd F h1 h2
  have r := stZ X hx hZ eT A q hg hs hd
  rw [hn] at r; exact r
theorem oStI (X : Stand p l e R s m args below meth c T locs cells slots) (hx : p.tables.exec = Jvm.exec) (hZ : Z.Warmed39 s.vm) (eT : T.heap = h) (F : OArr Z h a .int z f) {j x : Int32} (h1 : 0 ≤ j.toInt) (h2 : j.toInt < z.toInt) {g : JFrame} (hg : g.method = m) {rest : List Value} (hs : g.stack = .int x :: .int j :: .ref a :: rest) (hd : decode c.code g.pc = .ok (.iastore, 1)) :
    ∃ T' h', Stand p l e R s m args below meth c T' (locs ++ [⟨a, j.toNatClampNeg⟩]) cells slots ∧ T'.heap = h' ∧ Wr h h' a j.toNatClampNeg (.int x) ∧ ∀ target, Steps p.tables e below (T'.setTop { g with pc := g.pc + 1, stack := rest }) target → Steps p.tables e below (T.setTop g) target := by
  obtain ⟨cl, A, q, G⟩ := oInd F h1 h2
  exact stI X hx hZ eT A q hg hs hd
theorem oStD (X : Stand p l e R s m args below meth c T locs cells slots) (hx : p.tables.exec = Jvm.exec) (hZ : Z.Warmed39 s.vm) (eT : T.heap = h) (F : OArr Z h a .double z f) {j : Int32} {x : UInt64} (h1 : 0 ≤ j.toInt) (h2 : j.toInt < z.toInt) {g : JFrame} (hg : g.method = m) {rest : List Value} (hs : g.stack = .double x :: .int j :: .ref a :: rest) (hd : decode c.code g.pc = .ok (.dastore, 1)) :
    ∃ T' h', Stand p l e R s m args below meth c T' (locs ++ [⟨a, j.toNatClampNeg⟩]) cells slots ∧ T'.heap = h' ∧ Wr h h' a j.toNatClampNeg (.double x) ∧ ∀ target, Steps p.tables e below (T'.setTop { g with pc := g.pc + 1, stack := rest }) target → Steps p.tables e below (T.setTop g) target := by
  obtain ⟨cl, A, q, G⟩ := oInd F h1 h2
  exact stD X hx hZ eT A q hg hs hd
theorem oClone (X : Stand p l e R s m args below meth c T locs cells slots) (hx : p.tables.exec = Jvm.exec) (hZ : Z.Warmed39 s.vm) {own ad : String} {index : Nat} (hown : s.vm.findClass own = some m.cls)
    (w1 : (Jvm.Cond.methodLink own index ⟨ad, "clone", "()Ljava/lang/Object;"⟩).before a0 Z = true) (w2 : (Jvm.Cond.sameMethod ad "java/lang/Object" "clone" "()Ljava/lang/Object;").before a0 Z = true) (w3 : (Jvm.Cond.native ⟨"java/lang/Object", "clone", "()Ljava/lang/Object;"⟩).before a0 Z = true)
    (w4 : (Jvm.Cond.instanceMethod ⟨"java/lang/Object", "clone", "()Ljava/lang/Object;"⟩).before a0 Z = true) (w5 : (Jvm.Cond.selects ad ⟨ad, "clone", "()Ljava/lang/Object;"⟩ ⟨"java/lang/Object", "clone", "()Ljava/lang/Object;"⟩).before a0 Z = true) (w6 : (Jvm.Cond.castable ad "java/lang/Cloneable").before a0 Z = true)
    (eT : T.heap = h) (F : OArr Z h a ty z f) (E : Exa Z h a ad) (hfit : ∀ i, i < z.toNatClampNeg → fits ty (f i) = true) {g : JFrame} (hg : g.method = m) (hsize : g.locals.size = c.maxLocals) {rest : List Value} (hst : g.stack = .ref a :: rest) (hd : decode c.code g.pc = .ok (.invokevirtual index, 3))
    (hf : 1 ≤ R.frames) {W cap : Nat} (hW : 2 * g.monitorRoom + (rest.map fun v => v.category).sum ≤ W) (hl : W + 14 ≤ R.locals) (hcap : z.toNatClampNeg ≤ cap) (hc : cells + 1 ≤ R.cells) (hsl : slots + cap ≤ R.slots) :
    ∃ T' h', Stand p l e R s m args below meth c T' locs (cells + 1) (slots + cap) ∧ T'.heap = h' ∧ Ext h h' ∧ OArr Z h' h.size ty z f ∧ Exa Z h' h.size ad ∧
      ∀ target, Steps p.tables e below (T'.setTop { g with pc := g.pc + 3, stack := .ref h.size :: rest }) target → Steps p.tables e below (T.setTop g) target := by
  obtain ⟨cl, A, S, r, G⟩ := F
  have FC : FitC Z cl := fitC_of A fun i hi v hv => by
    rw [G i hi] at hv; cases hv; exact hfit i (by rw [← S]; exact hi)
  obtain ⟨T', h', X', e', ex, A', E', st⟩ := cloneA X hx hZ hown w1 w2 w3 w4 w5 w6 eT A E FC hg hsize hst hd hf hW hl (by rw [S]; exact hcap) hc hsl
  exact ⟨T', h', X', e', ex, ⟨cloneOf cl, A', S, r, G⟩, E', st⟩
theorem oCopy (X : Stand p l e R s m args below meth c T locs cells slots) (hx : p.tables.exec = Jvm.exec) (hZ : Z.Warmed39 s.vm) {own : String} {index : Nat} (hown : s.vm.findClass own = some m.cls)
    (w1 : (Jvm.Cond.methodLink own index arraycopyName).before a0 Z = true) (w2 : (Jvm.Cond.native arraycopyName).before a0 Z = true) (w3 : (Jvm.Cond.static arraycopyName).before a0 Z = true) (w4 : (Jvm.Cond.initialized "java/lang/System").before a0 Z = true)
    (eT : T.heap = h) {za zb : Int32} {fb : Nat → Value} (Fa : OArr Z h a ty za f) (Fb : OArr Z h b ty zb fb) (hty : refKind ty = false) (hfit : ∀ i, i < za.toNatClampNeg → fits ty (f i) = true)
    {sp dp n : Int32} (h1 : 0 ≤ sp.toInt) (h2 : 0 ≤ dp.toInt) (h3 : 0 ≤ n.toInt) (h4 : sp.toInt + n.toInt ≤ za.toInt) (h5 : dp.toInt + n.toInt ≤ zb.toInt)
    {g : JFrame} (hg : g.method = m) (hsize : g.locals.size = c.maxLocals) {rest : List Value} (hst : g.stack = .int n :: .int dp :: .ref b :: .int sp :: .ref a :: rest) (hd : decode c.code g.pc = .ok (.invokestatic index, 3))
    (hf : 1 ≤ R.frames) (hl : 2 * g.monitorRoom + (rest.map fun v => v.category).sum + (nativeFrameWords "java/lang/System" "arraycopy" 5 + 11) ≤ R.locals) :
    ∃ T' h' L, Stand p l e R s m args below meth c T' (locs ++ L) cells slots ∧ T'.heap = h' ∧ Keep h h' [b] ∧ OArr Z h' b ty zb (fun i => if dp.toNatClampNeg ≤ i ∧ i < dp.toNatClampNeg + n.toNatClampNeg then f (sp.toNatClampNeg + (i - dp.toNatClampNeg)) else fb i) ∧ (∀ y ∈ L, y.base = b) ∧
      ∀ target, Steps p.tables e below (T'.setTop { g with pc := g.pc + 3, stack := rest }) target → Steps p.tables e below (T.setTop g) target := by
  obtain ⟨ca, Aa, Sa, ra, Ga⟩ := Fa
  obtain ⟨cb, Ab, Sb, rb, Gb⟩ := Fb
  subst eT
  obtain ⟨hsa, ka, hka, compa, hkinda⟩ := State.isArrayOf_alike hZ.alike Aa.2.1
  obtain ⟨hsb, kb, hkb, compb, hkindb⟩ := State.isArrayOf_alike hZ.alike Ab.2.1
  have e0 : (0 : Int32).toInt = 0 := by decide
  have ea : (ca.slots.size : Int) = za.toInt := by
    have := oNlt ra
    rw [Sa]; show (za.toInt.toNat : Int) = _; omega
  have eb : (cb.slots.size : Int) = zb.toInt := by
    have := oNlt rb
    rw [Sb]; show (zb.toInt.toNat : Int) = _; omega
  have es : (sp.toNatClampNeg : Int) = sp.toInt := by show (sp.toInt.toNat : Int) = _; omega
  have ed : (dp.toNatClampNeg : Int) = dp.toInt := by show (dp.toInt.toNat : Int) = _; omega
  have en : (n.toNatClampNeg : Int) = n.toInt := by show (n.toInt.toNat : Int) = _; omega
  have hv : ∀ i, i < n.toNatClampNeg → ca.slots.getD (sp.toNatClampNeg + i) .null = f (sp.toNatClampNeg + i) := fun i hi => by
    rw [Array.getD_eq_getD_getElem?, Ga _ (by omega)]; rfl
  obtain ⟨vm', X', st⟩ := X.arraycopy hx hown (mvT hZ w1) (mvT hZ w2) (mvT hZ w3) (mvT hZ w4) (src := a) (dst := b) (srcPos := sp) (destPos := dp) (n := n) Aa.1 Ab.1 hsa hsb Aa.2.2 Ab.2.2 hka hkb hkinda hkindb (by simp [hty]) (mNlt (by omega)) (mNlt (by omega)) (mNlt (by omega)) (by omega) (by omega)
    (fun vm₁ _ i hi => by
      have q := hfit (sp.toNatClampNeg + i) (by rw [← Sa]; omega)
      rw [hv i hi]
      refine ⟨q, ?_⟩
      cases hq : f (sp.toNatClampNeg + i) with
      | ref y => rw [hq] at q; cases ty <;> first | (cases hty; done) | (cases q; done)
      | _ => trivial) hg hsize hst hd hf hl
  obtain ⟨f1, f2, f3, -, -⟩ := Cell.storeRun_facts cb dp.toNatClampNeg (ca.stretch sp.toNatClampNeg n.toNatClampNeg)
  have hlen : (ca.stretch sp.toNatClampNeg n.toNatClampNeg).length = n.toNatClampNeg := Cell.stretch_length ..
  have hself : ((T.setVm vm').setCell b (copied ca cb sp dp n)).heap[b]? = some (copied ca cb sp dp n) := State.heap_setCell_self (show (T.setVm vm').heap[b]? = some cb from Ab.1)
  refine ⟨_, _, _, X', rfl, ⟨?_, ?_, ?_⟩, ⟨copied ca cb sp dp n, ⟨hself, ?_, ?_⟩, ?_, rb, ?_⟩, ?_, st⟩
  · exact Nat.le_of_eq (by simp [State.setCell, State.setVm])
  · intro x cx hx' hn
    rw [State.heap_setCell_other (fun q => hn (by rw [q]; exact List.mem_singleton.mpr rfl))]; exact hx'
  · intro x cx hx'
    by_cases q : b = x
    · subst q; rw [Ab.1] at hx'; cases hx'; exact ⟨_, hself, f1, f2, f3⟩
    · exact ⟨cx, by rw [State.heap_setCell_other q]; exact hx', rfl, rfl, rfl⟩
  · obtain ⟨u1, k1, u2, comp, u3⟩ := Ab.2.1
    exact ⟨fun k => by show (cb.storeRun _ _).vm ≠ _; rw [f2]; exact u1 k, k1, by show Z.vm.classes[(cb.storeRun _ _).cls]? = _; rw [f1]; exact u2, comp, u3⟩
  · show (cb.storeRun _ _).vm ≠ _
    rw [f2]; exact Ab.2.2
  · show (cb.storeRun _ _).slots.size = _
    rw [f3]; exact Sb
  · intro i hi
    have hi' : i < cb.slots.size := by
      have hi : i < (cb.storeRun dp.toNatClampNeg (ca.stretch sp.toNatClampNeg n.toNatClampNeg)).slots.size := hi
      rw [f3] at hi; exact hi
    show (cb.storeRun dp.toNatClampNeg (ca.stretch sp.toNatClampNeg n.toNatClampNeg)).slots[i]? = _
    rw [Cell.storeRun_get _ _ _ _ (by rw [hlen]; omega), hlen]
    dsimp only
    by_cases q : dp.toNatClampNeg ≤ i ∧ i < dp.toNatClampNeg + n.toNatClampNeg
    · rw [if_pos q, if_pos q, ← hv _ (by omega)]
      simp [Cell.stretch, show i - dp.toNatClampNeg < n.toNatClampNeg by omega]
    · rw [if_neg q, if_neg q]; exact Gb i hi'
  · intro y hy
    obtain ⟨q, _, rfl⟩ := List.mem_map.mp hy; rfl
end OArrs
/-- from a case's equation to the value -/
theorem oEqv {f s : State} {o : Option Outcome} {idx : List Nat} {a b : Term} (h : (Jvm.Cond.eq a b).value args f o s idx = some true) : ∃ x, a.eval args f o idx s = some x ∧ b.eval args f o idx s = some x := by
  obtain ⟨x, y, h1, h2, -, -⟩ := cmp_v (Or.inl h)
  cases x <;> cases y <;> simp [Cond.value, h1, h2] at h <;> first | (subst h; exact ⟨_, h1, h2⟩) | exact ⟨_, h1, h2⟩
theorem oFeq {s : State} {t u : Term} {x : Addr} {C n d : String} {w : Value} (ht : t.eval args s none [] s = some (.ref x)) (h : (Jvm.Cond.eq (.field t C n d) u).value args s none s [] = some true) (hu : u.eval args s none [] s = some w) : s.fieldOf? x C n d = some w := by
  obtain ⟨v, h1, h2⟩ := oEqv h
  rw [fld_at ht] at h1
  rw [h1, ← h2, hu]
theorem oNot {d : Jvm.Cond} {f s : State} {o : Option Outcome} {idx : List Nat} (h : (Jvm.Cond.not d).value args f o s idx = some true) (h2 : d.value args f o s idx = some true) : False := by
  rw [Cond.value, h2] at h
  cases h
end OwnKit
def Dq (Z : State) (h : Heap) (a : Addr) (fi en : Int32) (fk : Nat → UInt64) (n0 : Nat) : Prop := ∃ (k v q : Addr) (fv : Nat → UInt64) (fp : Nat → Int32), Exa Z h a "com/example/stepwise_medians/stepwisemedians/engine/EntryDeque" ∧ Fld Z h a "com/example/stepwise_medians/stepwisemedians/engine/EntryDeque" "keys" "[D" (.ref k) ∧ Fld Z h a "com/example/stepwise_medians/stepwisemedians/engine/EntryDeque" "values" "[D" (.ref v) ∧ Fld Z h a "com/example/stepwise_medians/stepwisemedians/engine/EntryDeque" "payloads" "[I" (.ref q) ∧ Fld Z h a "com/example/stepwise_medians/stepwisemedians/engine/EntryDeque" "first" "I" (.int fi) ∧ Fld Z h a "com/example/stepwise_medians/stepwisemedians/engine/EntryDeque" "end" "I" (.int en) ∧ OArr Z h k .double 8 (fun i => .double (fk i)) ∧ OArr Z h v .double 8 (fun i => .double (fv i)) ∧ OArr Z h q .int 8 (fun i => .int (fp i)) ∧ Exa Z h k "[D" ∧ Exa Z h v "[D" ∧ Exa Z h q "[I" ∧ k ≠ v ∧ k ≠ q ∧ v ≠ q ∧ n0 ≤ a ∧ n0 ≤ k ∧ n0 ≤ v ∧ n0 ≤ q
theorem Dq.sz {Z : State} {h : Heap} {a : Addr} {fi en : Int32} {fk : Nat → UInt64} {n0 : Nat} (H : Dq Z h a fi en fk n0) : n0 ≤ h.size ∧ n0 ≤ a := by
  obtain ⟨k, v, q, fv, fp, E, -, -, -, -, -, -, -, -, -, -, -, -, -, -, b0, -⟩ := H
  exact ⟨Nat.le_trans b0 (Nat.le_of_lt E.lt), b0⟩
theorem Dq.exa {Z : State} {h : Heap} {a : Addr} {fi en : Int32} {fk : Nat → UInt64} {n0 : Nat} (H : Dq Z h a fi en fk n0) : Exa Z h a "com/example/stepwise_medians/stepwisemedians/engine/EntryDeque" := by
  obtain ⟨k, v, q, fv, fp, E, -⟩ := H
  exact E
def own_sh (fk : Nat → UInt64) (k : Nat) (i : Nat) : UInt64 := if i < 8 - k then fk (k + i) else 0
def own_shI (fk : Nat → Int32) (k : Nat) (i : Nat) : Int32 := if i < 8 - k then fk (k + i) else 0
def own_K (p1 p2 p3 p4 : Int32) (j : Nat) : UInt64 := if j = 3 then FP.i2d p4 else if j = 2 then FP.i2d p3 else if j = 1 then FP.i2d p2 else if j = 0 then FP.i2d p1 else 0
theorem own_Kn (p1 p2 p3 p4 : Int32) (j : Nat) : Jvm.Free.Fl.NoNaN64 (own_K p1 p2 p3 p4 j) := by
  unfold own_K
  split
  · exact (Jvm.Free.Fl.i2d_fin _).noNaN
  split
  · exact (Jvm.Free.Fl.i2d_fin _).noNaN
  split
  · exact (Jvm.Free.Fl.i2d_fin _).noNaN
  split
  · exact (Jvm.Free.Fl.i2d_fin _).noNaN
  · have : Jvm.Free.Fl.Fin64 0 := by unfold Jvm.Free.Fl.Fin64; decide
    exact this.noNaN
theorem own_8 : (8 : Int32).toInt = 8 := by decide
theorem own_0 : (0 : Int32).toInt = 0 := by decide
theorem own_d_jdk_29_method_69_code_0 : decode jdk_29_method_69_code 0 = .ok (.iload_n 0, 1) := by decide +kernel
theorem own_d_jdk_29_method_69_code_1 : decode jdk_29_method_69_code 1 = .ok (.iload_n 1, 1) := by decide +kernel
theorem own_d_jdk_29_method_69_code_2 : decode jdk_29_method_69_code 2 = .ok (.if_icmp .gt 7, 3) := by decide +kernel
theorem own_d_jdk_29_method_69_code_5 : decode jdk_29_method_69_code 5 = .ok (.iload_n 0, 1) := by decide +kernel
theorem own_d_jdk_29_method_69_code_6 : decode jdk_29_method_69_code 6 = .ok (.goto 4, 3) := by decide +kernel
theorem own_d_jdk_29_method_69_code_10 : decode jdk_29_method_69_code 10 = .ok (.ireturn, 1) := by decide +kernel
theorem own_pf_java_lang_Math_min__II_I : plainFor (⟨"java/lang/Math", "min", "(II)I"⟩ : MethodName) = true := by decide +kernel
theorem own_ef_rmMin (x0 : Int32) (x1 : Int32) (m : MethodId) : entryFrame m #[(.int x0), (.int x1)] 2 = mkF m 0 #[.val (.int x0), .val (.int x1)] [] := by first | (simp [entryFrame, mkF, argsToLocals, Value.category]; done) | rfl
set_option maxRecDepth 65536 in
set_option maxHeartbeats 40000000 in
theorem rmMin (l : Launch) (Z : State) (a0 : Array Value) (hw : ∀ d ∈ tables_1, d.before a0 Z = true) (x1 y1 : Int32) (h0 : Heap) (n0 : Nat) (Z0 : n0 ≤ h0.size) (hm : x1.toInt ≤ y1.toInt) :
    OCon l Z (⟨"java/lang/Math", "min", "(II)I"⟩ : MethodName) jdk_29_method_69_code 2 (some .int) ({ frames := 0, cells := 0, slots := 0, locals := 0 } : Room) #[(.int x1), (.int y1)] h0 (fun v h L => v = some (.int x1) ∧ Fr n0 L ∧ h = h0) := by
  refine OConK.intro (y := (⟨"java/lang/Math", "min", "(II)I"⟩ : MethodName)) own_pf_java_lang_Math_min__II_I (own_ef_rmMin x1 y1) ?_
  intro p e s m below meth c s₁ hx hby hml hown hnm hret hlk hZ X0 e0
  show OGoal p e below s _ _ _ (s₁.setTop (mkF m 0 #[.val (.int x1), .val (.int y1)] []))
  refine OGoal.mp (S' := (s₁.setTop (mkF m 1 #[.val (.int x1), .val (.int y1)] [(.int x1)]))) (fun _ k => XS.iloadN X0.here hx rfl (hb hby own_d_jdk_29_method_69_code_0) rfl k) ?_
  refine OGoal.mp (S' := (s₁.setTop (mkF m 2 #[.val (.int x1), .val (.int y1)] [(.int y1), (.int x1)]))) (fun _ k => XS.iloadN X0.here hx rfl (hb hby own_d_jdk_29_method_69_code_1) rfl k) ?_
  refine OGoal.mp (S' := (s₁.setTop (mkF m 5 #[.val (.int x1), .val (.int y1)] []))) (fun _ k => XS.icmpNo X0.here hx rfl (hb hby own_d_jdk_29_method_69_code_2) rfl (XT.ii_gt_f (mNlt hm)) k) ?_
  refine OGoal.mp (S' := (s₁.setTop (mkF m 6 #[.val (.int x1), .val (.int y1)] [(.int x1)]))) (fun _ k => XS.iloadN X0.here hx rfl (hb hby own_d_jdk_29_method_69_code_5) rfl k) ?_
  refine OGoal.mp (S' := (s₁.setTop (mkF m 10 #[.val (.int x1), .val (.int y1)] [(.int x1)]))) (fun _ k => XS.goto X0.here hx rfl (pc0 := 6) (pc' := 10) rfl (hb hby own_d_jdk_29_method_69_code_6) (by decide) (by decide) k) ?_
  refine oRetI X0 hx hlk hret (hb hby own_d_jdk_29_method_69_code_10) ?_ (by decide) (by decide)
  exact ⟨rfl, (Fr.nil n0), e0⟩
theorem own_d_jdk_29_method_65_code_0 : decode jdk_29_method_65_code 0 = .ok (.iload_n 0, 1) := by decide +kernel
theorem own_d_jdk_29_method_65_code_1 : decode jdk_29_method_65_code 1 = .ok (.iload_n 1, 1) := by decide +kernel
theorem own_d_jdk_29_method_65_code_2 : decode jdk_29_method_65_code 2 = .ok (.if_icmp .lt 7, 3) := by decide +kernel
theorem own_d_jdk_29_method_65_code_5 : decode jdk_29_method_65_code 5 = .ok (.iload_n 0, 1) := by decide +kernel
theorem own_d_jdk_29_method_65_code_6 : decode jdk_29_method_65_code 6 = .ok (.goto 4, 3) := by decide +kernel
theorem own_d_jdk_29_method_65_code_10 : decode jdk_29_method_65_code 10 = .ok (.ireturn, 1) := by decide +kernel
theorem own_pf_java_lang_Math_max__II_I : plainFor (⟨"java/lang/Math", "max", "(II)I"⟩ : MethodName) = true := by decide +kernel
theorem own_ef_rmMax (x0 : Int32) (x1 : Int32) (m : MethodId) : entryFrame m #[(.int x0), (.int x1)] 2 = mkF m 0 #[.val (.int x0), .val (.int x1)] [] := by first | (simp [entryFrame, mkF, argsToLocals, Value.category]; done) | rfl
set_option maxRecDepth 65536 in
set_option maxHeartbeats 40000000 in
theorem rmMax (l : Launch) (Z : State) (a0 : Array Value) (hw : ∀ d ∈ tables_1, d.before a0 Z = true) (x1 y1 : Int32) (h0 : Heap) (n0 : Nat) (Z0 : n0 ≤ h0.size) (hm : y1.toInt ≤ x1.toInt) :
    OCon l Z (⟨"java/lang/Math", "max", "(II)I"⟩ : MethodName) jdk_29_method_65_code 2 (some .int) ({ frames := 0, cells := 0, slots := 0, locals := 0 } : Room) #[(.int x1), (.int y1)] h0 (fun v h L => v = some (.int x1) ∧ Fr n0 L ∧ h = h0) := by
  refine OConK.intro (y := (⟨"java/lang/Math", "max", "(II)I"⟩ : MethodName)) own_pf_java_lang_Math_max__II_I (own_ef_rmMax x1 y1) ?_
  intro p e s m below meth c s₁ hx hby hml hown hnm hret hlk hZ X0 e0
  show OGoal p e below s _ _ _ (s₁.setTop (mkF m 0 #[.val (.int x1), .val (.int y1)] []))
  refine OGoal.mp (S' := (s₁.setTop (mkF m 1 #[.val (.int x1), .val (.int y1)] [(.int x1)]))) (fun _ k => XS.iloadN X0.here hx rfl (hb hby own_d_jdk_29_method_65_code_0) rfl k) ?_
  refine OGoal.mp (S' := (s₁.setTop (mkF m 2 #[.val (.int x1), .val (.int y1)] [(.int y1), (.int x1)]))) (fun _ k => XS.iloadN X0.here hx rfl (hb hby own_d_jdk_29_method_65_code_1) rfl k) ?_
  refine OGoal.mp (S' := (s₁.setTop (mkF m 5 #[.val (.int x1), .val (.int y1)] []))) (fun _ k => XS.icmpNo X0.here hx rfl (hb hby own_d_jdk_29_method_65_code_2) rfl (XT.ii_lt_f (mNlt hm)) k) ?_
  refine OGoal.mp (S' := (s₁.setTop (mkF m 6 #[.val (.int x1), .val (.int y1)] [(.int x1)]))) (fun _ k => XS.iloadN X0.here hx rfl (hb hby own_d_jdk_29_method_65_code_5) rfl k) ?_
  refine OGoal.mp (S' := (s₁.setTop (mkF m 10 #[.val (.int x1), .val (.int y1)] [(.int x1)]))) (fun _ k => XS.goto X0.here hx rfl (pc0 := 6) (pc' := 10) rfl (hb hby own_d_jdk_29_method_65_code_6) (by decide) (by decide) k) ?_
  refine oRetI X0 hx hlk hret (hb hby own_d_jdk_29_method_65_code_10) ?_ (by decide) (by decide)
  exact ⟨rfl, (Fr.nil n0), e0⟩
theorem own_d_jdk_65_method_131_code_0 : decode jdk_65_method_131_code 0 = .ok (.iload_n 1, 1) := by decide +kernel
theorem own_d_jdk_65_method_131_code_1 : decode jdk_65_method_131_code 1 = .ok (.iload_n 0, 1) := by decide +kernel
theorem own_d_jdk_65_method_131_code_2 : decode jdk_65_method_131_code 2 = .ok (.if_icmp .ge 35, 3) := by decide +kernel
theorem own_d_jdk_65_method_131_code_37 : decode jdk_65_method_131_code 37 = .ok (.return_, 1) := by decide +kernel
theorem own_pn_java_util_Arrays : plainName "java/util/Arrays" = true := by first | (simp [plainName, overriddenIn]; done) | decide +kernel
theorem own_ef_rmCL (x0 : Int32) (x1 : Int32) (m : MethodId) : entryFrame m #[(.int x0), (.int x1)] 2 = mkF m 0 #[.val (.int x0), .val (.int x1)] [] := by first | (simp [entryFrame, mkF, argsToLocals, Value.category]; done) | rfl
set_option maxRecDepth 65536 in
set_option maxHeartbeats 40000000 in
theorem rmCL (l : Launch) (Z : State) (a0 : Array Value) (hw : ∀ d ∈ tables_1, d.before a0 Z = true) (x1 y1 : Int32) (h0 : Heap) (n0 : Nat) (Z0 : n0 ≤ h0.size) (hm : x1.toInt ≤ y1.toInt) :
    OCon l Z (⟨"java/util/Arrays", "checkLength", "(II)V"⟩ : MethodName) jdk_65_method_131_code 2 none ({ frames := 0, cells := 0, slots := 0, locals := 0 } : Room) #[(.int x1), (.int y1)] h0 (fun v h L => v = none ∧ Fr n0 L ∧ h = h0) := by
  refine OConK.intro (y := (⟨"java/util/Arrays", "checkLength", "(II)V"⟩ : MethodName)) (plainFor_of_name own_pn_java_util_Arrays) (own_ef_rmCL x1 y1) ?_
  intro p e s m below meth c s₁ hx hby hml hown hnm hret hlk hZ X0 e0
  show OGoal p e below s _ _ _ (s₁.setTop (mkF m 0 #[.val (.int x1), .val (.int y1)] []))
  refine OGoal.mp (S' := (s₁.setTop (mkF m 1 #[.val (.int x1), .val (.int y1)] [(.int y1)]))) (fun _ k => XS.iloadN X0.here hx rfl (hb hby own_d_jdk_65_method_131_code_0) rfl k) ?_
  refine OGoal.mp (S' := (s₁.setTop (mkF m 2 #[.val (.int x1), .val (.int y1)] [(.int x1), (.int y1)]))) (fun _ k => XS.iloadN X0.here hx rfl (hb hby own_d_jdk_65_method_131_code_1) rfl k) ?_
  refine OGoal.mp (S' := (s₁.setTop (mkF m 37 #[.val (.int x1), .val (.int y1)] []))) (fun _ k => XS.icmpYes X0.here hx rfl (pc0 := 2) (pc' := 37) rfl (hb hby own_d_jdk_65_method_131_code_2) rfl (XT.ii_ge_t (mNlt hm)) (by decide) (by decide) k) ?_
  refine oRetV X0 hx hlk hret (hb hby own_d_jdk_65_method_131_code_37) ?_ (by decide) (by decide)
  exact ⟨rfl, (Fr.nil n0), e0⟩
def Q_rD (Z : State) (fk : Nat → UInt64) (fr : Int32) (h0 : Heap) (n0 : Nat) (v : Option Value) (h : Heap) (L : List Loc) : Prop := ∃ r, v = some (.ref r) ∧ Fr n0 L ∧ Keep h0 h [] ∧ h0.size ≤ r ∧ OArr Z h r .double 8 (fun i => .double (own_sh fk fr.toInt.toNat i)) ∧ Exa Z h r "[D"
theorem own_d_jdk_65_method_145_code_0 : decode jdk_65_method_145_code 0 = .ok (.iload_n 1, 1) := by decide +kernel
theorem own_d_jdk_65_method_145_code_1 : decode jdk_65_method_145_code 1 = .ok (.iload_n 2, 1) := by decide +kernel
theorem own_d_jdk_65_method_145_code_2 : decode jdk_65_method_145_code 2 = .ok (.invokestatic 343, 3) := by decide +kernel
theorem own_pd__II_V : parseMethodDescriptor "(II)V" = some ⟨[.int, .int], none⟩ := by decide +kernel
theorem own_d_jdk_65_method_145_code_5 : decode jdk_65_method_145_code 5 = .ok (.iload_n 2, 1) := by decide +kernel
theorem own_d_jdk_65_method_145_code_6 : decode jdk_65_method_145_code 6 = .ok (.iload_n 1, 1) := by decide +kernel
theorem own_d_jdk_65_method_145_code_7 : decode jdk_65_method_145_code 7 = .ok (.isub, 1) := by decide +kernel
theorem own_d_jdk_65_method_145_code_8 : decode jdk_65_method_145_code 8 = .ok (.istore_n 3, 1) := by decide +kernel
theorem own_d_jdk_65_method_145_code_9 : decode jdk_65_method_145_code 9 = .ok (.iload_n 3, 1) := by decide +kernel
theorem own_d_jdk_65_method_145_code_10 : decode jdk_65_method_145_code 10 = .ok (.newarray .double, 2) := by decide +kernel
theorem own_d_jdk_65_method_145_code_12 : decode jdk_65_method_145_code 12 = .ok (.astore 4, 2) := by decide +kernel
theorem own_d_jdk_65_method_145_code_14 : decode jdk_65_method_145_code 14 = .ok (.aload_n 0, 1) := by decide +kernel
theorem own_d_jdk_65_method_145_code_15 : decode jdk_65_method_145_code 15 = .ok (.iload_n 1, 1) := by decide +kernel
theorem own_d_jdk_65_method_145_code_16 : decode jdk_65_method_145_code 16 = .ok (.aload 4, 2) := by decide +kernel
theorem own_d_jdk_65_method_145_code_18 : decode jdk_65_method_145_code 18 = .ok (.iconst 0, 1) := by decide +kernel
theorem own_d_jdk_65_method_145_code_19 : decode jdk_65_method_145_code 19 = .ok (.aload_n 0, 1) := by decide +kernel
theorem own_d_jdk_65_method_145_code_20 : decode jdk_65_method_145_code 20 = .ok (.arraylength, 1) := by decide +kernel
theorem own_d_jdk_65_method_145_code_21 : decode jdk_65_method_145_code 21 = .ok (.iload_n 1, 1) := by decide +kernel
theorem own_d_jdk_65_method_145_code_22 : decode jdk_65_method_145_code 22 = .ok (.isub, 1) := by decide +kernel
theorem own_d_jdk_65_method_145_code_23 : decode jdk_65_method_145_code 23 = .ok (.iload_n 3, 1) := by decide +kernel
theorem own_d_jdk_65_method_145_code_24 : decode jdk_65_method_145_code 24 = .ok (.invokestatic 304, 3) := by decide +kernel
theorem own_pd__II_I : parseMethodDescriptor "(II)I" = some ⟨[.int, .int], some .int⟩ := by decide +kernel
theorem own_d_jdk_65_method_145_code_27 : decode jdk_65_method_145_code 27 = .ok (.invokestatic 150, 3) := by decide +kernel
theorem own_d_jdk_65_method_145_code_30 : decode jdk_65_method_145_code 30 = .ok (.aload 4, 2) := by decide +kernel
theorem own_d_jdk_65_method_145_code_32 : decode jdk_65_method_145_code 32 = .ok (.areturn, 1) := by decide +kernel
theorem own_ef_rmRD (x0 : Addr) (x1 : Int32) (x2 : Int32) (m : MethodId) : entryFrame m #[(.ref x0), (.int x1), (.int x2)] 5 = mkF m 0 #[.val (.ref x0), .val (.int x1), .val (.int x2), .unset, .unset] [] := by first | (simp [entryFrame, mkF, argsToLocals, Value.category]; done) | rfl
set_option maxRecDepth 65536 in
set_option maxHeartbeats 40000000 in
theorem rmRD (l : Launch) (Z : State) (a0 : Array Value) (hw : ∀ d ∈ tables_1, d.before a0 Z = true) (k' : Addr) (fr to' : Int32) (h0 : Heap) (n0 : Nat) (Z0 : n0 ≤ h0.size) (fk : Nat → UInt64) (A : OArr Z h0 k' .double 8 (fun i => .double (fk i))) (hfr : 0 ≤ fr.toInt ∧ fr.toInt ≤ 3) (hto : to'.toInt = fr.toInt + 8) :
    OCon l Z (⟨"java/util/Arrays", "copyOfRangeDouble", "([DII)[D"⟩ : MethodName) jdk_65_method_145_code 5 (some (.array .double)) ({ frames := 1, cells := 1, slots := 8, locals := 18 } : Room) #[(.ref k'), (.int fr), (.int to')] h0 (Q_rD Z fk fr h0 n0) := by
  refine OConK.intro (y := (⟨"java/util/Arrays", "copyOfRangeDouble", "([DII)[D"⟩ : MethodName)) (plainFor_of_name own_pn_java_util_Arrays) (own_ef_rmRD k' fr to') ?_
  intro p e s m below meth c s₁ hx hby hml hown hnm hret hlk hZ X0 e0
  have l8 := own_8
  have l0 := own_0
  have := hfr.1
  have := hfr.2
  show OGoal p e below s _ _ _ (s₁.setTop (mkF m 0 #[.val (.ref k'), .val (.int fr), .val (.int to'), .unset, .unset] []))
  refine OGoal.mp (S' := (s₁.setTop (mkF m 1 #[.val (.ref k'), .val (.int fr), .val (.int to'), .unset, .unset] [(.int fr)]))) (fun _ k => XS.iloadN X0.here hx rfl (hb hby own_d_jdk_65_method_145_code_0) rfl k) ?_
  refine OGoal.mp (S' := (s₁.setTop (mkF m 2 #[.val (.ref k'), .val (.int fr), .val (.int to'), .unset, .unset] [(.int to'), (.int fr)]))) (fun _ k => XS.iloadN X0.here hx rfl (hb hby own_d_jdk_65_method_145_code_1) rfl k) ?_
  refine oCallS (y := (⟨"java/util/Arrays", "checkLength", "(II)V"⟩ : MethodName)) X0 hx hZ hown (hw _ (List.mem_of_getElem? (i := 88) rfl)) (hw _ (List.mem_of_getElem? (i := 89) rfl)) (hw _ (List.mem_of_getElem? (i := 60) rfl)) (hw _ (List.mem_of_getElem? (i := 90) rfl)) (by decide) (rmCL l Z a0 hw fr to' h0 n0 Z0 (by omega)) e0 [(.int fr), (.int to')] [] rfl rfl (by rw [hml]; rfl) (lenOf own_pd__II_V rfl) 0 (Nat.le_of_eq rfl) (by decide) (by decide) (by decide) (by decide) (hb hby own_d_jdk_65_method_145_code_2) ?_
  intro v1 T2 L3 X4 q5
  obtain ⟨rfl, N6, e7⟩ := q5
  have N8 := Fr.app (Fr.nil n0) N6
  show OGoal p e below s _ _ _ (T2.setTop (mkF m 5 #[.val (.ref k'), .val (.int fr), .val (.int to'), .unset, .unset] []))
  refine OGoal.mp (S' := (T2.setTop (mkF m 6 #[.val (.ref k'), .val (.int fr), .val (.int to'), .unset, .unset] [(.int to')]))) (fun _ k => XS.iloadN X4.here hx rfl (hb hby own_d_jdk_65_method_145_code_5) rfl k) ?_
  refine OGoal.mp (S' := (T2.setTop (mkF m 7 #[.val (.ref k'), .val (.int fr), .val (.int to'), .unset, .unset] [(.int fr), (.int to')]))) (fun _ k => XS.iloadN X4.here hx rfl (hb hby own_d_jdk_65_method_145_code_6) rfl k) ?_
  refine OGoal.mp (S' := (T2.setTop (mkF m 8 #[.val (.ref k'), .val (.int fr), .val (.int to'), .unset, .unset] [(.int (to' - fr))]))) (fun _ k => XS.isub X4.here hx rfl (hb hby own_d_jdk_65_method_145_code_7) rfl k) ?_
  have hu8 : (to' - fr) = (8 : Int32) := mEq (by have q1 := c_isub to' fr; have q2 := rng32 (to' - fr); rw [own_8]; omega)
  rw [hu8]
  show OGoal p e below s _ _ _ (T2.setTop (mkF m 8 #[.val (.ref k'), .val (.int fr), .val (.int to'), .unset, .unset] [(.int (8 : Int32))]))
  refine OGoal.mp (S' := (T2.setTop (mkF m 9 #[.val (.ref k'), .val (.int fr), .val (.int to'), .val (.int (8 : Int32)), .unset] []))) (fun _ k => XS.istoreN X4.here hx rfl (hb hby own_d_jdk_65_method_145_code_8) rfl (l' := #[.val (.ref k'), .val (.int fr), .val (.int to'), .val (.int (8 : Int32)), .unset]) rfl k) ?_
  refine OGoal.mp (S' := (T2.setTop (mkF m 10 #[.val (.ref k'), .val (.int fr), .val (.int to'), .val (.int (8 : Int32)), .unset] [(.int (8 : Int32))]))) (fun _ k => XS.iloadN X4.here hx rfl (hb hby own_d_jdk_65_method_145_code_9) rfl k) ?_
  obtain ⟨T9, h13, c16, X10, e11, E14, A15, XA19, st12⟩ := newPE X4 hx hZ (hw _ (List.mem_of_getElem? (i := 9) rfl)) e7 (g := mkF m 10 #[.val (.ref k'), .val (.int fr), .val (.int to'), .val (.int (8 : Int32)), .unset] [(.int (8 : Int32))]) rfl (hb hby own_d_jdk_65_method_145_code_10) rfl (by decide) (cap := 8) (by decide) (by decide) (by decide) (by decide) (ad := "[D") (by rfl)
  obtain ⟨a17, g18⟩ : ∃ z, z = h0.size := ⟨_, rfl⟩
  rw [← g18] at A15 XA19 st12
  have lt20 : k' < a17 := by rw [g18]; exact A.lt
  have fr21 : h0.size ≤ a17 := by rw [g18]; exact (Keep.refl h0 []).1
  have K22 : Keep h0 h13 [] := (Keep.refl h0 []).ext E14
  have F23 := A.ext E14
  have F24 : OArr Z h13 a17 .double (8 : Int32) (fun _ => .double 0 : Nat → Value) := OArr.new A15 (by decide)
  have Z25 : n0 ≤ h13.size := Nat.le_trans Z0 E14.1
  have ab26 : n0 ≤ a17 := Nat.le_trans Z0 (Nat.le_of_eq g18.symm)
  refine OGoal.mp (S' := (T9.setTop (mkF m 12 #[.val (.ref k'), .val (.int fr), .val (.int to'), .val (.int (8 : Int32)), .unset] [(.ref a17)]))) (fun _ k => st12 _ k) ?_
  refine OGoal.mp (S' := (T9.setTop (mkF m 14 #[.val (.ref k'), .val (.int fr), .val (.int to'), .val (.int (8 : Int32)), .val (.ref a17)] []))) (fun _ k => XS.astore X10.here hx rfl (hb hby own_d_jdk_65_method_145_code_12) rfl rfl (l' := #[.val (.ref k'), .val (.int fr), .val (.int to'), .val (.int (8 : Int32)), .val (.ref a17)]) rfl k) ?_
  refine OGoal.mp (S' := (T9.setTop (mkF m 15 #[.val (.ref k'), .val (.int fr), .val (.int to'), .val (.int (8 : Int32)), .val (.ref a17)] [(.ref k')]))) (fun _ k => XS.aloadN X10.here hx rfl (hb hby own_d_jdk_65_method_145_code_14) rfl rfl k) ?_
  refine OGoal.mp (S' := (T9.setTop (mkF m 16 #[.val (.ref k'), .val (.int fr), .val (.int to'), .val (.int (8 : Int32)), .val (.ref a17)] [(.int fr), (.ref k')]))) (fun _ k => XS.iloadN X10.here hx rfl (hb hby own_d_jdk_65_method_145_code_15) rfl k) ?_
  refine OGoal.mp (S' := (T9.setTop (mkF m 18 #[.val (.ref k'), .val (.int fr), .val (.int to'), .val (.int (8 : Int32)), .val (.ref a17)] [(.ref a17), (.int fr), (.ref k')]))) (fun _ k => XS.aload X10.here hx rfl (hb hby own_d_jdk_65_method_145_code_16) rfl rfl k) ?_
  refine OGoal.mp (S' := (T9.setTop (mkF m 19 #[.val (.ref k'), .val (.int fr), .val (.int to'), .val (.int (8 : Int32)), .val (.ref a17)] [(.int (0 : Int32)), (.ref a17), (.int fr), (.ref k')]))) (fun _ k => XS.iconst X10.here hx rfl (hb hby own_d_jdk_65_method_145_code_18) k) ?_
  refine OGoal.mp (S' := (T9.setTop (mkF m 20 #[.val (.ref k'), .val (.int fr), .val (.int to'), .val (.int (8 : Int32)), .val (.ref a17)] [(.ref k'), (.int (0 : Int32)), (.ref a17), (.int fr), (.ref k')]))) (fun _ k => XS.aloadN X10.here hx rfl (hb hby own_d_jdk_65_method_145_code_19) rfl rfl k) ?_
  refine OGoal.mp (S' := (T9.setTop (mkF m 21 #[.val (.ref k'), .val (.int fr), .val (.int to'), .val (.int (8 : Int32)), .val (.ref a17)] [(.int (8 : Int32)), (.int (0 : Int32)), (.ref a17), (.int fr), (.ref k')]))) (fun _ k => oLen X10 hx hZ e11 F23 (g := mkF m 20 #[.val (.ref k'), .val (.int fr), .val (.int to'), .val (.int (8 : Int32)), .val (.ref a17)] [(.ref k'), (.int (0 : Int32)), (.ref a17), (.int fr), (.ref k')]) rfl rfl (hb hby own_d_jdk_65_method_145_code_20) k) ?_
  refine OGoal.mp (S' := (T9.setTop (mkF m 22 #[.val (.ref k'), .val (.int fr), .val (.int to'), .val (.int (8 : Int32)), .val (.ref a17)] [(.int fr), (.int (8 : Int32)), (.int (0 : Int32)), (.ref a17), (.int fr), (.ref k')]))) (fun _ k => XS.iloadN X10.here hx rfl (hb hby own_d_jdk_65_method_145_code_21) rfl k) ?_
  refine OGoal.mp (S' := (T9.setTop (mkF m 23 #[.val (.ref k'), .val (.int fr), .val (.int to'), .val (.int (8 : Int32)), .val (.ref a17)] [(.int ((8 : Int32) - fr)), (.int (0 : Int32)), (.ref a17), (.int fr), (.ref k')]))) (fun _ k => XS.isub X10.here hx rfl (hb hby own_d_jdk_65_method_145_code_22) rfl k) ?_
  obtain ⟨u27, hu27⟩ : ∃ z : Int32, z = ((8 : Int32) - fr) := ⟨_, rfl⟩
  rw [← hu27]
  have l28 : (8 : Int32).toInt = 8 := by decide
  have t29 : (u27.toInt - (((8 : Int32)).toInt - (fr).toInt)) % 4294967296 = 0 := by rw [hu27]; exact c_isub (8 : Int32) fr
  have r30 := rng32 u27
  refine OGoal.mp (S' := (T9.setTop (mkF m 24 #[.val (.ref k'), .val (.int fr), .val (.int to'), .val (.int (8 : Int32)), .val (.ref a17)] [(.int (8 : Int32)), (.int u27), (.int (0 : Int32)), (.ref a17), (.int fr), (.ref k')]))) (fun _ k => XS.iloadN X10.here hx rfl (hb hby own_d_jdk_65_method_145_code_23) rfl k) ?_
  refine oCallS (y := (⟨"java/lang/Math", "min", "(II)I"⟩ : MethodName)) X10 hx hZ hown (hw _ (List.mem_of_getElem? (i := 91) rfl)) (hw _ (List.mem_of_getElem? (i := 92) rfl)) (hw _ (List.mem_of_getElem? (i := 52) rfl)) (hw _ (List.mem_of_getElem? (i := 93) rfl)) (by decide) (rmMin l Z a0 hw u27 (8 : Int32) h13 n0 Z25 (by omega)) e11 [(.int u27), (.int (8 : Int32))] [(.int (0 : Int32)), (.ref a17), (.int fr), (.ref k')] rfl rfl (by rw [hml]; rfl) (lenOf own_pd__II_I rfl) 4 (Nat.le_of_eq rfl) (by decide) (by decide) (by decide) (by decide) (hb hby own_d_jdk_65_method_145_code_24) ?_
  intro v31 T32 L33 X34 q35
  obtain ⟨rfl, N36, e37⟩ := q35
  have N38 := Fr.app N8 N36
  show OGoal p e below s _ _ _ (T32.setTop (mkF m 27 #[.val (.ref k'), .val (.int fr), .val (.int to'), .val (.int (8 : Int32)), .val (.ref a17)] [(.int u27), (.int (0 : Int32)), (.ref a17), (.int fr), (.ref k')]))
  obtain ⟨T39, h43, L44, X40, e41, K45, A46, hL47, st42⟩ := oCopy X34 hx hZ hown (hw _ (List.mem_of_getElem? (i := 94) rfl)) (hw _ (List.mem_of_getElem? (i := 97) rfl)) (hw _ (List.mem_of_getElem? (i := 95) rfl)) (hw _ (List.mem_of_getElem? (i := 96) rfl)) e37 F23 F24 rfl (fun i _ => rfl) hfr.1 (by decide) (by omega) (by omega) (by omega) (g := mkF m 27 #[.val (.ref k'), .val (.int fr), .val (.int to'), .val (.int (8 : Int32)), .val (.ref a17)] [(.int u27), (.int (0 : Int32)), (.ref a17), (.int fr), (.ref k')]) rfl (by rw [hml]; rfl) rfl (hb hby own_d_jdk_65_method_145_code_27) (by decide) (by show 2 * 0 + 0 + (7 + 11) ≤ _; decide)
  have N48 := Fr.app N38 (fun y hy => by rw [hL47 y hy]; exact ab26 : Fr n0 L44)
  have F49 := F23.keep K45 (ninS (Nat.ne_of_lt lt20) nin0)
  have F51 := XA19.keep K45
  have K52 : Keep h0 h43 [] := K22.trans K45 (allS (Or.inr fr21) all0)
  have Z53 : n0 ≤ h43.size := Nat.le_trans Z25 K45.1
  refine OGoal.mp (S' := (T39.setTop (mkF m 30 #[.val (.ref k'), .val (.int fr), .val (.int to'), .val (.int (8 : Int32)), .val (.ref a17)] []))) (fun _ k => st42 _ k) ?_
  refine OGoal.mp (S' := (T39.setTop (mkF m 32 #[.val (.ref k'), .val (.int fr), .val (.int to'), .val (.int (8 : Int32)), .val (.ref a17)] [(.ref a17)]))) (fun _ k => XS.aload X40.here hx rfl (hb hby own_d_jdk_65_method_145_code_30) rfl rfl k) ?_
  refine oRetA X40 hx hlk hret rfl rfl (hb hby own_d_jdk_65_method_145_code_32) ?_ (by decide) (by decide)
  refine ⟨a17, rfl, N48, ?_, fr21, ?_, ?_⟩
  · rw [e41]; exact K52
  · rw [e41]; refine A46.imp (fun i _ => ?_)
    have e1 : (u27).toNatClampNeg = 8 - fr.toInt.toNat := by show (u27).toInt.toNat = _; omega
    have e2 : (0 : Int32).toNatClampNeg = 0 := by decide
    have e3 : fr.toNatClampNeg = fr.toInt.toNat := rfl
    try dsimp only
    rw [e1, e2, e3]
    unfold own_sh
    by_cases q : i < 8 - fr.toInt.toNat
    · rw [if_pos (by omega), if_pos q, Nat.sub_zero]
    · rw [if_neg (by omega), if_neg q]
  · rw [e41]; exact F51
theorem own_d_jdk_65_method_144_code_0 : decode jdk_65_method_144_code 0 = .ok (.iload_n 1, 1) := by decide +kernel
theorem own_d_jdk_65_method_144_code_1 : decode jdk_65_method_144_code 1 = .ok (.ifCond .ne 9, 3) := by decide +kernel
theorem own_d_jdk_65_method_144_code_4 : decode jdk_65_method_144_code 4 = .ok (.iload_n 2, 1) := by decide +kernel
theorem own_d_jdk_65_method_144_code_5 : decode jdk_65_method_144_code 5 = .ok (.aload_n 0, 1) := by decide +kernel
theorem own_d_jdk_65_method_144_code_6 : decode jdk_65_method_144_code 6 = .ok (.arraylength, 1) := by decide +kernel
theorem own_d_jdk_65_method_144_code_7 : decode jdk_65_method_144_code 7 = .ok (.if_icmp .eq 10, 3) := by decide +kernel
theorem own_d_jdk_65_method_144_code_17 : decode jdk_65_method_144_code 17 = .ok (.aload_n 0, 1) := by decide +kernel
theorem own_d_jdk_65_method_144_code_18 : decode jdk_65_method_144_code 18 = .ok (.invokevirtual 328, 3) := by decide +kernel
theorem own_d_jdk_65_method_144_code_21 : decode jdk_65_method_144_code 21 = .ok (.checkcast 329, 3) := by decide +kernel
theorem own_d_jdk_65_method_144_code_24 : decode jdk_65_method_144_code 24 = .ok (.areturn, 1) := by decide +kernel
theorem own_d_jdk_65_method_144_code_10 : decode jdk_65_method_144_code 10 = .ok (.aload_n 0, 1) := by decide +kernel
theorem own_d_jdk_65_method_144_code_11 : decode jdk_65_method_144_code 11 = .ok (.iload_n 1, 1) := by decide +kernel
theorem own_d_jdk_65_method_144_code_12 : decode jdk_65_method_144_code 12 = .ok (.iload_n 2, 1) := by decide +kernel
theorem own_d_jdk_65_method_144_code_13 : decode jdk_65_method_144_code 13 = .ok (.invokestatic 367, 3) := by decide +kernel
theorem own_pd___DII__D : parseMethodDescriptor "([DII)[D" = some ⟨[(.array .double), .int, .int], some (.array .double)⟩ := by decide +kernel
theorem own_d_jdk_65_method_144_code_16 : decode jdk_65_method_144_code 16 = .ok (.areturn, 1) := by decide +kernel
theorem own_ef_rmCRD (x0 : Addr) (x1 : Int32) (x2 : Int32) (m : MethodId) : entryFrame m #[(.ref x0), (.int x1), (.int x2)] 3 = mkF m 0 #[.val (.ref x0), .val (.int x1), .val (.int x2)] [] := by first | (simp [entryFrame, mkF, argsToLocals, Value.category]; done) | rfl
set_option maxRecDepth 65536 in
set_option maxHeartbeats 40000000 in
theorem rmCRD (l : Launch) (Z : State) (a0 : Array Value) (hw : ∀ d ∈ tables_1, d.before a0 Z = true) (k' : Addr) (fr to' : Int32) (h0 : Heap) (n0 : Nat) (Z0 : n0 ≤ h0.size) (fk : Nat → UInt64) (A : OArr Z h0 k' .double 8 (fun i => .double (fk i))) (hfr : 0 ≤ fr.toInt ∧ fr.toInt ≤ 3) (hto : to'.toInt = fr.toInt + 8) (Ex : Exa Z h0 k' "[D") :
    OCon l Z (⟨"java/util/Arrays", "copyOfRange", "([DII)[D"⟩ : MethodName) jdk_65_method_144_code 3 (some (.array .double)) ({ frames := 2, cells := 1, slots := 8, locals := 34 } : Room) #[(.ref k'), (.int fr), (.int to')] h0 (Q_rD Z fk fr h0 n0) := by
  refine OConK.intro (y := (⟨"java/util/Arrays", "copyOfRange", "([DII)[D"⟩ : MethodName)) (plainFor_of_name own_pn_java_util_Arrays) (own_ef_rmCRD k' fr to') ?_
  intro p e s m below meth c s₁ hx hby hml hown hnm hret hlk hZ X0 e0
  have l8 := own_8
  have l0 := own_0
  have := hfr.1
  have := hfr.2
  show OGoal p e below s _ _ _ (s₁.setTop (mkF m 0 #[.val (.ref k'), .val (.int fr), .val (.int to')] []))
  refine OGoal.mp (S' := (s₁.setTop (mkF m 1 #[.val (.ref k'), .val (.int fr), .val (.int to')] [(.int fr)]))) (fun _ k => XS.iloadN X0.here hx rfl (hb hby own_d_jdk_65_method_144_code_0) rfl k) ?_
  by_cases hc1 : fr = 0
  · have hz := oEq hc1
    rw [own_0] at hz
    refine OGoal.mp (S' := (s₁.setTop (mkF m 4 #[.val (.ref k'), .val (.int fr), .val (.int to')] []))) (fun _ k => XS.ifNo X0.here hx rfl (hb hby own_d_jdk_65_method_144_code_1) rfl (XT.i0_ne_f hc1) k) ?_
    refine OGoal.mp (S' := (s₁.setTop (mkF m 5 #[.val (.ref k'), .val (.int fr), .val (.int to')] [(.int to')]))) (fun _ k => XS.iloadN X0.here hx rfl (hb hby own_d_jdk_65_method_144_code_4) rfl k) ?_
    refine OGoal.mp (S' := (s₁.setTop (mkF m 6 #[.val (.ref k'), .val (.int fr), .val (.int to')] [(.ref k'), (.int to')]))) (fun _ k => XS.aloadN X0.here hx rfl (hb hby own_d_jdk_65_method_144_code_5) rfl rfl k) ?_
    refine OGoal.mp (S' := (s₁.setTop (mkF m 7 #[.val (.ref k'), .val (.int fr), .val (.int to')] [(.int (8 : Int32)), (.int to')]))) (fun _ k => oLen X0 hx hZ e0 A (g := mkF m 6 #[.val (.ref k'), .val (.int fr), .val (.int to')] [(.ref k'), (.int to')]) rfl rfl (hb hby own_d_jdk_65_method_144_code_6) k) ?_
    refine OGoal.mp (S' := (s₁.setTop (mkF m 17 #[.val (.ref k'), .val (.int fr), .val (.int to')] []))) (fun _ k => XS.icmpYes X0.here hx rfl (pc0 := 7) (pc' := 17) rfl (hb hby own_d_jdk_65_method_144_code_7) rfl (XT.ii_eq_t (mEq (by rw [own_8]; omega))) (by decide) (by decide) k) ?_
    refine OGoal.mp (S' := (s₁.setTop (mkF m 18 #[.val (.ref k'), .val (.int fr), .val (.int to')] [(.ref k')]))) (fun _ k => XS.aloadN X0.here hx rfl (hb hby own_d_jdk_65_method_144_code_17) rfl rfl k) ?_
    obtain ⟨T2, h6, X3, e4, E7, A8, XA9, st5⟩ := oClone X0 hx hZ hown (hw _ (List.mem_of_getElem? (i := 62) rfl)) (hw _ (List.mem_of_getElem? (i := 63) rfl)) (hw _ (List.mem_of_getElem? (i := 67) rfl)) (hw _ (List.mem_of_getElem? (i := 65) rfl)) (hw _ (List.mem_of_getElem? (i := 66) rfl)) (hw _ (List.mem_of_getElem? (i := 68) rfl)) e0 A Ex (fun i _ => rfl) (g := mkF m 18 #[.val (.ref k'), .val (.int fr), .val (.int to')] [(.ref k')]) rfl (by rw [hml]; rfl) rfl (hb hby own_d_jdk_65_method_144_code_18) (by decide) (W := 0) (cap := 8) (by show 2 * 0 + _ ≤ _; exact Nat.le_of_eq rfl) (by decide) (by decide) (by decide) (by decide)
    obtain ⟨a10, g11⟩ : ∃ z, z = h0.size := ⟨_, rfl⟩
    rw [← g11] at A8 XA9 st5
    have lt12 : k' < a10 := by rw [g11]; exact A.lt
    have fr13 : h0.size ≤ a10 := by rw [g11]; exact (Keep.refl h0 []).1
    have K14 : Keep h0 h6 [] := (Keep.refl h0 []).ext E7
    have F15 := A.ext E7
    have F16 := Ex.ext E7
    have Z17 : n0 ≤ h6.size := Nat.le_trans Z0 E7.1
    have ab18 : n0 ≤ a10 := Nat.le_trans Z0 (Nat.le_of_eq g11.symm)
    refine OGoal.mp (S' := (T2.setTop (mkF m 21 #[.val (.ref k'), .val (.int fr), .val (.int to')] [(.ref a10)]))) (fun _ k => st5 _ k) ?_
    obtain ⟨T19, X20, e21, st22⟩ := castY X3 hx hZ hown (hw _ (List.mem_of_getElem? (i := 69) rfl)) e4 (Ins.self XA9) (g := mkF m 21 #[.val (.ref k'), .val (.int fr), .val (.int to')] [(.ref a10)]) rfl rfl (hb hby own_d_jdk_65_method_144_code_21)
    refine OGoal.mp (S' := (T19.setTop (mkF m 24 #[.val (.ref k'), .val (.int fr), .val (.int to')] [(.ref a10)]))) (fun _ k => st22 _ k) ?_
    refine oRetA X20 hx hlk hret rfl rfl (hb hby own_d_jdk_65_method_144_code_24) ?_ (by decide) (by decide)
    refine ⟨a10, rfl, (Fr.nil n0), by rw [e21]; exact K14, fr13, ?_, by rw [e21]; exact XA9⟩
    rw [e21]; refine A8.imp (fun i q => ?_)
    have q8 : i < 8 := q
    have e0' : fr.toInt.toNat = 0 := by omega
    try dsimp only
    unfold own_sh
    rw [e0', if_pos (by omega), Nat.zero_add]
  · have hz := oNe hc1
    rw [own_0] at hz
    refine OGoal.mp (S' := (s₁.setTop (mkF m 10 #[.val (.ref k'), .val (.int fr), .val (.int to')] []))) (fun _ k => XS.ifYes X0.here hx rfl (pc0 := 1) (pc' := 10) rfl (hb hby own_d_jdk_65_method_144_code_1) rfl (XT.i0_ne_t hc1) (by decide) (by decide) k) ?_
    refine OGoal.mp (S' := (s₁.setTop (mkF m 11 #[.val (.ref k'), .val (.int fr), .val (.int to')] [(.ref k')]))) (fun _ k => XS.aloadN X0.here hx rfl (hb hby own_d_jdk_65_method_144_code_10) rfl rfl k) ?_
    refine OGoal.mp (S' := (s₁.setTop (mkF m 12 #[.val (.ref k'), .val (.int fr), .val (.int to')] [(.int fr), (.ref k')]))) (fun _ k => XS.iloadN X0.here hx rfl (hb hby own_d_jdk_65_method_144_code_11) rfl k) ?_
    refine OGoal.mp (S' := (s₁.setTop (mkF m 13 #[.val (.ref k'), .val (.int fr), .val (.int to')] [(.int to'), (.int fr), (.ref k')]))) (fun _ k => XS.iloadN X0.here hx rfl (hb hby own_d_jdk_65_method_144_code_12) rfl k) ?_
    refine oCallS (y := (⟨"java/util/Arrays", "copyOfRangeDouble", "([DII)[D"⟩ : MethodName)) X0 hx hZ hown (hw _ (List.mem_of_getElem? (i := 85) rfl)) (hw _ (List.mem_of_getElem? (i := 86) rfl)) (hw _ (List.mem_of_getElem? (i := 60) rfl)) (hw _ (List.mem_of_getElem? (i := 87) rfl)) (by decide) (rmRD l Z a0 hw k' fr to' h0 n0 Z0 fk A hfr hto) e0 [(.ref k'), (.int fr), (.int to')] [] rfl rfl (by rw [hml]; rfl) (lenOf own_pd___DII__D rfl) 0 (Nat.le_of_eq rfl) (by decide) (by decide) (by decide) (by decide) (hb hby own_d_jdk_65_method_144_code_13) ?_
    intro v24 T25 L26 X27 q28
    obtain ⟨r23, rfl, N29, K30, hr31, A32, E33⟩ := q28
    have N34 := Fr.app (Fr.nil n0) N29
    show OGoal p e below s _ _ _ (T25.setTop (mkF m 16 #[.val (.ref k'), .val (.int fr), .val (.int to')] [(.ref r23)]))
    refine oRetA X27 hx hlk hret rfl rfl (hb hby own_d_jdk_65_method_144_code_16) ?_ (by decide) (by decide)
    exact ⟨_, rfl, N34, K30, hr31, A32, E33⟩
def Q_rI (Z : State) (fk : Nat → Int32) (fr : Int32) (h0 : Heap) (n0 : Nat) (v : Option Value) (h : Heap) (L : List Loc) : Prop := ∃ r, v = some (.ref r) ∧ Fr n0 L ∧ Keep h0 h [] ∧ h0.size ≤ r ∧ OArr Z h r .int 8 (fun i => .int (own_shI fk fr.toInt.toNat i)) ∧ Exa Z h r "[I"
theorem own_d_jdk_65_method_137_code_0 : decode jdk_65_method_137_code 0 = .ok (.iload_n 1, 1) := by decide +kernel
theorem own_d_jdk_65_method_137_code_1 : decode jdk_65_method_137_code 1 = .ok (.iload_n 2, 1) := by decide +kernel
theorem own_d_jdk_65_method_137_code_2 : decode jdk_65_method_137_code 2 = .ok (.invokestatic 343, 3) := by decide +kernel
theorem own_d_jdk_65_method_137_code_5 : decode jdk_65_method_137_code 5 = .ok (.iload_n 2, 1) := by decide +kernel
theorem own_d_jdk_65_method_137_code_6 : decode jdk_65_method_137_code 6 = .ok (.iload_n 1, 1) := by decide +kernel
theorem own_d_jdk_65_method_137_code_7 : decode jdk_65_method_137_code 7 = .ok (.isub, 1) := by decide +kernel
theorem own_d_jdk_65_method_137_code_8 : decode jdk_65_method_137_code 8 = .ok (.istore_n 3, 1) := by decide +kernel
theorem own_d_jdk_65_method_137_code_9 : decode jdk_65_method_137_code 9 = .ok (.iload_n 3, 1) := by decide +kernel
theorem own_d_jdk_65_method_137_code_10 : decode jdk_65_method_137_code 10 = .ok (.newarray .int, 2) := by decide +kernel
theorem own_d_jdk_65_method_137_code_12 : decode jdk_65_method_137_code 12 = .ok (.astore 4, 2) := by decide +kernel
theorem own_d_jdk_65_method_137_code_14 : decode jdk_65_method_137_code 14 = .ok (.aload_n 0, 1) := by decide +kernel
theorem own_d_jdk_65_method_137_code_15 : decode jdk_65_method_137_code 15 = .ok (.iload_n 1, 1) := by decide +kernel
theorem own_d_jdk_65_method_137_code_16 : decode jdk_65_method_137_code 16 = .ok (.aload 4, 2) := by decide +kernel
theorem own_d_jdk_65_method_137_code_18 : decode jdk_65_method_137_code 18 = .ok (.iconst 0, 1) := by decide +kernel
theorem own_d_jdk_65_method_137_code_19 : decode jdk_65_method_137_code 19 = .ok (.aload_n 0, 1) := by decide +kernel
theorem own_d_jdk_65_method_137_code_20 : decode jdk_65_method_137_code 20 = .ok (.arraylength, 1) := by decide +kernel
theorem own_d_jdk_65_method_137_code_21 : decode jdk_65_method_137_code 21 = .ok (.iload_n 1, 1) := by decide +kernel
theorem own_d_jdk_65_method_137_code_22 : decode jdk_65_method_137_code 22 = .ok (.isub, 1) := by decide +kernel
theorem own_d_jdk_65_method_137_code_23 : decode jdk_65_method_137_code 23 = .ok (.iload_n 3, 1) := by decide +kernel
theorem own_d_jdk_65_method_137_code_24 : decode jdk_65_method_137_code 24 = .ok (.invokestatic 304, 3) := by decide +kernel
theorem own_d_jdk_65_method_137_code_27 : decode jdk_65_method_137_code 27 = .ok (.invokestatic 150, 3) := by decide +kernel
theorem own_d_jdk_65_method_137_code_30 : decode jdk_65_method_137_code 30 = .ok (.aload 4, 2) := by decide +kernel
theorem own_d_jdk_65_method_137_code_32 : decode jdk_65_method_137_code 32 = .ok (.areturn, 1) := by decide +kernel
theorem own_ef_rmRI (x0 : Addr) (x1 : Int32) (x2 : Int32) (m : MethodId) : entryFrame m #[(.ref x0), (.int x1), (.int x2)] 5 = mkF m 0 #[.val (.ref x0), .val (.int x1), .val (.int x2), .unset, .unset] [] := by first | (simp [entryFrame, mkF, argsToLocals, Value.category]; done) | rfl
set_option maxRecDepth 65536 in
set_option maxHeartbeats 40000000 in
theorem rmRI (l : Launch) (Z : State) (a0 : Array Value) (hw : ∀ d ∈ tables_1, d.before a0 Z = true) (k' : Addr) (fr to' : Int32) (h0 : Heap) (n0 : Nat) (Z0 : n0 ≤ h0.size) (fk : Nat → Int32) (A : OArr Z h0 k' .int 8 (fun i => .int (fk i))) (hfr : 0 ≤ fr.toInt ∧ fr.toInt ≤ 3) (hto : to'.toInt = fr.toInt + 8) :
    OCon l Z (⟨"java/util/Arrays", "copyOfRangeInt", "([III)[I"⟩ : MethodName) jdk_65_method_137_code 5 (some (.array .int)) ({ frames := 1, cells := 1, slots := 8, locals := 18 } : Room) #[(.ref k'), (.int fr), (.int to')] h0 (Q_rI Z fk fr h0 n0) := by
  refine OConK.intro (y := (⟨"java/util/Arrays", "copyOfRangeInt", "([III)[I"⟩ : MethodName)) (plainFor_of_name own_pn_java_util_Arrays) (own_ef_rmRI k' fr to') ?_
  intro p e s m below meth c s₁ hx hby hml hown hnm hret hlk hZ X0 e0
  have l8 := own_8
  have l0 := own_0
  have := hfr.1
  have := hfr.2
  show OGoal p e below s _ _ _ (s₁.setTop (mkF m 0 #[.val (.ref k'), .val (.int fr), .val (.int to'), .unset, .unset] []))
  refine OGoal.mp (S' := (s₁.setTop (mkF m 1 #[.val (.ref k'), .val (.int fr), .val (.int to'), .unset, .unset] [(.int fr)]))) (fun _ k => XS.iloadN X0.here hx rfl (hb hby own_d_jdk_65_method_137_code_0) rfl k) ?_
  refine OGoal.mp (S' := (s₁.setTop (mkF m 2 #[.val (.ref k'), .val (.int fr), .val (.int to'), .unset, .unset] [(.int to'), (.int fr)]))) (fun _ k => XS.iloadN X0.here hx rfl (hb hby own_d_jdk_65_method_137_code_1) rfl k) ?_
  refine oCallS (y := (⟨"java/util/Arrays", "checkLength", "(II)V"⟩ : MethodName)) X0 hx hZ hown (hw _ (List.mem_of_getElem? (i := 88) rfl)) (hw _ (List.mem_of_getElem? (i := 89) rfl)) (hw _ (List.mem_of_getElem? (i := 60) rfl)) (hw _ (List.mem_of_getElem? (i := 90) rfl)) (by decide) (rmCL l Z a0 hw fr to' h0 n0 Z0 (by omega)) e0 [(.int fr), (.int to')] [] rfl rfl (by rw [hml]; rfl) (lenOf own_pd__II_V rfl) 0 (Nat.le_of_eq rfl) (by decide) (by decide) (by decide) (by decide) (hb hby own_d_jdk_65_method_137_code_2) ?_
  intro v1 T2 L3 X4 q5
  obtain ⟨rfl, N6, e7⟩ := q5
  have N8 := Fr.app (Fr.nil n0) N6
  show OGoal p e below s _ _ _ (T2.setTop (mkF m 5 #[.val (.ref k'), .val (.int fr), .val (.int to'), .unset, .unset] []))
  refine OGoal.mp (S' := (T2.setTop (mkF m 6 #[.val (.ref k'), .val (.int fr), .val (.int to'), .unset, .unset] [(.int to')]))) (fun _ k => XS.iloadN X4.here hx rfl (hb hby own_d_jdk_65_method_137_code_5) rfl k) ?_
  refine OGoal.mp (S' := (T2.setTop (mkF m 7 #[.val (.ref k'), .val (.int fr), .val (.int to'), .unset, .unset] [(.int fr), (.int to')]))) (fun _ k => XS.iloadN X4.here hx rfl (hb hby own_d_jdk_65_method_137_code_6) rfl k) ?_
  refine OGoal.mp (S' := (T2.setTop (mkF m 8 #[.val (.ref k'), .val (.int fr), .val (.int to'), .unset, .unset] [(.int (to' - fr))]))) (fun _ k => XS.isub X4.here hx rfl (hb hby own_d_jdk_65_method_137_code_7) rfl k) ?_
  have hu8 : (to' - fr) = (8 : Int32) := mEq (by have q1 := c_isub to' fr; have q2 := rng32 (to' - fr); rw [own_8]; omega)
  rw [hu8]
  show OGoal p e below s _ _ _ (T2.setTop (mkF m 8 #[.val (.ref k'), .val (.int fr), .val (.int to'), .unset, .unset] [(.int (8 : Int32))]))
  refine OGoal.mp (S' := (T2.setTop (mkF m 9 #[.val (.ref k'), .val (.int fr), .val (.int to'), .val (.int (8 : Int32)), .unset] []))) (fun _ k => XS.istoreN X4.here hx rfl (hb hby own_d_jdk_65_method_137_code_8) rfl (l' := #[.val (.ref k'), .val (.int fr), .val (.int to'), .val (.int (8 : Int32)), .unset]) rfl k) ?_
  refine OGoal.mp (S' := (T2.setTop (mkF m 10 #[.val (.ref k'), .val (.int fr), .val (.int to'), .val (.int (8 : Int32)), .unset] [(.int (8 : Int32))]))) (fun _ k => XS.iloadN X4.here hx rfl (hb hby own_d_jdk_65_method_137_code_9) rfl k) ?_
  obtain ⟨T9, h13, c16, X10, e11, E14, A15, XA19, st12⟩ := newPE X4 hx hZ (hw _ (List.mem_of_getElem? (i := 14) rfl)) e7 (g := mkF m 10 #[.val (.ref k'), .val (.int fr), .val (.int to'), .val (.int (8 : Int32)), .unset] [(.int (8 : Int32))]) rfl (hb hby own_d_jdk_65_method_137_code_10) rfl (by decide) (cap := 8) (by decide) (by decide) (by decide) (by decide) (ad := "[I") (by rfl)
  obtain ⟨a17, g18⟩ : ∃ z, z = h0.size := ⟨_, rfl⟩
  rw [← g18] at A15 XA19 st12
  have lt20 : k' < a17 := by rw [g18]; exact A.lt
  have fr21 : h0.size ≤ a17 := by rw [g18]; exact (Keep.refl h0 []).1
  have K22 : Keep h0 h13 [] := (Keep.refl h0 []).ext E14
  have F23 := A.ext E14
  have F24 : OArr Z h13 a17 .int (8 : Int32) (fun _ => .int 0 : Nat → Value) := OArr.new A15 (by decide)
  have Z25 : n0 ≤ h13.size := Nat.le_trans Z0 E14.1
  have ab26 : n0 ≤ a17 := Nat.le_trans Z0 (Nat.le_of_eq g18.symm)
  refine OGoal.mp (S' := (T9.setTop (mkF m 12 #[.val (.ref k'), .val (.int fr), .val (.int to'), .val (.int (8 : Int32)), .unset] [(.ref a17)]))) (fun _ k => st12 _ k) ?_
  refine OGoal.mp (S' := (T9.setTop (mkF m 14 #[.val (.ref k'), .val (.int fr), .val (.int to'), .val (.int (8 : Int32)), .val (.ref a17)] []))) (fun _ k => XS.astore X10.here hx rfl (hb hby own_d_jdk_65_method_137_code_12) rfl rfl (l' := #[.val (.ref k'), .val (.int fr), .val (.int to'), .val (.int (8 : Int32)), .val (.ref a17)]) rfl k) ?_
  refine OGoal.mp (S' := (T9.setTop (mkF m 15 #[.val (.ref k'), .val (.int fr), .val (.int to'), .val (.int (8 : Int32)), .val (.ref a17)] [(.ref k')]))) (fun _ k => XS.aloadN X10.here hx rfl (hb hby own_d_jdk_65_method_137_code_14) rfl rfl k) ?_
  refine OGoal.mp (S' := (T9.setTop (mkF m 16 #[.val (.ref k'), .val (.int fr), .val (.int to'), .val (.int (8 : Int32)), .val (.ref a17)] [(.int fr), (.ref k')]))) (fun _ k => XS.iloadN X10.here hx rfl (hb hby own_d_jdk_65_method_137_code_15) rfl k) ?_
  refine OGoal.mp (S' := (T9.setTop (mkF m 18 #[.val (.ref k'), .val (.int fr), .val (.int to'), .val (.int (8 : Int32)), .val (.ref a17)] [(.ref a17), (.int fr), (.ref k')]))) (fun _ k => XS.aload X10.here hx rfl (hb hby own_d_jdk_65_method_137_code_16) rfl rfl k) ?_
  refine OGoal.mp (S' := (T9.setTop (mkF m 19 #[.val (.ref k'), .val (.int fr), .val (.int to'), .val (.int (8 : Int32)), .val (.ref a17)] [(.int (0 : Int32)), (.ref a17), (.int fr), (.ref k')]))) (fun _ k => XS.iconst X10.here hx rfl (hb hby own_d_jdk_65_method_137_code_18) k) ?_
  refine OGoal.mp (S' := (T9.setTop (mkF m 20 #[.val (.ref k'), .val (.int fr), .val (.int to'), .val (.int (8 : Int32)), .val (.ref a17)] [(.ref k'), (.int (0 : Int32)), (.ref a17), (.int fr), (.ref k')]))) (fun _ k => XS.aloadN X10.here hx rfl (hb hby own_d_jdk_65_method_137_code_19) rfl rfl k) ?_
  refine OGoal.mp (S' := (T9.setTop (mkF m 21 #[.val (.ref k'), .val (.int fr), .val (.int to'), .val (.int (8 : Int32)), .val (.ref a17)] [(.int (8 : Int32)), (.int (0 : Int32)), (.ref a17), (.int fr), (.ref k')]))) (fun _ k => oLen X10 hx hZ e11 F23 (g := mkF m 20 #[.val (.ref k'), .val (.int fr), .val (.int to'), .val (.int (8 : Int32)), .val (.ref a17)] [(.ref k'), (.int (0 : Int32)), (.ref a17), (.int fr), (.ref k')]) rfl rfl (hb hby own_d_jdk_65_method_137_code_20) k) ?_
  refine OGoal.mp (S' := (T9.setTop (mkF m 22 #[.val (.ref k'), .val (.int fr), .val (.int to'), .val (.int (8 : Int32)), .val (.ref a17)] [(.int fr), (.int (8 : Int32)), (.int (0 : Int32)), (.ref a17), (.int fr), (.ref k')]))) (fun _ k => XS.iloadN X10.here hx rfl (hb hby own_d_jdk_65_method_137_code_21) rfl k) ?_
  refine OGoal.mp (S' := (T9.setTop (mkF m 23 #[.val (.ref k'), .val (.int fr), .val (.int to'), .val (.int (8 : Int32)), .val (.ref a17)] [(.int ((8 : Int32) - fr)), (.int (0 : Int32)), (.ref a17), (.int fr), (.ref k')]))) (fun _ k => XS.isub X10.here hx rfl (hb hby own_d_jdk_65_method_137_code_22) rfl k) ?_
  obtain ⟨u27, hu27⟩ : ∃ z : Int32, z = ((8 : Int32) - fr) := ⟨_, rfl⟩
  rw [← hu27]
  have l28 : (8 : Int32).toInt = 8 := by decide
  have t29 : (u27.toInt - (((8 : Int32)).toInt - (fr).toInt)) % 4294967296 = 0 := by rw [hu27]; exact c_isub (8 : Int32) fr
  have r30 := rng32 u27
  refine OGoal.mp (S' := (T9.setTop (mkF m 24 #[.val (.ref k'), .val (.int fr), .val (.int to'), .val (.int (8 : Int32)), .val (.ref a17)] [(.int (8 : Int32)), (.int u27), (.int (0 : Int32)), (.ref a17), (.int fr), (.ref k')]))) (fun _ k => XS.iloadN X10.here hx rfl (hb hby own_d_jdk_65_method_137_code_23) rfl k) ?_
  refine oCallS (y := (⟨"java/lang/Math", "min", "(II)I"⟩ : MethodName)) X10 hx hZ hown (hw _ (List.mem_of_getElem? (i := 91) rfl)) (hw _ (List.mem_of_getElem? (i := 92) rfl)) (hw _ (List.mem_of_getElem? (i := 52) rfl)) (hw _ (List.mem_of_getElem? (i := 93) rfl)) (by decide) (rmMin l Z a0 hw u27 (8 : Int32) h13 n0 Z25 (by omega)) e11 [(.int u27), (.int (8 : Int32))] [(.int (0 : Int32)), (.ref a17), (.int fr), (.ref k')] rfl rfl (by rw [hml]; rfl) (lenOf own_pd__II_I rfl) 4 (Nat.le_of_eq rfl) (by decide) (by decide) (by decide) (by decide) (hb hby own_d_jdk_65_method_137_code_24) ?_
  intro v31 T32 L33 X34 q35
  obtain ⟨rfl, N36, e37⟩ := q35
  have N38 := Fr.app N8 N36
  show OGoal p e below s _ _ _ (T32.setTop (mkF m 27 #[.val (.ref k'), .val (.int fr), .val (.int to'), .val (.int (8 : Int32)), .val (.ref a17)] [(.int u27), (.int (0 : Int32)), (.ref a17), (.int fr), (.ref k')]))
  obtain ⟨T39, h43, L44, X40, e41, K45, A46, hL47, st42⟩ := oCopy X34 hx hZ hown (hw _ (List.mem_of_getElem? (i := 94) rfl)) (hw _ (List.mem_of_getElem? (i := 97) rfl)) (hw _ (List.mem_of_getElem? (i := 95) rfl)) (hw _ (List.mem_of_getElem? (i := 96) rfl)) e37 F23 F24 rfl (fun i _ => rfl) hfr.1 (by decide) (by omega) (by omega) (by omega) (g := mkF m 27 #[.val (.ref k'), .val (.int fr), .val (.int to'), .val (.int (8 : Int32)), .val (.ref a17)] [(.int u27), (.int (0 : Int32)), (.ref a17), (.int fr), (.ref k')]) rfl (by rw [hml]; rfl) rfl (hb hby own_d_jdk_65_method_137_code_27) (by decide) (by show 2 * 0 + 0 + (7 + 11) ≤ _; decide)
  have N48 := Fr.app N38 (fun y hy => by rw [hL47 y hy]; exact ab26 : Fr n0 L44)
  have F49 := F23.keep K45 (ninS (Nat.ne_of_lt lt20) nin0)
  have F51 := XA19.keep K45
  have K52 : Keep h0 h43 [] := K22.trans K45 (allS (Or.inr fr21) all0)
  have Z53 : n0 ≤ h43.size := Nat.le_trans Z25 K45.1
  refine OGoal.mp (S' := (T39.setTop (mkF m 30 #[.val (.ref k'), .val (.int fr), .val (.int to'), .val (.int (8 : Int32)), .val (.ref a17)] []))) (fun _ k => st42 _ k) ?_
  refine OGoal.mp (S' := (T39.setTop (mkF m 32 #[.val (.ref k'), .val (.int fr), .val (.int to'), .val (.int (8 : Int32)), .val (.ref a17)] [(.ref a17)]))) (fun _ k => XS.aload X40.here hx rfl (hb hby own_d_jdk_65_method_137_code_30) rfl rfl k) ?_
  refine oRetA X40 hx hlk hret rfl rfl (hb hby own_d_jdk_65_method_137_code_32) ?_ (by decide) (by decide)
  refine ⟨a17, rfl, N48, ?_, fr21, ?_, ?_⟩
  · rw [e41]; exact K52
  · rw [e41]; refine A46.imp (fun i _ => ?_)
    have e1 : (u27).toNatClampNeg = 8 - fr.toInt.toNat := by show (u27).toInt.toNat = _; omega
    have e2 : (0 : Int32).toNatClampNeg = 0 := by decide
    have e3 : fr.toNatClampNeg = fr.toInt.toNat := rfl
    try dsimp only
    rw [e1, e2, e3]
    unfold own_shI
    by_cases q : i < 8 - fr.toInt.toNat
    · rw [if_pos (by omega), if_pos q, Nat.sub_zero]
    · rw [if_neg (by omega), if_neg q]
  · rw [e41]; exact F51
theorem own_d_jdk_65_method_136_code_0 : decode jdk_65_method_136_code 0 = .ok (.iload_n 1, 1) := by decide +kernel
theorem own_d_jdk_65_method_136_code_1 : decode jdk_65_method_136_code 1 = .ok (.ifCond .ne 9, 3) := by decide +kernel
theorem own_d_jdk_65_method_136_code_4 : decode jdk_65_method_136_code 4 = .ok (.iload_n 2, 1) := by decide +kernel
theorem own_d_jdk_65_method_136_code_5 : decode jdk_65_method_136_code 5 = .ok (.aload_n 0, 1) := by decide +kernel
theorem own_d_jdk_65_method_136_code_6 : decode jdk_65_method_136_code 6 = .ok (.arraylength, 1) := by decide +kernel
theorem own_d_jdk_65_method_136_code_7 : decode jdk_65_method_136_code 7 = .ok (.if_icmp .eq 10, 3) := by decide +kernel
theorem own_d_jdk_65_method_136_code_17 : decode jdk_65_method_136_code 17 = .ok (.aload_n 0, 1) := by decide +kernel
theorem own_d_jdk_65_method_136_code_18 : decode jdk_65_method_136_code 18 = .ok (.invokevirtual 316, 3) := by decide +kernel
theorem own_d_jdk_65_method_136_code_21 : decode jdk_65_method_136_code 21 = .ok (.checkcast 317, 3) := by decide +kernel
theorem own_d_jdk_65_method_136_code_24 : decode jdk_65_method_136_code 24 = .ok (.areturn, 1) := by decide +kernel
theorem own_d_jdk_65_method_136_code_10 : decode jdk_65_method_136_code 10 = .ok (.aload_n 0, 1) := by decide +kernel
theorem own_d_jdk_65_method_136_code_11 : decode jdk_65_method_136_code 11 = .ok (.iload_n 1, 1) := by decide +kernel
theorem own_d_jdk_65_method_136_code_12 : decode jdk_65_method_136_code 12 = .ok (.iload_n 2, 1) := by decide +kernel
theorem own_d_jdk_65_method_136_code_13 : decode jdk_65_method_136_code 13 = .ok (.invokestatic 351, 3) := by decide +kernel
theorem own_pd___III__I : parseMethodDescriptor "([III)[I" = some ⟨[(.array .int), .int, .int], some (.array .int)⟩ := by decide +kernel
theorem own_d_jdk_65_method_136_code_16 : decode jdk_65_method_136_code 16 = .ok (.areturn, 1) := by decide +kernel
theorem own_ef_rmCRI (x0 : Addr) (x1 : Int32) (x2 : Int32) (m : MethodId) : entryFrame m #[(.ref x0), (.int x1), (.int x2)] 3 = mkF m 0 #[.val (.ref x0), .val (.int x1), .val (.int x2)] [] := by first | (simp [entryFrame, mkF, argsToLocals, Value.category]; done) | rfl
set_option maxRecDepth 65536 in
set_option maxHeartbeats 40000000 in
theorem rmCRI (l : Launch) (Z : State) (a0 : Array Value) (hw : ∀ d ∈ tables_1, d.before a0 Z = true) (k' : Addr) (fr to' : Int32) (h0 : Heap) (n0 : Nat) (Z0 : n0 ≤ h0.size) (fk : Nat → Int32) (A : OArr Z h0 k' .int 8 (fun i => .int (fk i))) (hfr : 0 ≤ fr.toInt ∧ fr.toInt ≤ 3) (hto : to'.toInt = fr.toInt + 8) (Ex : Exa Z h0 k' "[I") :
    OCon l Z (⟨"java/util/Arrays", "copyOfRange", "([III)[I"⟩ : MethodName) jdk_65_method_136_code 3 (some (.array .int)) ({ frames := 2, cells := 1, slots := 8, locals := 34 } : Room) #[(.ref k'), (.int fr), (.int to')] h0 (Q_rI Z fk fr h0 n0) := by
  refine OConK.intro (y := (⟨"java/util/Arrays", "copyOfRange", "([III)[I"⟩ : MethodName)) (plainFor_of_name own_pn_java_util_Arrays) (own_ef_rmCRI k' fr to') ?_
  intro p e s m below meth c s₁ hx hby hml hown hnm hret hlk hZ X0 e0
  have l8 := own_8
  have l0 := own_0
  have := hfr.1
  have := hfr.2
  show OGoal p e below s _ _ _ (s₁.setTop (mkF m 0 #[.val (.ref k'), .val (.int fr), .val (.int to')] []))
  refine OGoal.mp (S' := (s₁.setTop (mkF m 1 #[.val (.ref k'), .val (.int fr), .val (.int to')] [(.int fr)]))) (fun _ k => XS.iloadN X0.here hx rfl (hb hby own_d_jdk_65_method_136_code_0) rfl k) ?_
  by_cases hc1 : fr = 0
  · have hz := oEq hc1
    rw [own_0] at hz
    refine OGoal.mp (S' := (s₁.setTop (mkF m 4 #[.val (.ref k'), .val (.int fr), .val (.int to')] []))) (fun _ k => XS.ifNo X0.here hx rfl (hb hby own_d_jdk_65_method_136_code_1) rfl (XT.i0_ne_f hc1) k) ?_
    refine OGoal.mp (S' := (s₁.setTop (mkF m 5 #[.val (.ref k'), .val (.int fr), .val (.int to')] [(.int to')]))) (fun _ k => XS.iloadN X0.here hx rfl (hb hby own_d_jdk_65_method_136_code_4) rfl k) ?_
    refine OGoal.mp (S' := (s₁.setTop (mkF m 6 #[.val (.ref k'), .val (.int fr), .val (.int to')] [(.ref k'), (.int to')]))) (fun _ k => XS.aloadN X0.here hx rfl (hb hby own_d_jdk_65_method_136_code_5) rfl rfl k) ?_
    refine OGoal.mp (S' := (s₁.setTop (mkF m 7 #[.val (.ref k'), .val (.int fr), .val (.int to')] [(.int (8 : Int32)), (.int to')]))) (fun _ k => oLen X0 hx hZ e0 A (g := mkF m 6 #[.val (.ref k'), .val (.int fr), .val (.int to')] [(.ref k'), (.int to')]) rfl rfl (hb hby own_d_jdk_65_method_136_code_6) k) ?_
    refine OGoal.mp (S' := (s₁.setTop (mkF m 17 #[.val (.ref k'), .val (.int fr), .val (.int to')] []))) (fun _ k => XS.icmpYes X0.here hx rfl (pc0 := 7) (pc' := 17) rfl (hb hby own_d_jdk_65_method_136_code_7) rfl (XT.ii_eq_t (mEq (by rw [own_8]; omega))) (by decide) (by decide) k) ?_
    refine OGoal.mp (S' := (s₁.setTop (mkF m 18 #[.val (.ref k'), .val (.int fr), .val (.int to')] [(.ref k')]))) (fun _ k => XS.aloadN X0.here hx rfl (hb hby own_d_jdk_65_method_136_code_17) rfl rfl k) ?_
    obtain ⟨T2, h6, X3, e4, E7, A8, XA9, st5⟩ := oClone X0 hx hZ hown (hw _ (List.mem_of_getElem? (i := 74) rfl)) (hw _ (List.mem_of_getElem? (i := 75) rfl)) (hw _ (List.mem_of_getElem? (i := 67) rfl)) (hw _ (List.mem_of_getElem? (i := 65) rfl)) (hw _ (List.mem_of_getElem? (i := 76) rfl)) (hw _ (List.mem_of_getElem? (i := 77) rfl)) e0 A Ex (fun i _ => rfl) (g := mkF m 18 #[.val (.ref k'), .val (.int fr), .val (.int to')] [(.ref k')]) rfl (by rw [hml]; rfl) rfl (hb hby own_d_jdk_65_method_136_code_18) (by decide) (W := 0) (cap := 8) (by show 2 * 0 + _ ≤ _; exact Nat.le_of_eq rfl) (by decide) (by decide) (by decide) (by decide)
    obtain ⟨a10, g11⟩ : ∃ z, z = h0.size := ⟨_, rfl⟩
    rw [← g11] at A8 XA9 st5
    have lt12 : k' < a10 := by rw [g11]; exact A.lt
    have fr13 : h0.size ≤ a10 := by rw [g11]; exact (Keep.refl h0 []).1
    have K14 : Keep h0 h6 [] := (Keep.refl h0 []).ext E7
    have F15 := A.ext E7
    have F16 := Ex.ext E7
    have Z17 : n0 ≤ h6.size := Nat.le_trans Z0 E7.1
    have ab18 : n0 ≤ a10 := Nat.le_trans Z0 (Nat.le_of_eq g11.symm)
    refine OGoal.mp (S' := (T2.setTop (mkF m 21 #[.val (.ref k'), .val (.int fr), .val (.int to')] [(.ref a10)]))) (fun _ k => st5 _ k) ?_
    obtain ⟨T19, X20, e21, st22⟩ := castY X3 hx hZ hown (hw _ (List.mem_of_getElem? (i := 78) rfl)) e4 (Ins.self XA9) (g := mkF m 21 #[.val (.ref k'), .val (.int fr), .val (.int to')] [(.ref a10)]) rfl rfl (hb hby own_d_jdk_65_method_136_code_21)
    refine OGoal.mp (S' := (T19.setTop (mkF m 24 #[.val (.ref k'), .val (.int fr), .val (.int to')] [(.ref a10)]))) (fun _ k => st22 _ k) ?_
    refine oRetA X20 hx hlk hret rfl rfl (hb hby own_d_jdk_65_method_136_code_24) ?_ (by decide) (by decide)
    refine ⟨a10, rfl, (Fr.nil n0), by rw [e21]; exact K14, fr13, ?_, by rw [e21]; exact XA9⟩
    rw [e21]; refine A8.imp (fun i q => ?_)
    have q8 : i < 8 := q
    have e0' : fr.toInt.toNat = 0 := by omega
    try dsimp only
    unfold own_shI
    rw [e0', if_pos (by omega), Nat.zero_add]
  · have hz := oNe hc1
    rw [own_0] at hz
    refine OGoal.mp (S' := (s₁.setTop (mkF m 10 #[.val (.ref k'), .val (.int fr), .val (.int to')] []))) (fun _ k => XS.ifYes X0.here hx rfl (pc0 := 1) (pc' := 10) rfl (hb hby own_d_jdk_65_method_136_code_1) rfl (XT.i0_ne_t hc1) (by decide) (by decide) k) ?_
    refine OGoal.mp (S' := (s₁.setTop (mkF m 11 #[.val (.ref k'), .val (.int fr), .val (.int to')] [(.ref k')]))) (fun _ k => XS.aloadN X0.here hx rfl (hb hby own_d_jdk_65_method_136_code_10) rfl rfl k) ?_
    refine OGoal.mp (S' := (s₁.setTop (mkF m 12 #[.val (.ref k'), .val (.int fr), .val (.int to')] [(.int fr), (.ref k')]))) (fun _ k => XS.iloadN X0.here hx rfl (hb hby own_d_jdk_65_method_136_code_11) rfl k) ?_
    refine OGoal.mp (S' := (s₁.setTop (mkF m 13 #[.val (.ref k'), .val (.int fr), .val (.int to')] [(.int to'), (.int fr), (.ref k')]))) (fun _ k => XS.iloadN X0.here hx rfl (hb hby own_d_jdk_65_method_136_code_12) rfl k) ?_
    refine oCallS (y := (⟨"java/util/Arrays", "copyOfRangeInt", "([III)[I"⟩ : MethodName)) X0 hx hZ hown (hw _ (List.mem_of_getElem? (i := 98) rfl)) (hw _ (List.mem_of_getElem? (i := 99) rfl)) (hw _ (List.mem_of_getElem? (i := 60) rfl)) (hw _ (List.mem_of_getElem? (i := 100) rfl)) (by decide) (rmRI l Z a0 hw k' fr to' h0 n0 Z0 fk A hfr hto) e0 [(.ref k'), (.int fr), (.int to')] [] rfl rfl (by rw [hml]; rfl) (lenOf own_pd___III__I rfl) 0 (Nat.le_of_eq rfl) (by decide) (by decide) (by decide) (by decide) (hb hby own_d_jdk_65_method_136_code_13) ?_
    intro v24 T25 L26 X27 q28
    obtain ⟨r23, rfl, N29, K30, hr31, A32, E33⟩ := q28
    have N34 := Fr.app (Fr.nil n0) N29
    show OGoal p e below s _ _ _ (T25.setTop (mkF m 16 #[.val (.ref k'), .val (.int fr), .val (.int to')] [(.ref r23)]))
    refine oRetA X27 hx hlk hret rfl rfl (hb hby own_d_jdk_65_method_136_code_16) ?_ (by decide) (by decide)
    exact ⟨_, rfl, N34, K30, hr31, A32, E33⟩
theorem own_d_prog_7_method_4_code_0 : decode prog_7_method_4_code 0 = .ok (.aload_n 0, 1) := by decide +kernel
theorem own_d_prog_7_method_4_code_1 : decode prog_7_method_4_code 1 = .ok (.getfield 24, 3) := by decide +kernel
theorem own_d_prog_7_method_4_code_4 : decode prog_7_method_4_code 4 = .ok (.aload_n 0, 1) := by decide +kernel
theorem own_d_prog_7_method_4_code_5 : decode prog_7_method_4_code 5 = .ok (.getfield 20, 3) := by decide +kernel
theorem own_d_prog_7_method_4_code_8 : decode prog_7_method_4_code 8 = .ok (.isub, 1) := by decide +kernel
theorem own_d_prog_7_method_4_code_9 : decode prog_7_method_4_code 9 = .ok (.ireturn, 1) := by decide +kernel
theorem own_pn_com_example_stepwise_medians_stepwisemedians_engine_EntryDeque : plainName "com/example/stepwise_medians/stepwisemedians/engine/EntryDeque" = true := by first | (simp [plainName, overriddenIn]; done) | decide +kernel
theorem own_ef_rmSz (x0 : Addr) (m : MethodId) : entryFrame m #[(.ref x0)] 1 = mkF m 0 #[.val (.ref x0)] [] := by first | (simp [entryFrame, mkF, argsToLocals, Value.category]; done) | rfl
set_option maxRecDepth 65536 in
set_option maxHeartbeats 40000000 in
theorem rmSz (l : Launch) (Z : State) (a0 : Array Value) (hw : ∀ d ∈ tables_1, d.before a0 Z = true) (a : Addr) (h0 : Heap) (n0 : Nat) (Z0 : n0 ≤ h0.size) (fi en : Int32) (Ff : Fld Z h0 a "com/example/stepwise_medians/stepwisemedians/engine/EntryDeque" "first" "I" (.int fi)) (Fe : Fld Z h0 a "com/example/stepwise_medians/stepwisemedians/engine/EntryDeque" "end" "I" (.int en)) :
    OCon l Z (⟨"com/example/stepwise_medians/stepwisemedians/engine/EntryDeque", "size", "()I"⟩ : MethodName) prog_7_method_4_code 1 (some .int) ({ frames := 0, cells := 0, slots := 0, locals := 0 } : Room) #[(.ref a)] h0 (fun v h L => v = some (.int (en - fi)) ∧ Fr n0 L ∧ h = h0) := by
  refine OConK.intro (y := (⟨"com/example/stepwise_medians/stepwisemedians/engine/EntryDeque", "size", "()I"⟩ : MethodName)) (plainFor_of_name own_pn_com_example_stepwise_medians_stepwisemedians_engine_EntryDeque) (own_ef_rmSz a) ?_
  intro p e s m below meth c s₁ hx hby hml hown hnm hret hlk hZ X0 e0
  show OGoal p e below s _ _ _ (s₁.setTop (mkF m 0 #[.val (.ref a)] []))
  refine OGoal.mp (S' := (s₁.setTop (mkF m 1 #[.val (.ref a)] [(.ref a)]))) (fun _ k => XS.aloadN X0.here hx rfl (hb hby own_d_prog_7_method_4_code_0) rfl rfl k) ?_
  obtain ⟨T1, X2, e3, st4⟩ := getF X0 hx hZ hown (host := "") (Or.inl (hw _ (List.mem_of_getElem? (i := 22) rfl))) Via.refl e0 Fe (g := mkF m 1 #[.val (.ref a)] [(.ref a)]) rfl rfl (hb hby own_d_prog_7_method_4_code_1)
  refine OGoal.mp (S' := (T1.setTop (mkF m 4 #[.val (.ref a)] [(.int en)]))) (fun _ k => st4 _ k) ?_
  refine OGoal.mp (S' := (T1.setTop (mkF m 5 #[.val (.ref a)] [(.ref a), (.int en)]))) (fun _ k => XS.aloadN X2.here hx rfl (hb hby own_d_prog_7_method_4_code_4) rfl rfl k) ?_
  obtain ⟨T5, X6, e7, st8⟩ := getF X2 hx hZ hown (host := "") (Or.inl (hw _ (List.mem_of_getElem? (i := 29) rfl))) Via.refl e3 Ff (g := mkF m 5 #[.val (.ref a)] [(.ref a), (.int en)]) rfl rfl (hb hby own_d_prog_7_method_4_code_5)
  refine OGoal.mp (S' := (T5.setTop (mkF m 8 #[.val (.ref a)] [(.int fi), (.int en)]))) (fun _ k => st8 _ k) ?_
  refine OGoal.mp (S' := (T5.setTop (mkF m 9 #[.val (.ref a)] [(.int (en - fi))]))) (fun _ k => XS.isub X6.here hx rfl (hb hby own_d_prog_7_method_4_code_8) rfl k) ?_
  refine oRetI X6 hx hlk hret (hb hby own_d_prog_7_method_4_code_9) ?_ (by decide) (by decide)
  exact ⟨rfl, (Fr.nil n0), e7⟩
theorem own_d_prog_7_method_5_code_0 : decode prog_7_method_5_code 0 = .ok (.aload_n 0, 1) := by decide +kernel
theorem own_d_prog_7_method_5_code_1 : decode prog_7_method_5_code 1 = .ok (.getfield 9, 3) := by decide +kernel
theorem own_d_prog_7_method_5_code_4 : decode prog_7_method_5_code 4 = .ok (.aload_n 0, 1) := by decide +kernel
theorem own_d_prog_7_method_5_code_5 : decode prog_7_method_5_code 5 = .ok (.getfield 20, 3) := by decide +kernel
theorem own_d_prog_7_method_5_code_8 : decode prog_7_method_5_code 8 = .ok (.iload_n 1, 1) := by decide +kernel
theorem own_d_prog_7_method_5_code_9 : decode prog_7_method_5_code 9 = .ok (.iadd, 1) := by decide +kernel
theorem own_d_prog_7_method_5_code_10 : decode prog_7_method_5_code 10 = .ok (.daload, 1) := by decide +kernel
theorem own_d_prog_7_method_5_code_11 : decode prog_7_method_5_code 11 = .ok (.dreturn, 1) := by decide +kernel
theorem own_ef_rmKey (x0 : Addr) (x1 : Int32) (m : MethodId) : entryFrame m #[(.ref x0), (.int x1)] 2 = mkF m 0 #[.val (.ref x0), .val (.int x1)] [] := by first | (simp [entryFrame, mkF, argsToLocals, Value.category]; done) | rfl
set_option maxRecDepth 65536 in
set_option maxHeartbeats 40000000 in
theorem rmKey (l : Launch) (Z : State) (a0 : Array Value) (hw : ∀ d ∈ tables_1, d.before a0 Z = true) (a : Addr) (ix : Int32) (h0 : Heap) (n0 : Nat) (Z0 : n0 ≤ h0.size) (ka : Addr) (fi : Int32) (fk : Nat → UInt64) (x1 : UInt64) (Fk : Fld Z h0 a "com/example/stepwise_medians/stepwisemedians/engine/EntryDeque" "keys" "[D" (.ref ka)) (Ff : Fld Z h0 a "com/example/stepwise_medians/stepwisemedians/engine/EntryDeque" "first" "I" (.int fi)) (Ak : OArr Z h0 ka .double 8 (fun i => .double (fk i))) (hx1 : 0 ≤ (fi + ix).toInt) (hx2 : (fi + ix).toInt < 8) (hxv : fk (fi + ix).toNatClampNeg = x1) :
    OCon l Z (⟨"com/example/stepwise_medians/stepwisemedians/engine/EntryDeque", "key", "(I)D"⟩ : MethodName) prog_7_method_5_code 2 (some .double) ({ frames := 0, cells := 0, slots := 0, locals := 0 } : Room) #[(.ref a), (.int ix)] h0 (fun v h L => v = some (.double x1) ∧ Fr n0 L ∧ h = h0) := by
  refine OConK.intro (y := (⟨"com/example/stepwise_medians/stepwisemedians/engine/EntryDeque", "key", "(I)D"⟩ : MethodName)) (plainFor_of_name own_pn_com_example_stepwise_medians_stepwisemedians_engine_EntryDeque) (own_ef_rmKey a ix) ?_
  intro p e s m below meth c s₁ hx hby hml hown hnm hret hlk hZ X0 e0
  show OGoal p e below s _ _ _ (s₁.setTop (mkF m 0 #[.val (.ref a), .val (.int ix)] []))
  refine OGoal.mp (S' := (s₁.setTop (mkF m 1 #[.val (.ref a), .val (.int ix)] [(.ref a)]))) (fun _ k => XS.aloadN X0.here hx rfl (hb hby own_d_prog_7_method_5_code_0) rfl rfl k) ?_
  obtain ⟨T1, X2, e3, st4⟩ := getF X0 hx hZ hown (host := "") (Or.inl (hw _ (List.mem_of_getElem? (i := 10) rfl))) Via.refl e0 Fk (g := mkF m 1 #[.val (.ref a), .val (.int ix)] [(.ref a)]) rfl rfl (hb hby own_d_prog_7_method_5_code_1)
  refine OGoal.mp (S' := (T1.setTop (mkF m 4 #[.val (.ref a), .val (.int ix)] [(.ref ka)]))) (fun _ k => st4 _ k) ?_
  refine OGoal.mp (S' := (T1.setTop (mkF m 5 #[.val (.ref a), .val (.int ix)] [(.ref a), (.ref ka)]))) (fun _ k => XS.aloadN X2.here hx rfl (hb hby own_d_prog_7_method_5_code_4) rfl rfl k) ?_
  obtain ⟨T5, X6, e7, st8⟩ := getF X2 hx hZ hown (host := "") (Or.inl (hw _ (List.mem_of_getElem? (i := 29) rfl))) Via.refl e3 Ff (g := mkF m 5 #[.val (.ref a), .val (.int ix)] [(.ref a), (.ref ka)]) rfl rfl (hb hby own_d_prog_7_method_5_code_5)
  refine OGoal.mp (S' := (T5.setTop (mkF m 8 #[.val (.ref a), .val (.int ix)] [(.int fi), (.ref ka)]))) (fun _ k => st8 _ k) ?_
  refine OGoal.mp (S' := (T5.setTop (mkF m 9 #[.val (.ref a), .val (.int ix)] [(.int ix), (.int fi), (.ref ka)]))) (fun _ k => XS.iloadN X6.here hx rfl (hb hby own_d_prog_7_method_5_code_8) rfl k) ?_
  refine OGoal.mp (S' := (T5.setTop (mkF m 10 #[.val (.ref a), .val (.int ix)] [(.int (fi + ix)), (.ref ka)]))) (fun _ k => XS.iadd X6.here hx rfl (hb hby own_d_prog_7_method_5_code_9) rfl k) ?_
  refine OGoal.mp (S' := (T5.setTop (mkF m 11 #[.val (.ref a), .val (.int ix)] [(.double x1)]))) (fun _ k => oLdD X6 hx hZ e7 Ak hx1 (Int.lt_of_lt_of_le hx2 (by decide)) (congrArg Value.double hxv) (g := mkF m 10 #[.val (.ref a), .val (.int ix)] [(.int (fi + ix)), (.ref ka)]) rfl rfl (hb hby own_d_prog_7_method_5_code_10) k) ?_
  refine oRetD X6 hx hlk hret (hb hby own_d_prog_7_method_5_code_11) ?_ (by decide) (by decide)
  exact ⟨rfl, (Fr.nil n0), e7⟩
theorem own_d_prog_7_method_9_code_0 : decode prog_7_method_9_code 0 = .ok (.aload_n 0, 1) := by decide +kernel
theorem own_d_prog_7_method_9_code_1 : decode prog_7_method_9_code 1 = .ok (.dup, 1) := by decide +kernel
theorem own_d_prog_7_method_9_code_2 : decode prog_7_method_9_code 2 = .ok (.getfield 20, 3) := by decide +kernel
theorem own_d_prog_7_method_9_code_5 : decode prog_7_method_9_code 5 = .ok (.iload_n 1, 1) := by decide +kernel
theorem own_d_prog_7_method_9_code_6 : decode prog_7_method_9_code 6 = .ok (.iadd, 1) := by decide +kernel
theorem own_d_prog_7_method_9_code_7 : decode prog_7_method_9_code 7 = .ok (.putfield 20, 3) := by decide +kernel
theorem own_d_prog_7_method_9_code_10 : decode prog_7_method_9_code 10 = .ok (.return_, 1) := by decide +kernel
theorem own_ef_rmDF (x0 : Addr) (x1 : Int32) (m : MethodId) : entryFrame m #[(.ref x0), (.int x1)] 2 = mkF m 0 #[.val (.ref x0), .val (.int x1)] [] := by first | (simp [entryFrame, mkF, argsToLocals, Value.category]; done) | rfl
set_option maxRecDepth 65536 in
set_option maxHeartbeats 40000000 in
theorem rmDF (l : Launch) (Z : State) (a0 : Array Value) (hw : ∀ d ∈ tables_1, d.before a0 Z = true) (a : Addr) (n1 : Int32) (h0 : Heap) (n0 : Nat) (Z0 : n0 ≤ h0.size) (fi en : Int32) (fk : Nat → UInt64) (hD : Dq Z h0 a fi en fk n0) :
    OCon l Z (⟨"com/example/stepwise_medians/stepwisemedians/engine/EntryDeque", "dropFirst", "(I)V"⟩ : MethodName) prog_7_method_9_code 2 none ({ frames := 0, cells := 0, slots := 0, locals := 0 } : Room) #[(.ref a), (.int n1)] h0 (fun v h L => v = none ∧ Fr n0 L ∧ Dq Z h a (fi + n1) en fk n0) := by
  refine OConK.intro (y := (⟨"com/example/stepwise_medians/stepwisemedians/engine/EntryDeque", "dropFirst", "(I)V"⟩ : MethodName)) (plainFor_of_name own_pn_com_example_stepwise_medians_stepwisemedians_engine_EntryDeque) (own_ef_rmDF a n1) ?_
  intro p e s m below meth c s₁ hx hby hml hown hnm hret hlk hZ X0 e0
  obtain ⟨k1, v2, q3, fv4, fp5, E6, F7, F8, F9, F10, F11, A12, A13, A14, E15, E16, E17, nn18, nn19, nn20, b21, b22, b23, b24⟩ := hD
  have nq25 := oNeA E6 (hw _ (List.mem_of_getElem? (i := 1) rfl)) A12
  have nq26 := oNeA E6 (hw _ (List.mem_of_getElem? (i := 1) rfl)) A13
  have nq27 := oNeA E6 (hw _ (List.mem_of_getElem? (i := 1) rfl)) A14
  show OGoal p e below s _ _ _ (s₁.setTop (mkF m 0 #[.val (.ref a), .val (.int n1)] []))
  refine OGoal.mp (S' := (s₁.setTop (mkF m 1 #[.val (.ref a), .val (.int n1)] [(.ref a)]))) (fun _ k => XS.aloadN X0.here hx rfl (hb hby own_d_prog_7_method_9_code_0) rfl rfl k) ?_
  refine OGoal.mp (S' := (s₁.setTop (mkF m 2 #[.val (.ref a), .val (.int n1)] [(.ref a), (.ref a)]))) (fun _ k => XS.dup X0.here hx rfl (hb hby own_d_prog_7_method_9_code_1) rfl rfl k) ?_
  obtain ⟨T28, X29, e30, st31⟩ := getF X0 hx hZ hown (host := "") (Or.inl (hw _ (List.mem_of_getElem? (i := 29) rfl))) Via.refl e0 F10 (g := mkF m 2 #[.val (.ref a), .val (.int n1)] [(.ref a), (.ref a)]) rfl rfl (hb hby own_d_prog_7_method_9_code_2)
  refine OGoal.mp (S' := (T28.setTop (mkF m 5 #[.val (.ref a), .val (.int n1)] [(.int fi), (.ref a)]))) (fun _ k => st31 _ k) ?_
  refine OGoal.mp (S' := (T28.setTop (mkF m 6 #[.val (.ref a), .val (.int n1)] [(.int n1), (.int fi), (.ref a)]))) (fun _ k => XS.iloadN X29.here hx rfl (hb hby own_d_prog_7_method_9_code_5) rfl k) ?_
  refine OGoal.mp (S' := (T28.setTop (mkF m 7 #[.val (.ref a), .val (.int n1)] [(.int (fi + n1)), (.ref a)]))) (fun _ k => XS.iadd X29.here hx rfl (hb hby own_d_prog_7_method_9_code_6) rfl k) ?_
  obtain ⟨T32, h36, X33, e34, W37, st35⟩ := putF X29 hx hZ hown (host := "") (Or.inl (hw _ (List.mem_of_getElem? (i := 29) rfl))) Via.refl e30 F10 E6 (Or.inl (hw _ (List.mem_of_getElem? (i := 30) rfl))) (hw _ (List.mem_of_getElem? (i := 1) rfl)) (ty := .int) (by decide) rfl rfl (g := mkF m 7 #[.val (.ref a), .val (.int n1)] [(.int (fi + n1)), (.ref a)]) rfl rfl (hb hby own_d_prog_7_method_9_code_7)
  have N38 := Fr.snoc X33 (Fr.nil n0) b21
  have Z39 : n0 ≤ h36.size := Nat.le_trans Z0 (Keep.of_wr W37).1
  have F40 := E6.wr W37
  have F41 := F7.other W37 (Or.inr (slot_ne (a0 := a0) (C := "com/example/stepwise_medians/stepwisemedians/engine/EntryDeque") (t := (.array .double)) (t' := .int) (Or.inl (hw _ (List.mem_of_getElem? (i := 11) rfl))) (Or.inl (hw _ (List.mem_of_getElem? (i := 30) rfl))) (by decide) (by decide) (by decide)))
  have F42 := F8.other W37 (Or.inr (slot_ne (a0 := a0) (C := "com/example/stepwise_medians/stepwisemedians/engine/EntryDeque") (t := (.array .double)) (t' := .int) (Or.inl (hw _ (List.mem_of_getElem? (i := 13) rfl))) (Or.inl (hw _ (List.mem_of_getElem? (i := 30) rfl))) (by decide) (by decide) (by decide)))
  have F43 := F9.other W37 (Or.inr (slot_ne (a0 := a0) (C := "com/example/stepwise_medians/stepwisemedians/engine/EntryDeque") (t := (.array .int)) (t' := .int) (Or.inl (hw _ (List.mem_of_getElem? (i := 16) rfl))) (Or.inl (hw _ (List.mem_of_getElem? (i := 30) rfl))) (by decide) (by decide) (by decide)))
  have F44 := F10.same W37
  have F45 := F11.other W37 (Or.inr (slot_ne (a0 := a0) (C := "com/example/stepwise_medians/stepwisemedians/engine/EntryDeque") (t := .int) (t' := .int) (Or.inl (hw _ (List.mem_of_getElem? (i := 23) rfl))) (Or.inl (hw _ (List.mem_of_getElem? (i := 30) rfl))) (by decide) (by decide) (by decide)))
  have F46 := A12.other W37 nq25.symm
  have F47 := E15.wr W37
  have F48 := A13.other W37 nq26.symm
  have F49 := E16.wr W37
  have F50 := A14.other W37 nq27.symm
  have F51 := E17.wr W37
  refine OGoal.mp (S' := (T32.setTop (mkF m 10 #[.val (.ref a), .val (.int n1)] []))) (fun _ k => st35 _ k) ?_
  refine oRetV X33 hx hlk hret (hb hby own_d_prog_7_method_9_code_10) ?_ (by decide) (by decide)
  rw [e34]; exact ⟨rfl, N38, ⟨k1, v2, q3, fv4, fp5, F40, F41, F42, F43, F44, F45, F46, F48, F50, F47, F49, F51, nn18, nn19, nn20, b21, b22, b23, b24⟩⟩
theorem own_d_prog_7_method_10_code_0 : decode prog_7_method_10_code 0 = .ok (.aload_n 0, 1) := by decide +kernel
theorem own_d_prog_7_method_10_code_1 : decode prog_7_method_10_code 1 = .ok (.dup, 1) := by decide +kernel
theorem own_d_prog_7_method_10_code_2 : decode prog_7_method_10_code 2 = .ok (.getfield 24, 3) := by decide +kernel
theorem own_d_prog_7_method_10_code_5 : decode prog_7_method_10_code 5 = .ok (.iload_n 1, 1) := by decide +kernel
theorem own_d_prog_7_method_10_code_6 : decode prog_7_method_10_code 6 = .ok (.isub, 1) := by decide +kernel
theorem own_d_prog_7_method_10_code_7 : decode prog_7_method_10_code 7 = .ok (.putfield 24, 3) := by decide +kernel
theorem own_d_prog_7_method_10_code_10 : decode prog_7_method_10_code 10 = .ok (.return_, 1) := by decide +kernel
theorem own_ef_rmDL (x0 : Addr) (x1 : Int32) (m : MethodId) : entryFrame m #[(.ref x0), (.int x1)] 2 = mkF m 0 #[.val (.ref x0), .val (.int x1)] [] := by first | (simp [entryFrame, mkF, argsToLocals, Value.category]; done) | rfl
set_option maxRecDepth 65536 in
set_option maxHeartbeats 40000000 in
theorem rmDL (l : Launch) (Z : State) (a0 : Array Value) (hw : ∀ d ∈ tables_1, d.before a0 Z = true) (a : Addr) (n1 : Int32) (h0 : Heap) (n0 : Nat) (Z0 : n0 ≤ h0.size) (fi en : Int32) (fk : Nat → UInt64) (hD : Dq Z h0 a fi en fk n0) :
    OCon l Z (⟨"com/example/stepwise_medians/stepwisemedians/engine/EntryDeque", "dropLast", "(I)V"⟩ : MethodName) prog_7_method_10_code 2 none ({ frames := 0, cells := 0, slots := 0, locals := 0 } : Room) #[(.ref a), (.int n1)] h0 (fun v h L => v = none ∧ Fr n0 L ∧ Dq Z h a fi (en - n1) fk n0) := by
  refine OConK.intro (y := (⟨"com/example/stepwise_medians/stepwisemedians/engine/EntryDeque", "dropLast", "(I)V"⟩ : MethodName)) (plainFor_of_name own_pn_com_example_stepwise_medians_stepwisemedians_engine_EntryDeque) (own_ef_rmDL a n1) ?_
  intro p e s m below meth c s₁ hx hby hml hown hnm hret hlk hZ X0 e0
  obtain ⟨k1, v2, q3, fv4, fp5, E6, F7, F8, F9, F10, F11, A12, A13, A14, E15, E16, E17, nn18, nn19, nn20, b21, b22, b23, b24⟩ := hD
  have nq25 := oNeA E6 (hw _ (List.mem_of_getElem? (i := 1) rfl)) A12
  have nq26 := oNeA E6 (hw _ (List.mem_of_getElem? (i := 1) rfl)) A13
  have nq27 := oNeA E6 (hw _ (List.mem_of_getElem? (i := 1) rfl)) A14
  show OGoal p e below s _ _ _ (s₁.setTop (mkF m 0 #[.val (.ref a), .val (.int n1)] []))
  refine OGoal.mp (S' := (s₁.setTop (mkF m 1 #[.val (.ref a), .val (.int n1)] [(.ref a)]))) (fun _ k => XS.aloadN X0.here hx rfl (hb hby own_d_prog_7_method_10_code_0) rfl rfl k) ?_
  refine OGoal.mp (S' := (s₁.setTop (mkF m 2 #[.val (.ref a), .val (.int n1)] [(.ref a), (.ref a)]))) (fun _ k => XS.dup X0.here hx rfl (hb hby own_d_prog_7_method_10_code_1) rfl rfl k) ?_
  obtain ⟨T28, X29, e30, st31⟩ := getF X0 hx hZ hown (host := "") (Or.inl (hw _ (List.mem_of_getElem? (i := 22) rfl))) Via.refl e0 F11 (g := mkF m 2 #[.val (.ref a), .val (.int n1)] [(.ref a), (.ref a)]) rfl rfl (hb hby own_d_prog_7_method_10_code_2)
  refine OGoal.mp (S' := (T28.setTop (mkF m 5 #[.val (.ref a), .val (.int n1)] [(.int en), (.ref a)]))) (fun _ k => st31 _ k) ?_
  refine OGoal.mp (S' := (T28.setTop (mkF m 6 #[.val (.ref a), .val (.int n1)] [(.int n1), (.int en), (.ref a)]))) (fun _ k => XS.iloadN X29.here hx rfl (hb hby own_d_prog_7_method_10_code_5) rfl k) ?_
  refine OGoal.mp (S' := (T28.setTop (mkF m 7 #[.val (.ref a), .val (.int n1)] [(.int (en - n1)), (.ref a)]))) (fun _ k => XS.isub X29.here hx rfl (hb hby own_d_prog_7_method_10_code_6) rfl k) ?_
  obtain ⟨T32, h36, X33, e34, W37, st35⟩ := putF X29 hx hZ hown (host := "") (Or.inl (hw _ (List.mem_of_getElem? (i := 22) rfl))) Via.refl e30 F11 E6 (Or.inl (hw _ (List.mem_of_getElem? (i := 23) rfl))) (hw _ (List.mem_of_getElem? (i := 1) rfl)) (ty := .int) (by decide) rfl rfl (g := mkF m 7 #[.val (.ref a), .val (.int n1)] [(.int (en - n1)), (.ref a)]) rfl rfl (hb hby own_d_prog_7_method_10_code_7)
  have N38 := Fr.snoc X33 (Fr.nil n0) b21
  have Z39 : n0 ≤ h36.size := Nat.le_trans Z0 (Keep.of_wr W37).1
  have F40 := E6.wr W37
  have F41 := F7.other W37 (Or.inr (slot_ne (a0 := a0) (C := "com/example/stepwise_medians/stepwisemedians/engine/EntryDeque") (t := (.array .double)) (t' := .int) (Or.inl (hw _ (List.mem_of_getElem? (i := 11) rfl))) (Or.inl (hw _ (List.mem_of_getElem? (i := 23) rfl))) (by decide) (by decide) (by decide)))
  have F42 := F8.other W37 (Or.inr (slot_ne (a0 := a0) (C := "com/example/stepwise_medians/stepwisemedians/engine/EntryDeque") (t := (.array .double)) (t' := .int) (Or.inl (hw _ (List.mem_of_getElem? (i := 13) rfl))) (Or.inl (hw _ (List.mem_of_getElem? (i := 23) rfl))) (by decide) (by decide) (by decide)))
  have F43 := F9.other W37 (Or.inr (slot_ne (a0 := a0) (C := "com/example/stepwise_medians/stepwisemedians/engine/EntryDeque") (t := (.array .int)) (t' := .int) (Or.inl (hw _ (List.mem_of_getElem? (i := 16) rfl))) (Or.inl (hw _ (List.mem_of_getElem? (i := 23) rfl))) (by decide) (by decide) (by decide)))
  have F44 := F10.other W37 (Or.inr (slot_ne (a0 := a0) (C := "com/example/stepwise_medians/stepwisemedians/engine/EntryDeque") (t := .int) (t' := .int) (Or.inl (hw _ (List.mem_of_getElem? (i := 30) rfl))) (Or.inl (hw _ (List.mem_of_getElem? (i := 23) rfl))) (by decide) (by decide) (by decide)))
  have F45 := F11.same W37
  have F46 := A12.other W37 nq25.symm
  have F47 := E15.wr W37
  have F48 := A13.other W37 nq26.symm
  have F49 := E16.wr W37
  have F50 := A14.other W37 nq27.symm
  have F51 := E17.wr W37
  refine OGoal.mp (S' := (T32.setTop (mkF m 10 #[.val (.ref a), .val (.int n1)] []))) (fun _ k => st35 _ k) ?_
  refine oRetV X33 hx hlk hret (hb hby own_d_prog_7_method_10_code_10) ?_ (by decide) (by decide)
  rw [e34]; exact ⟨rfl, N38, ⟨k1, v2, q3, fv4, fp5, F40, F41, F42, F43, F44, F45, F46, F48, F50, F47, F49, F51, nn18, nn19, nn20, b21, b22, b23, b24⟩⟩
theorem own_d_prog_7_method_8_code_0 : decode prog_7_method_8_code 0 = .ok (.aload_n 0, 1) := by decide +kernel
theorem own_d_prog_7_method_8_code_1 : decode prog_7_method_8_code 1 = .ok (.getfield 24, 3) := by decide +kernel
theorem own_d_prog_7_method_8_code_4 : decode prog_7_method_8_code 4 = .ok (.aload_n 0, 1) := by decide +kernel
theorem own_d_prog_7_method_8_code_5 : decode prog_7_method_8_code 5 = .ok (.getfield 9, 3) := by decide +kernel
theorem own_d_prog_7_method_8_code_8 : decode prog_7_method_8_code 8 = .ok (.arraylength, 1) := by decide +kernel
theorem own_d_prog_7_method_8_code_9 : decode prog_7_method_8_code 9 = .ok (.if_icmp .ne 7, 3) := by decide +kernel
theorem own_d_prog_7_method_8_code_16 : decode prog_7_method_8_code 16 = .ok (.aload_n 0, 1) := by decide +kernel
theorem own_d_prog_7_method_8_code_17 : decode prog_7_method_8_code 17 = .ok (.getfield 9, 3) := by decide +kernel
theorem own_d_prog_7_method_8_code_20 : decode prog_7_method_8_code 20 = .ok (.aload_n 0, 1) := by decide +kernel
theorem own_d_prog_7_method_8_code_21 : decode prog_7_method_8_code 21 = .ok (.getfield 24, 3) := by decide +kernel
theorem own_d_prog_7_method_8_code_24 : decode prog_7_method_8_code 24 = .ok (.dload_n 1, 1) := by decide +kernel
theorem own_d_prog_7_method_8_code_25 : decode prog_7_method_8_code 25 = .ok (.dastore, 1) := by decide +kernel
theorem own_d_prog_7_method_8_code_26 : decode prog_7_method_8_code 26 = .ok (.aload_n 0, 1) := by decide +kernel
theorem own_d_prog_7_method_8_code_27 : decode prog_7_method_8_code 27 = .ok (.getfield 13, 3) := by decide +kernel
theorem own_d_prog_7_method_8_code_30 : decode prog_7_method_8_code 30 = .ok (.aload_n 0, 1) := by decide +kernel
theorem own_d_prog_7_method_8_code_31 : decode prog_7_method_8_code 31 = .ok (.getfield 24, 3) := by decide +kernel
theorem own_d_prog_7_method_8_code_34 : decode prog_7_method_8_code 34 = .ok (.dload_n 3, 1) := by decide +kernel
theorem own_d_prog_7_method_8_code_35 : decode prog_7_method_8_code 35 = .ok (.dastore, 1) := by decide +kernel
theorem own_d_prog_7_method_8_code_36 : decode prog_7_method_8_code 36 = .ok (.aload_n 0, 1) := by decide +kernel
theorem own_d_prog_7_method_8_code_37 : decode prog_7_method_8_code 37 = .ok (.getfield 16, 3) := by decide +kernel
theorem own_d_prog_7_method_8_code_40 : decode prog_7_method_8_code 40 = .ok (.aload_n 0, 1) := by decide +kernel
theorem own_d_prog_7_method_8_code_41 : decode prog_7_method_8_code 41 = .ok (.getfield 24, 3) := by decide +kernel
theorem own_d_prog_7_method_8_code_44 : decode prog_7_method_8_code 44 = .ok (.iload 5, 2) := by decide +kernel
theorem own_d_prog_7_method_8_code_46 : decode prog_7_method_8_code 46 = .ok (.iastore, 1) := by decide +kernel
theorem own_d_prog_7_method_8_code_47 : decode prog_7_method_8_code 47 = .ok (.aload_n 0, 1) := by decide +kernel
theorem own_d_prog_7_method_8_code_48 : decode prog_7_method_8_code 48 = .ok (.dup, 1) := by decide +kernel
theorem own_d_prog_7_method_8_code_49 : decode prog_7_method_8_code 49 = .ok (.getfield 24, 3) := by decide +kernel
theorem own_d_prog_7_method_8_code_52 : decode prog_7_method_8_code 52 = .ok (.iconst 1, 1) := by decide +kernel
theorem own_d_prog_7_method_8_code_53 : decode prog_7_method_8_code 53 = .ok (.iadd, 1) := by decide +kernel
theorem own_d_prog_7_method_8_code_54 : decode prog_7_method_8_code 54 = .ok (.putfield 24, 3) := by decide +kernel
theorem own_d_prog_7_method_8_code_57 : decode prog_7_method_8_code 57 = .ok (.return_, 1) := by decide +kernel
theorem own_ef_rmAdd (x0 : Addr) (x1 : UInt64) (x2 : UInt64) (x3 : Int32) (m : MethodId) : entryFrame m #[(.ref x0), (.double x1), (.double x2), (.int x3)] 6 = mkF m 0 #[.val (.ref x0), .val (.double x1), .second, .val (.double x2), .second, .val (.int x3)] [] := by first | (simp [entryFrame, mkF, argsToLocals, Value.category]; done) | rfl
set_option maxRecDepth 65536 in
set_option maxHeartbeats 40000000 in
theorem rmAdd (l : Launch) (Z : State) (a0 : Array Value) (hw : ∀ d ∈ tables_1, d.before a0 Z = true) (a : Addr) (x1 x2 : UInt64) (z1 : Int32) (h0 : Heap) (n0 : Nat) (Z0 : n0 ≤ h0.size) (fi en : Int32) (fk : Nat → UInt64) (hD : Dq Z h0 a fi en fk n0) (en2 : Int32) (jn : Nat) (h1e : en + (1 : Int32) = en2) (h2e : en.toNatClampNeg = jn) (h3e : 0 ≤ en.toInt) (h4e : en.toInt < 4) :
    OCon l Z (⟨"com/example/stepwise_medians/stepwisemedians/engine/EntryDeque", "addLast", "(DDI)V"⟩ : MethodName) prog_7_method_8_code 6 none ({ frames := 0, cells := 0, slots := 0, locals := 0 } : Room) #[(.ref a), (.double x1), (.double x2), (.int z1)] h0 (fun v h L => v = none ∧ Fr n0 L ∧ Dq Z h a fi en2 (fun i => if i = jn then x1 else fk i) n0) := by
  refine OConK.intro (y := (⟨"com/example/stepwise_medians/stepwisemedians/engine/EntryDeque", "addLast", "(DDI)V"⟩ : MethodName)) (plainFor_of_name own_pn_com_example_stepwise_medians_stepwisemedians_engine_EntryDeque) (own_ef_rmAdd a x1 x2 z1) ?_
  intro p e s m below meth c s₁ hx hby hml hown hnm hret hlk hZ X0 e0
  obtain ⟨k1, v2, q3, fv4, fp5, E6, F7, F8, F9, F10, F11, A12, A13, A14, E15, E16, E17, nn18, nn19, nn20, b21, b22, b23, b24⟩ := hD
  have nq25 := oNeA E6 (hw _ (List.mem_of_getElem? (i := 1) rfl)) A12
  have nq26 := oNeA E6 (hw _ (List.mem_of_getElem? (i := 1) rfl)) A13
  have nq27 := oNeA E6 (hw _ (List.mem_of_getElem? (i := 1) rfl)) A14
  show OGoal p e below s _ _ _ (s₁.setTop (mkF m 0 #[.val (.ref a), .val (.double x1), .second, .val (.double x2), .second, .val (.int z1)] []))
  refine OGoal.mp (S' := (s₁.setTop (mkF m 1 #[.val (.ref a), .val (.double x1), .second, .val (.double x2), .second, .val (.int z1)] [(.ref a)]))) (fun _ k => XS.aloadN X0.here hx rfl (hb hby own_d_prog_7_method_8_code_0) rfl rfl k) ?_
  obtain ⟨T28, X29, e30, st31⟩ := getF X0 hx hZ hown (host := "") (Or.inl (hw _ (List.mem_of_getElem? (i := 22) rfl))) Via.refl e0 F11 (g := mkF m 1 #[.val (.ref a), .val (.double x1), .second, .val (.double x2), .second, .val (.int z1)] [(.ref a)]) rfl rfl (hb hby own_d_prog_7_method_8_code_1)
  refine OGoal.mp (S' := (T28.setTop (mkF m 4 #[.val (.ref a), .val (.double x1), .second, .val (.double x2), .second, .val (.int z1)] [(.int en)]))) (fun _ k => st31 _ k) ?_
  refine OGoal.mp (S' := (T28.setTop (mkF m 5 #[.val (.ref a), .val (.double x1), .second, .val (.double x2), .second, .val (.int z1)] [(.ref a), (.int en)]))) (fun _ k => XS.aloadN X29.here hx rfl (hb hby own_d_prog_7_method_8_code_4) rfl rfl k) ?_
  obtain ⟨T32, X33, e34, st35⟩ := getF X29 hx hZ hown (host := "") (Or.inl (hw _ (List.mem_of_getElem? (i := 10) rfl))) Via.refl e30 F7 (g := mkF m 5 #[.val (.ref a), .val (.double x1), .second, .val (.double x2), .second, .val (.int z1)] [(.ref a), (.int en)]) rfl rfl (hb hby own_d_prog_7_method_8_code_5)
  refine OGoal.mp (S' := (T32.setTop (mkF m 8 #[.val (.ref a), .val (.double x1), .second, .val (.double x2), .second, .val (.int z1)] [(.ref k1), (.int en)]))) (fun _ k => st35 _ k) ?_
  refine OGoal.mp (S' := (T32.setTop (mkF m 9 #[.val (.ref a), .val (.double x1), .second, .val (.double x2), .second, .val (.int z1)] [(.int (8 : Int32)), (.int en)]))) (fun _ k => oLen X33 hx hZ e34 A12 (g := mkF m 8 #[.val (.ref a), .val (.double x1), .second, .val (.double x2), .second, .val (.int z1)] [(.ref k1), (.int en)]) rfl rfl (hb hby own_d_prog_7_method_8_code_8) k) ?_
  refine OGoal.mp (S' := (T32.setTop (mkF m 16 #[.val (.ref a), .val (.double x1), .second, .val (.double x2), .second, .val (.int z1)] []))) (fun _ k => XS.icmpYes X33.here hx rfl (pc0 := 9) (pc' := 16) rfl (hb hby own_d_prog_7_method_8_code_9) rfl (XT.ii_ne_t (mNe (by rw [own_8]; omega))) (by decide) (by decide) k) ?_
  refine OGoal.mp (S' := (T32.setTop (mkF m 17 #[.val (.ref a), .val (.double x1), .second, .val (.double x2), .second, .val (.int z1)] [(.ref a)]))) (fun _ k => XS.aloadN X33.here hx rfl (hb hby own_d_prog_7_method_8_code_16) rfl rfl k) ?_
  obtain ⟨T36, X37, e38, st39⟩ := getF X33 hx hZ hown (host := "") (Or.inl (hw _ (List.mem_of_getElem? (i := 10) rfl))) Via.refl e34 F7 (g := mkF m 17 #[.val (.ref a), .val (.double x1), .second, .val (.double x2), .second, .val (.int z1)] [(.ref a)]) rfl rfl (hb hby own_d_prog_7_method_8_code_17)
  refine OGoal.mp (S' := (T36.setTop (mkF m 20 #[.val (.ref a), .val (.double x1), .second, .val (.double x2), .second, .val (.int z1)] [(.ref k1)]))) (fun _ k => st39 _ k) ?_
  refine OGoal.mp (S' := (T36.setTop (mkF m 21 #[.val (.ref a), .val (.double x1), .second, .val (.double x2), .second, .val (.int z1)] [(.ref a), (.ref k1)]))) (fun _ k => XS.aloadN X37.here hx rfl (hb hby own_d_prog_7_method_8_code_20) rfl rfl k) ?_
  obtain ⟨T40, X41, e42, st43⟩ := getF X37 hx hZ hown (host := "") (Or.inl (hw _ (List.mem_of_getElem? (i := 22) rfl))) Via.refl e38 F11 (g := mkF m 21 #[.val (.ref a), .val (.double x1), .second, .val (.double x2), .second, .val (.int z1)] [(.ref a), (.ref k1)]) rfl rfl (hb hby own_d_prog_7_method_8_code_21)
  refine OGoal.mp (S' := (T40.setTop (mkF m 24 #[.val (.ref a), .val (.double x1), .second, .val (.double x2), .second, .val (.int z1)] [(.int en), (.ref k1)]))) (fun _ k => st43 _ k) ?_
  refine OGoal.mp (S' := (T40.setTop (mkF m 25 #[.val (.ref a), .val (.double x1), .second, .val (.double x2), .second, .val (.int z1)] [(.double x1), (.int en), (.ref k1)]))) (fun _ k => XS.dloadN X41.here hx rfl (hb hby own_d_prog_7_method_8_code_24) rfl k) ?_
  obtain ⟨T44, h48, X45, e46, W49, st47⟩ := oStD X41 hx hZ e42 A12 h3e (Int.lt_of_lt_of_le h4e (by decide)) (g := mkF m 25 #[.val (.ref a), .val (.double x1), .second, .val (.double x2), .second, .val (.int z1)] [(.double x1), (.int en), (.ref k1)]) rfl rfl (hb hby own_d_prog_7_method_8_code_25)
  have N50 := Fr.snoc X45 (Fr.nil n0) b22
  have F51 := E6.wr W49
  have F52 := F7.other W49 (Or.inl nq25)
  have F53 := F8.other W49 (Or.inl nq25)
  have F54 := F9.other W49 (Or.inl nq25)
  have F55 := F10.other W49 (Or.inl nq25)
  have F56 := F11.other W49 (Or.inl nq25)
  have F57 : OArr Z h48 k1 .double (8 : Int32) (fun i => if i = (en).toNatClampNeg then (.double x1) else (fun i => .double (fk i)) i : Nat → Value) := A12.set W49
  have F58 := E15.wr W49
  have F59 := A13.other W49 nn18.symm
  have F60 := E16.wr W49
  have F61 := A14.other W49 nn19.symm
  have F62 := E17.wr W49
  have Z63 : n0 ≤ h48.size := Nat.le_trans Z0 (Keep.of_wr W49).1
  refine OGoal.mp (S' := (T44.setTop (mkF m 26 #[.val (.ref a), .val (.double x1), .second, .val (.double x2), .second, .val (.int z1)] []))) (fun _ k => st47 _ k) ?_
  refine OGoal.mp (S' := (T44.setTop (mkF m 27 #[.val (.ref a), .val (.double x1), .second, .val (.double x2), .second, .val (.int z1)] [(.ref a)]))) (fun _ k => XS.aloadN X45.here hx rfl (hb hby own_d_prog_7_method_8_code_26) rfl rfl k) ?_
  obtain ⟨T64, X65, e66, st67⟩ := getF X45 hx hZ hown (host := "") (Or.inl (hw _ (List.mem_of_getElem? (i := 12) rfl))) Via.refl e46 F53 (g := mkF m 27 #[.val (.ref a), .val (.double x1), .second, .val (.double x2), .second, .val (.int z1)] [(.ref a)]) rfl rfl (hb hby own_d_prog_7_method_8_code_27)
  refine OGoal.mp (S' := (T64.setTop (mkF m 30 #[.val (.ref a), .val (.double x1), .second, .val (.double x2), .second, .val (.int z1)] [(.ref v2)]))) (fun _ k => st67 _ k) ?_
  refine OGoal.mp (S' := (T64.setTop (mkF m 31 #[.val (.ref a), .val (.double x1), .second, .val (.double x2), .second, .val (.int z1)] [(.ref a), (.ref v2)]))) (fun _ k => XS.aloadN X65.here hx rfl (hb hby own_d_prog_7_method_8_code_30) rfl rfl k) ?_
  obtain ⟨T68, X69, e70, st71⟩ := getF X65 hx hZ hown (host := "") (Or.inl (hw _ (List.mem_of_getElem? (i := 22) rfl))) Via.refl e66 F56 (g := mkF m 31 #[.val (.ref a), .val (.double x1), .second, .val (.double x2), .second, .val (.int z1)] [(.ref a), (.ref v2)]) rfl rfl (hb hby own_d_prog_7_method_8_code_31)
  refine OGoal.mp (S' := (T68.setTop (mkF m 34 #[.val (.ref a), .val (.double x1), .second, .val (.double x2), .second, .val (.int z1)] [(.int en), (.ref v2)]))) (fun _ k => st71 _ k) ?_
  refine OGoal.mp (S' := (T68.setTop (mkF m 35 #[.val (.ref a), .val (.double x1), .second, .val (.double x2), .second, .val (.int z1)] [(.double x2), (.int en), (.ref v2)]))) (fun _ k => XS.dloadN X69.here hx rfl (hb hby own_d_prog_7_method_8_code_34) rfl k) ?_
  obtain ⟨T72, h76, X73, e74, W77, st75⟩ := oStD X69 hx hZ e70 F59 h3e (Int.lt_of_lt_of_le h4e (by decide)) (g := mkF m 35 #[.val (.ref a), .val (.double x1), .second, .val (.double x2), .second, .val (.int z1)] [(.double x2), (.int en), (.ref v2)]) rfl rfl (hb hby own_d_prog_7_method_8_code_35)
  have N78 := Fr.snoc X73 N50 b23
  have F79 := F51.wr W77
  have F80 := F52.other W77 (Or.inl nq26)
  have F81 := F53.other W77 (Or.inl nq26)
  have F82 := F54.other W77 (Or.inl nq26)
  have F83 := F55.other W77 (Or.inl nq26)
  have F84 := F56.other W77 (Or.inl nq26)
  have F85 := F57.other W77 nn18
  have F86 := F58.wr W77
  have F87 : OArr Z h76 v2 .double (8 : Int32) (fun i => if i = (en).toNatClampNeg then (.double x2) else (fun i => .double (fv4 i)) i : Nat → Value) := F59.set W77
  have F88 := F60.wr W77
  have F89 := F61.other W77 nn20.symm
  have F90 := F62.wr W77
  have Z91 : n0 ≤ h76.size := Nat.le_trans Z63 (Keep.of_wr W77).1
  refine OGoal.mp (S' := (T72.setTop (mkF m 36 #[.val (.ref a), .val (.double x1), .second, .val (.double x2), .second, .val (.int z1)] []))) (fun _ k => st75 _ k) ?_
  refine OGoal.mp (S' := (T72.setTop (mkF m 37 #[.val (.ref a), .val (.double x1), .second, .val (.double x2), .second, .val (.int z1)] [(.ref a)]))) (fun _ k => XS.aloadN X73.here hx rfl (hb hby own_d_prog_7_method_8_code_36) rfl rfl k) ?_
  obtain ⟨T92, X93, e94, st95⟩ := getF X73 hx hZ hown (host := "") (Or.inl (hw _ (List.mem_of_getElem? (i := 15) rfl))) Via.refl e74 F82 (g := mkF m 37 #[.val (.ref a), .val (.double x1), .second, .val (.double x2), .second, .val (.int z1)] [(.ref a)]) rfl rfl (hb hby own_d_prog_7_method_8_code_37)
  refine OGoal.mp (S' := (T92.setTop (mkF m 40 #[.val (.ref a), .val (.double x1), .second, .val (.double x2), .second, .val (.int z1)] [(.ref q3)]))) (fun _ k => st95 _ k) ?_
  refine OGoal.mp (S' := (T92.setTop (mkF m 41 #[.val (.ref a), .val (.double x1), .second, .val (.double x2), .second, .val (.int z1)] [(.ref a), (.ref q3)]))) (fun _ k => XS.aloadN X93.here hx rfl (hb hby own_d_prog_7_method_8_code_40) rfl rfl k) ?_
  obtain ⟨T96, X97, e98, st99⟩ := getF X93 hx hZ hown (host := "") (Or.inl (hw _ (List.mem_of_getElem? (i := 22) rfl))) Via.refl e94 F84 (g := mkF m 41 #[.val (.ref a), .val (.double x1), .second, .val (.double x2), .second, .val (.int z1)] [(.ref a), (.ref q3)]) rfl rfl (hb hby own_d_prog_7_method_8_code_41)
  refine OGoal.mp (S' := (T96.setTop (mkF m 44 #[.val (.ref a), .val (.double x1), .second, .val (.double x2), .second, .val (.int z1)] [(.int en), (.ref q3)]))) (fun _ k => st99 _ k) ?_
  refine OGoal.mp (S' := (T96.setTop (mkF m 46 #[.val (.ref a), .val (.double x1), .second, .val (.double x2), .second, .val (.int z1)] [(.int z1), (.int en), (.ref q3)]))) (fun _ k => XS.iload X97.here hx rfl (hb hby own_d_prog_7_method_8_code_44) rfl k) ?_
  obtain ⟨T100, h104, X101, e102, W105, st103⟩ := oStI X97 hx hZ e98 F89 h3e (Int.lt_of_lt_of_le h4e (by decide)) (g := mkF m 46 #[.val (.ref a), .val (.double x1), .second, .val (.double x2), .second, .val (.int z1)] [(.int z1), (.int en), (.ref q3)]) rfl rfl (hb hby own_d_prog_7_method_8_code_46)
  have N106 := Fr.snoc X101 N78 b24
  have F107 := F79.wr W105
  have F108 := F80.other W105 (Or.inl nq27)
  have F109 := F81.other W105 (Or.inl nq27)
  have F110 := F82.other W105 (Or.inl nq27)
  have F111 := F83.other W105 (Or.inl nq27)
  have F112 := F84.other W105 (Or.inl nq27)
  have F113 := F85.other W105 nn19
  have F114 := F86.wr W105
  have F115 := F87.other W105 nn20
  have F116 := F88.wr W105
  have F117 : OArr Z h104 q3 .int (8 : Int32) (fun i => if i = (en).toNatClampNeg then (.int z1) else (fun i => .int (fp5 i)) i : Nat → Value) := F89.set W105
  have F118 := F90.wr W105
  have Z119 : n0 ≤ h104.size := Nat.le_trans Z91 (Keep.of_wr W105).1
  refine OGoal.mp (S' := (T100.setTop (mkF m 47 #[.val (.ref a), .val (.double x1), .second, .val (.double x2), .second, .val (.int z1)] []))) (fun _ k => st103 _ k) ?_
  refine OGoal.mp (S' := (T100.setTop (mkF m 48 #[.val (.ref a), .val (.double x1), .second, .val (.double x2), .second, .val (.int z1)] [(.ref a)]))) (fun _ k => XS.aloadN X101.here hx rfl (hb hby own_d_prog_7_method_8_code_47) rfl rfl k) ?_
  refine OGoal.mp (S' := (T100.setTop (mkF m 49 #[.val (.ref a), .val (.double x1), .second, .val (.double x2), .second, .val (.int z1)] [(.ref a), (.ref a)]))) (fun _ k => XS.dup X101.here hx rfl (hb hby own_d_prog_7_method_8_code_48) rfl rfl k) ?_
  obtain ⟨T120, X121, e122, st123⟩ := getF X101 hx hZ hown (host := "") (Or.inl (hw _ (List.mem_of_getElem? (i := 22) rfl))) Via.refl e102 F112 (g := mkF m 49 #[.val (.ref a), .val (.double x1), .second, .val (.double x2), .second, .val (.int z1)] [(.ref a), (.ref a)]) rfl rfl (hb hby own_d_prog_7_method_8_code_49)
  refine OGoal.mp (S' := (T120.setTop (mkF m 52 #[.val (.ref a), .val (.double x1), .second, .val (.double x2), .second, .val (.int z1)] [(.int en), (.ref a)]))) (fun _ k => st123 _ k) ?_
  refine OGoal.mp (S' := (T120.setTop (mkF m 53 #[.val (.ref a), .val (.double x1), .second, .val (.double x2), .second, .val (.int z1)] [(.int (1 : Int32)), (.int en), (.ref a)]))) (fun _ k => XS.iconst X121.here hx rfl (hb hby own_d_prog_7_method_8_code_52) k) ?_
  refine OGoal.mp (S' := (T120.setTop (mkF m 54 #[.val (.ref a), .val (.double x1), .second, .val (.double x2), .second, .val (.int z1)] [(.int (en + (1 : Int32))), (.ref a)]))) (fun _ k => XS.iadd X121.here hx rfl (hb hby own_d_prog_7_method_8_code_53) rfl k) ?_
  rw [h1e]
  show OGoal p e below s _ _ _ (T120.setTop (mkF m 54 #[.val (.ref a), .val (.double x1), .second, .val (.double x2), .second, .val (.int z1)] [(.int en2), (.ref a)]))
  obtain ⟨T124, h128, X125, e126, W129, st127⟩ := putF X121 hx hZ hown (host := "") (Or.inl (hw _ (List.mem_of_getElem? (i := 22) rfl))) Via.refl e122 F112 F107 (Or.inl (hw _ (List.mem_of_getElem? (i := 23) rfl))) (hw _ (List.mem_of_getElem? (i := 1) rfl)) (ty := .int) (by decide) rfl rfl (g := mkF m 54 #[.val (.ref a), .val (.double x1), .second, .val (.double x2), .second, .val (.int z1)] [(.int en2), (.ref a)]) rfl rfl (hb hby own_d_prog_7_method_8_code_54)
  have N130 := Fr.snoc X125 N106 b21
  have Z131 : n0 ≤ h128.size := Nat.le_trans Z119 (Keep.of_wr W129).1
  have F132 := F107.wr W129
  have F133 := F108.other W129 (Or.inr (slot_ne (a0 := a0) (C := "com/example/stepwise_medians/stepwisemedians/engine/EntryDeque") (t := (.array .double)) (t' := .int) (Or.inl (hw _ (List.mem_of_getElem? (i := 11) rfl))) (Or.inl (hw _ (List.mem_of_getElem? (i := 23) rfl))) (by decide) (by decide) (by decide)))
  have F134 := F109.other W129 (Or.inr (slot_ne (a0 := a0) (C := "com/example/stepwise_medians/stepwisemedians/engine/EntryDeque") (t := (.array .double)) (t' := .int) (Or.inl (hw _ (List.mem_of_getElem? (i := 13) rfl))) (Or.inl (hw _ (List.mem_of_getElem? (i := 23) rfl))) (by decide) (by decide) (by decide)))
  have F135 := F110.other W129 (Or.inr (slot_ne (a0 := a0) (C := "com/example/stepwise_medians/stepwisemedians/engine/EntryDeque") (t := (.array .int)) (t' := .int) (Or.inl (hw _ (List.mem_of_getElem? (i := 16) rfl))) (Or.inl (hw _ (List.mem_of_getElem? (i := 23) rfl))) (by decide) (by decide) (by decide)))
  have F136 := F111.other W129 (Or.inr (slot_ne (a0 := a0) (C := "com/example/stepwise_medians/stepwisemedians/engine/EntryDeque") (t := .int) (t' := .int) (Or.inl (hw _ (List.mem_of_getElem? (i := 30) rfl))) (Or.inl (hw _ (List.mem_of_getElem? (i := 23) rfl))) (by decide) (by decide) (by decide)))
  have F137 := F112.same W129
  have F138 := F113.other W129 nq25.symm
  have F139 := F114.wr W129
  have F140 := F115.other W129 nq26.symm
  have F141 := F116.wr W129
  have F142 := F117.other W129 nq27.symm
  have F143 := F118.wr W129
  refine OGoal.mp (S' := (T124.setTop (mkF m 57 #[.val (.ref a), .val (.double x1), .second, .val (.double x2), .second, .val (.int z1)] []))) (fun _ k => st127 _ k) ?_
  refine oRetV X125 hx hlk hret (hb hby own_d_prog_7_method_8_code_57) ?_ (by decide) (by decide)
  rw [e126]; exact ⟨rfl, N130, ⟨k1, v2, q3, (fun i => if i = en.toNatClampNeg then x2 else fv4 i), (fun i => if i = en.toNatClampNeg then z1 else fp5 i), F132, F133, F134, F135, F136, F137, (F138.imp (fun i _ => by (try dsimp only); rw [h2e]; split <;> rfl)), (F140.imp (fun i _ => by (try dsimp only); split <;> rfl)), (F142.imp (fun i _ => by (try dsimp only); split <;> rfl)), F139, F141, F143, nn18, nn19, nn20, b21, b22, b23, b24⟩⟩
theorem own_d_prog_7_method_1_code_0 : decode prog_7_method_1_code 0 = .ok (.aload_n 0, 1) := by decide +kernel
theorem own_d_prog_7_method_1_code_1 : decode prog_7_method_1_code 1 = .ok (.invokespecial 1, 3) := by decide +kernel
theorem own_d_prog_7_method_1_code_4 : decode prog_7_method_1_code 4 = .ok (.aload_n 0, 1) := by decide +kernel
theorem own_d_prog_7_method_1_code_5 : decode prog_7_method_1_code 5 = .ok (.bipush 8, 2) := by decide +kernel
theorem own_d_prog_7_method_1_code_7 : decode prog_7_method_1_code 7 = .ok (.newarray .double, 2) := by decide +kernel
theorem own_d_prog_7_method_1_code_9 : decode prog_7_method_1_code 9 = .ok (.putfield 9, 3) := by decide +kernel
theorem own_d_prog_7_method_1_code_12 : decode prog_7_method_1_code 12 = .ok (.aload_n 0, 1) := by decide +kernel
theorem own_d_prog_7_method_1_code_13 : decode prog_7_method_1_code 13 = .ok (.bipush 8, 2) := by decide +kernel
theorem own_d_prog_7_method_1_code_15 : decode prog_7_method_1_code 15 = .ok (.newarray .double, 2) := by decide +kernel
theorem own_d_prog_7_method_1_code_17 : decode prog_7_method_1_code 17 = .ok (.putfield 13, 3) := by decide +kernel
theorem own_d_prog_7_method_1_code_20 : decode prog_7_method_1_code 20 = .ok (.aload_n 0, 1) := by decide +kernel
theorem own_d_prog_7_method_1_code_21 : decode prog_7_method_1_code 21 = .ok (.bipush 8, 2) := by decide +kernel
theorem own_d_prog_7_method_1_code_23 : decode prog_7_method_1_code 23 = .ok (.newarray .int, 2) := by decide +kernel
theorem own_d_prog_7_method_1_code_25 : decode prog_7_method_1_code 25 = .ok (.putfield 16, 3) := by decide +kernel
theorem own_d_prog_7_method_1_code_28 : decode prog_7_method_1_code 28 = .ok (.return_, 1) := by decide +kernel
theorem own_ef_rmI (x0 : Addr) (m : MethodId) : entryFrame m #[(.ref x0)] 1 = mkF m 0 #[.val (.ref x0)] [] := by first | (simp [entryFrame, mkF, argsToLocals, Value.category]; done) | rfl
set_option maxRecDepth 65536 in
set_option maxHeartbeats 40000000 in
theorem rmI (l : Launch) (Z : State) (a0 : Array Value) (hw : ∀ d ∈ tables_1, d.before a0 Z = true) (a : Addr) (h0 : Heap) (n0 : Nat) (Z0 : n0 ≤ h0.size) (E : Exa Z h0 a "com/example/stepwise_medians/stepwisemedians/engine/EntryDeque") (F_keys : Fld Z h0 a "com/example/stepwise_medians/stepwisemedians/engine/EntryDeque" "keys" "[D" .null) (F_values : Fld Z h0 a "com/example/stepwise_medians/stepwisemedians/engine/EntryDeque" "values" "[D" .null) (F_payloads : Fld Z h0 a "com/example/stepwise_medians/stepwisemedians/engine/EntryDeque" "payloads" "[I" .null) (F_first : Fld Z h0 a "com/example/stepwise_medians/stepwisemedians/engine/EntryDeque" "first" "I" (.int (0 : Int32))) (F_end : Fld Z h0 a "com/example/stepwise_medians/stepwisemedians/engine/EntryDeque" "end" "I" (.int (0 : Int32))) (ab : n0 ≤ a) :
    OCon l Z (⟨"com/example/stepwise_medians/stepwisemedians/engine/EntryDeque", "<init>", "()V"⟩ : MethodName) prog_7_method_1_code 1 none ({ frames := 1, cells := 3, slots := 24, locals := 12 } : Room) #[(.ref a)] h0 (fun v h L => v = none ∧ Fr n0 L ∧ Dq Z h a 0 0 (fun _ => 0) n0) := by
  refine OConK.intro (y := (⟨"com/example/stepwise_medians/stepwisemedians/engine/EntryDeque", "<init>", "()V"⟩ : MethodName)) (plainFor_of_name own_pn_com_example_stepwise_medians_stepwisemedians_engine_EntryDeque) (own_ef_rmI a) ?_
  intro p e s m below meth c s₁ hx hby hml hown hnm hret hlk hZ X0 e0
  show OGoal p e below s _ _ _ (s₁.setTop (mkF m 0 #[.val (.ref a)] []))
  refine OGoal.mp (S' := (s₁.setTop (mkF m 1 #[.val (.ref a)] [(.ref a)]))) (fun _ k => XS.aloadN X0.here hx rfl (hb hby own_d_prog_7_method_1_code_0) rfl rfl k) ?_
  obtain ⟨T1, X2, e3, st4⟩ := initO X0 hx hZ hown (hw _ (List.mem_of_getElem? (i := 6) rfl)) (hw _ (List.mem_of_getElem? (i := 7) rfl)) (hw _ (List.mem_of_getElem? (i := 8) rfl)) e0 (g := mkF m 1 #[.val (.ref a)] [(.ref a)]) rfl (by rw [hml]; rfl) rfl (hb hby own_d_prog_7_method_1_code_1) (by decide) (W := 0) (by show 2 * 0 + _ ≤ _; exact Nat.le_of_eq rfl) (by decide)
  refine OGoal.mp (S' := (T1.setTop (mkF m 4 #[.val (.ref a)] []))) (fun _ k => st4 _ k) ?_
  refine OGoal.mp (S' := (T1.setTop (mkF m 5 #[.val (.ref a)] [(.ref a)]))) (fun _ k => XS.aloadN X2.here hx rfl (hb hby own_d_prog_7_method_1_code_4) rfl rfl k) ?_
  refine OGoal.mp (S' := (T1.setTop (mkF m 7 #[.val (.ref a)] [(.int (8 : Int32)), (.ref a)]))) (fun _ k => XS.bipush X2.here hx rfl (hb hby own_d_prog_7_method_1_code_5) k) ?_
  obtain ⟨T5, h9, c12, X6, e7, E10, A11, XA15, st8⟩ := newPE X2 hx hZ (hw _ (List.mem_of_getElem? (i := 9) rfl)) e3 (g := mkF m 7 #[.val (.ref a)] [(.int (8 : Int32)), (.ref a)]) rfl (hb hby own_d_prog_7_method_1_code_7) rfl (by decide) (cap := 8) (by decide) (by decide) (by decide) (by decide) (ad := "[D") (by rfl)
  obtain ⟨a13, g14⟩ : ∃ z, z = h0.size := ⟨_, rfl⟩
  rw [← g14] at A11 XA15 st8
  have lt16 : a < a13 := by rw [g14]; exact E.lt
  have F17 := E.ext E10
  have F18 := F_keys.ext E10
  have F19 := F_values.ext E10
  have F20 := F_payloads.ext E10
  have F21 := F_first.ext E10
  have F22 := F_end.ext E10
  have F23 : OArr Z h9 a13 .double (8 : Int32) (fun _ => .double 0 : Nat → Value) := OArr.new A11 (by decide)
  have Z24 : n0 ≤ h9.size := Nat.le_trans Z0 E10.1
  have ab25 : n0 ≤ a13 := Nat.le_trans Z0 (Nat.le_of_eq g14.symm)
  refine OGoal.mp (S' := (T5.setTop (mkF m 9 #[.val (.ref a)] [(.ref a13), (.ref a)]))) (fun _ k => st8 _ k) ?_
  obtain ⟨T26, h30, X27, e28, W31, st29⟩ := putF X6 hx hZ hown (host := "") (Or.inl (hw _ (List.mem_of_getElem? (i := 10) rfl))) Via.refl e7 F18 F17 (Or.inl (hw _ (List.mem_of_getElem? (i := 11) rfl))) (hw _ (List.mem_of_getElem? (i := 1) rfl)) (ty := (.array .double)) (by decide) rfl rfl (g := mkF m 9 #[.val (.ref a)] [(.ref a13), (.ref a)]) rfl rfl (hb hby own_d_prog_7_method_1_code_9)
  have N32 := Fr.snoc X27 (Fr.nil n0) ab
  have Z33 : n0 ≤ h30.size := Nat.le_trans Z24 (Keep.of_wr W31).1
  have F34 := F17.wr W31
  have F35 := F18.same W31
  have F36 := F19.other W31 (Or.inr (slot_ne (a0 := a0) (C := "com/example/stepwise_medians/stepwisemedians/engine/EntryDeque") (t := (.array .double)) (t' := (.array .double)) (Or.inl (hw _ (List.mem_of_getElem? (i := 13) rfl))) (Or.inl (hw _ (List.mem_of_getElem? (i := 11) rfl))) (by decide) (by decide) (by decide)))
  have F37 := F20.other W31 (Or.inr (slot_ne (a0 := a0) (C := "com/example/stepwise_medians/stepwisemedians/engine/EntryDeque") (t := (.array .int)) (t' := (.array .double)) (Or.inl (hw _ (List.mem_of_getElem? (i := 16) rfl))) (Or.inl (hw _ (List.mem_of_getElem? (i := 11) rfl))) (by decide) (by decide) (by decide)))
  have F38 := F21.other W31 (Or.inr (slot_ne (a0 := a0) (C := "com/example/stepwise_medians/stepwisemedians/engine/EntryDeque") (t := .int) (t' := (.array .double)) (Or.inl (hw _ (List.mem_of_getElem? (i := 30) rfl))) (Or.inl (hw _ (List.mem_of_getElem? (i := 11) rfl))) (by decide) (by decide) (by decide)))
  have F39 := F22.other W31 (Or.inr (slot_ne (a0 := a0) (C := "com/example/stepwise_medians/stepwisemedians/engine/EntryDeque") (t := .int) (t' := (.array .double)) (Or.inl (hw _ (List.mem_of_getElem? (i := 23) rfl))) (Or.inl (hw _ (List.mem_of_getElem? (i := 11) rfl))) (by decide) (by decide) (by decide)))
  have F40 := F23.other W31 (Nat.ne_of_gt lt16)
  have F41 := XA15.wr W31
  refine OGoal.mp (S' := (T26.setTop (mkF m 12 #[.val (.ref a)] []))) (fun _ k => st29 _ k) ?_
  refine OGoal.mp (S' := (T26.setTop (mkF m 13 #[.val (.ref a)] [(.ref a)]))) (fun _ k => XS.aloadN X27.here hx rfl (hb hby own_d_prog_7_method_1_code_12) rfl rfl k) ?_
  refine OGoal.mp (S' := (T26.setTop (mkF m 15 #[.val (.ref a)] [(.int (8 : Int32)), (.ref a)]))) (fun _ k => XS.bipush X27.here hx rfl (hb hby own_d_prog_7_method_1_code_13) k) ?_
  obtain ⟨T42, h46, c49, X43, e44, E47, A48, XA52, st45⟩ := newPE X27 hx hZ (hw _ (List.mem_of_getElem? (i := 9) rfl)) e28 (g := mkF m 15 #[.val (.ref a)] [(.int (8 : Int32)), (.ref a)]) rfl (hb hby own_d_prog_7_method_1_code_15) rfl (by decide) (cap := 8) (by decide) (by decide) (by decide) (by decide) (ad := "[D") (by rfl)
  obtain ⟨a50, g51⟩ : ∃ z, z = h30.size := ⟨_, rfl⟩
  rw [← g51] at A48 XA52 st45
  have lt53 : a < a50 := by rw [g51]; exact F34.lt
  have lt54 : a13 < a50 := by rw [g51]; exact F40.lt
  have F55 := F34.ext E47
  have F56 := F35.ext E47
  have F57 := F36.ext E47
  have F58 := F37.ext E47
  have F59 := F38.ext E47
  have F60 := F39.ext E47
  have F61 := F40.ext E47
  have F62 := F41.ext E47
  have F63 : OArr Z h46 a50 .double (8 : Int32) (fun _ => .double 0 : Nat → Value) := OArr.new A48 (by decide)
  have Z64 : n0 ≤ h46.size := Nat.le_trans Z33 E47.1
  have ab65 : n0 ≤ a50 := Nat.le_trans Z33 (Nat.le_of_eq g51.symm)
  refine OGoal.mp (S' := (T42.setTop (mkF m 17 #[.val (.ref a)] [(.ref a50), (.ref a)]))) (fun _ k => st45 _ k) ?_
  obtain ⟨T66, h70, X67, e68, W71, st69⟩ := putF X43 hx hZ hown (host := "") (Or.inl (hw _ (List.mem_of_getElem? (i := 12) rfl))) Via.refl e44 F57 F55 (Or.inl (hw _ (List.mem_of_getElem? (i := 13) rfl))) (hw _ (List.mem_of_getElem? (i := 1) rfl)) (ty := (.array .double)) (by decide) rfl rfl (g := mkF m 17 #[.val (.ref a)] [(.ref a50), (.ref a)]) rfl rfl (hb hby own_d_prog_7_method_1_code_17)
  have N72 := Fr.snoc X67 N32 ab
  have Z73 : n0 ≤ h70.size := Nat.le_trans Z64 (Keep.of_wr W71).1
  have F74 := F55.wr W71
  have F75 := F56.other W71 (Or.inr (slot_ne (a0 := a0) (C := "com/example/stepwise_medians/stepwisemedians/engine/EntryDeque") (t := (.array .double)) (t' := (.array .double)) (Or.inl (hw _ (List.mem_of_getElem? (i := 11) rfl))) (Or.inl (hw _ (List.mem_of_getElem? (i := 13) rfl))) (by decide) (by decide) (by decide)))
  have F76 := F57.same W71
  have F77 := F58.other W71 (Or.inr (slot_ne (a0 := a0) (C := "com/example/stepwise_medians/stepwisemedians/engine/EntryDeque") (t := (.array .int)) (t' := (.array .double)) (Or.inl (hw _ (List.mem_of_getElem? (i := 16) rfl))) (Or.inl (hw _ (List.mem_of_getElem? (i := 13) rfl))) (by decide) (by decide) (by decide)))
  have F78 := F59.other W71 (Or.inr (slot_ne (a0 := a0) (C := "com/example/stepwise_medians/stepwisemedians/engine/EntryDeque") (t := .int) (t' := (.array .double)) (Or.inl (hw _ (List.mem_of_getElem? (i := 30) rfl))) (Or.inl (hw _ (List.mem_of_getElem? (i := 13) rfl))) (by decide) (by decide) (by decide)))
  have F79 := F60.other W71 (Or.inr (slot_ne (a0 := a0) (C := "com/example/stepwise_medians/stepwisemedians/engine/EntryDeque") (t := .int) (t' := (.array .double)) (Or.inl (hw _ (List.mem_of_getElem? (i := 23) rfl))) (Or.inl (hw _ (List.mem_of_getElem? (i := 13) rfl))) (by decide) (by decide) (by decide)))
  have F80 := F61.other W71 (Nat.ne_of_gt lt16)
  have F81 := F62.wr W71
  have F82 := F63.other W71 (Nat.ne_of_gt lt53)
  have F83 := XA52.wr W71
  refine OGoal.mp (S' := (T66.setTop (mkF m 20 #[.val (.ref a)] []))) (fun _ k => st69 _ k) ?_
  refine OGoal.mp (S' := (T66.setTop (mkF m 21 #[.val (.ref a)] [(.ref a)]))) (fun _ k => XS.aloadN X67.here hx rfl (hb hby own_d_prog_7_method_1_code_20) rfl rfl k) ?_
  refine OGoal.mp (S' := (T66.setTop (mkF m 23 #[.val (.ref a)] [(.int (8 : Int32)), (.ref a)]))) (fun _ k => XS.bipush X67.here hx rfl (hb hby own_d_prog_7_method_1_code_21) k) ?_
  obtain ⟨T84, h88, c91, X85, e86, E89, A90, XA94, st87⟩ := newPE X67 hx hZ (hw _ (List.mem_of_getElem? (i := 14) rfl)) e68 (g := mkF m 23 #[.val (.ref a)] [(.int (8 : Int32)), (.ref a)]) rfl (hb hby own_d_prog_7_method_1_code_23) rfl (by decide) (cap := 8) (by decide) (by decide) (by decide) (by decide) (ad := "[I") (by rfl)
  obtain ⟨a92, g93⟩ : ∃ z, z = h70.size := ⟨_, rfl⟩
  rw [← g93] at A90 XA94 st87
  have lt95 : a < a92 := by rw [g93]; exact F74.lt
  have lt96 : a13 < a92 := by rw [g93]; exact F80.lt
  have lt97 : a50 < a92 := by rw [g93]; exact F82.lt
  have F98 := F74.ext E89
  have F99 := F75.ext E89
  have F100 := F76.ext E89
  have F101 := F77.ext E89
  have F102 := F78.ext E89
  have F103 := F79.ext E89
  have F104 := F80.ext E89
  have F105 := F81.ext E89
  have F106 := F82.ext E89
  have F107 := F83.ext E89
  have F108 : OArr Z h88 a92 .int (8 : Int32) (fun _ => .int 0 : Nat → Value) := OArr.new A90 (by decide)
  have Z109 : n0 ≤ h88.size := Nat.le_trans Z73 E89.1
  have ab110 : n0 ≤ a92 := Nat.le_trans Z73 (Nat.le_of_eq g93.symm)
  refine OGoal.mp (S' := (T84.setTop (mkF m 25 #[.val (.ref a)] [(.ref a92), (.ref a)]))) (fun _ k => st87 _ k) ?_
  obtain ⟨T111, h115, X112, e113, W116, st114⟩ := putF X85 hx hZ hown (host := "") (Or.inl (hw _ (List.mem_of_getElem? (i := 15) rfl))) Via.refl e86 F101 F98 (Or.inl (hw _ (List.mem_of_getElem? (i := 16) rfl))) (hw _ (List.mem_of_getElem? (i := 1) rfl)) (ty := (.array .int)) (by decide) rfl rfl (g := mkF m 25 #[.val (.ref a)] [(.ref a92), (.ref a)]) rfl rfl (hb hby own_d_prog_7_method_1_code_25)
  have N117 := Fr.snoc X112 N72 ab
  have Z118 : n0 ≤ h115.size := Nat.le_trans Z109 (Keep.of_wr W116).1
  have F119 := F98.wr W116
  have F120 := F99.other W116 (Or.inr (slot_ne (a0 := a0) (C := "com/example/stepwise_medians/stepwisemedians/engine/EntryDeque") (t := (.array .double)) (t' := (.array .int)) (Or.inl (hw _ (List.mem_of_getElem? (i := 11) rfl))) (Or.inl (hw _ (List.mem_of_getElem? (i := 16) rfl))) (by decide) (by decide) (by decide)))
  have F121 := F100.other W116 (Or.inr (slot_ne (a0 := a0) (C := "com/example/stepwise_medians/stepwisemedians/engine/EntryDeque") (t := (.array .double)) (t' := (.array .int)) (Or.inl (hw _ (List.mem_of_getElem? (i := 13) rfl))) (Or.inl (hw _ (List.mem_of_getElem? (i := 16) rfl))) (by decide) (by decide) (by decide)))
  have F122 := F101.same W116
  have F123 := F102.other W116 (Or.inr (slot_ne (a0 := a0) (C := "com/example/stepwise_medians/stepwisemedians/engine/EntryDeque") (t := .int) (t' := (.array .int)) (Or.inl (hw _ (List.mem_of_getElem? (i := 30) rfl))) (Or.inl (hw _ (List.mem_of_getElem? (i := 16) rfl))) (by decide) (by decide) (by decide)))
  have F124 := F103.other W116 (Or.inr (slot_ne (a0 := a0) (C := "com/example/stepwise_medians/stepwisemedians/engine/EntryDeque") (t := .int) (t' := (.array .int)) (Or.inl (hw _ (List.mem_of_getElem? (i := 23) rfl))) (Or.inl (hw _ (List.mem_of_getElem? (i := 16) rfl))) (by decide) (by decide) (by decide)))
  have F125 := F104.other W116 (Nat.ne_of_gt lt16)
  have F126 := F105.wr W116
  have F127 := F106.other W116 (Nat.ne_of_gt lt53)
  have F128 := F107.wr W116
  have F129 := F108.other W116 (Nat.ne_of_gt lt95)
  have F130 := XA94.wr W116
  refine OGoal.mp (S' := (T111.setTop (mkF m 28 #[.val (.ref a)] []))) (fun _ k => st114 _ k) ?_
  refine oRetV X112 hx hlk hret (hb hby own_d_prog_7_method_1_code_28) ?_ (by decide) (by decide)
  rw [e113]; exact ⟨rfl, N117, ⟨a13, a50, a92, (fun _ => 0), (fun _ => 0), F119, F120, F121, F122, F123, F124, F125, F127, F129, F126, F128, F130, (Nat.ne_of_lt lt54), (Nat.ne_of_lt lt96), (Nat.ne_of_lt lt97), ab, ab25, ab65, ab110⟩⟩
theorem own_d_prog_7_method_12_code_0 : decode prog_7_method_12_code 0 = .ok (.aload_n 0, 1) := by decide +kernel
theorem own_d_prog_7_method_12_code_1 : decode prog_7_method_12_code 1 = .ok (.invokevirtual 27, 3) := by decide +kernel
theorem own_pd___I : parseMethodDescriptor "()I" = some ⟨[], some .int⟩ := by decide +kernel
theorem own_d_prog_7_method_12_code_4 : decode prog_7_method_12_code 4 = .ok (.istore_n 2, 1) := by decide +kernel
theorem own_d_prog_7_method_12_code_5 : decode prog_7_method_12_code 5 = .ok (.aload_n 0, 1) := by decide +kernel
theorem own_d_prog_7_method_12_code_6 : decode prog_7_method_12_code 6 = .ok (.aload_n 0, 1) := by decide +kernel
theorem own_d_prog_7_method_12_code_7 : decode prog_7_method_12_code 7 = .ok (.getfield 9, 3) := by decide +kernel
theorem own_d_prog_7_method_12_code_10 : decode prog_7_method_12_code 10 = .ok (.aload_n 0, 1) := by decide +kernel
theorem own_d_prog_7_method_12_code_11 : decode prog_7_method_12_code 11 = .ok (.getfield 20, 3) := by decide +kernel
theorem own_d_prog_7_method_12_code_14 : decode prog_7_method_12_code 14 = .ok (.aload_n 0, 1) := by decide +kernel
theorem own_d_prog_7_method_12_code_15 : decode prog_7_method_12_code 15 = .ok (.getfield 20, 3) := by decide +kernel
theorem own_d_prog_7_method_12_code_18 : decode prog_7_method_12_code 18 = .ok (.iload_n 1, 1) := by decide +kernel
theorem own_d_prog_7_method_12_code_19 : decode prog_7_method_12_code 19 = .ok (.iadd, 1) := by decide +kernel
theorem own_d_prog_7_method_12_code_20 : decode prog_7_method_12_code 20 = .ok (.invokestatic 53, 3) := by decide +kernel
theorem own_d_prog_7_method_12_code_23 : decode prog_7_method_12_code 23 = .ok (.putfield 9, 3) := by decide +kernel
theorem own_d_prog_7_method_12_code_26 : decode prog_7_method_12_code 26 = .ok (.aload_n 0, 1) := by decide +kernel
theorem own_d_prog_7_method_12_code_27 : decode prog_7_method_12_code 27 = .ok (.aload_n 0, 1) := by decide +kernel
theorem own_d_prog_7_method_12_code_28 : decode prog_7_method_12_code 28 = .ok (.getfield 13, 3) := by decide +kernel
theorem own_d_prog_7_method_12_code_31 : decode prog_7_method_12_code 31 = .ok (.aload_n 0, 1) := by decide +kernel
theorem own_d_prog_7_method_12_code_32 : decode prog_7_method_12_code 32 = .ok (.getfield 20, 3) := by decide +kernel
theorem own_d_prog_7_method_12_code_35 : decode prog_7_method_12_code 35 = .ok (.aload_n 0, 1) := by decide +kernel
theorem own_d_prog_7_method_12_code_36 : decode prog_7_method_12_code 36 = .ok (.getfield 20, 3) := by decide +kernel
theorem own_d_prog_7_method_12_code_39 : decode prog_7_method_12_code 39 = .ok (.iload_n 1, 1) := by decide +kernel
theorem own_d_prog_7_method_12_code_40 : decode prog_7_method_12_code 40 = .ok (.iadd, 1) := by decide +kernel
theorem own_d_prog_7_method_12_code_41 : decode prog_7_method_12_code 41 = .ok (.invokestatic 53, 3) := by decide +kernel
theorem own_d_prog_7_method_12_code_44 : decode prog_7_method_12_code 44 = .ok (.putfield 13, 3) := by decide +kernel
theorem own_d_prog_7_method_12_code_47 : decode prog_7_method_12_code 47 = .ok (.aload_n 0, 1) := by decide +kernel
theorem own_d_prog_7_method_12_code_48 : decode prog_7_method_12_code 48 = .ok (.aload_n 0, 1) := by decide +kernel
theorem own_d_prog_7_method_12_code_49 : decode prog_7_method_12_code 49 = .ok (.getfield 16, 3) := by decide +kernel
theorem own_d_prog_7_method_12_code_52 : decode prog_7_method_12_code 52 = .ok (.aload_n 0, 1) := by decide +kernel
theorem own_d_prog_7_method_12_code_53 : decode prog_7_method_12_code 53 = .ok (.getfield 20, 3) := by decide +kernel
theorem own_d_prog_7_method_12_code_56 : decode prog_7_method_12_code 56 = .ok (.aload_n 0, 1) := by decide +kernel
theorem own_d_prog_7_method_12_code_57 : decode prog_7_method_12_code 57 = .ok (.getfield 20, 3) := by decide +kernel
theorem own_d_prog_7_method_12_code_60 : decode prog_7_method_12_code 60 = .ok (.iload_n 1, 1) := by decide +kernel
theorem own_d_prog_7_method_12_code_61 : decode prog_7_method_12_code 61 = .ok (.iadd, 1) := by decide +kernel
theorem own_d_prog_7_method_12_code_62 : decode prog_7_method_12_code 62 = .ok (.invokestatic 59, 3) := by decide +kernel
theorem own_d_prog_7_method_12_code_65 : decode prog_7_method_12_code 65 = .ok (.putfield 16, 3) := by decide +kernel
theorem own_d_prog_7_method_12_code_68 : decode prog_7_method_12_code 68 = .ok (.aload_n 0, 1) := by decide +kernel
theorem own_d_prog_7_method_12_code_69 : decode prog_7_method_12_code 69 = .ok (.iconst 0, 1) := by decide +kernel
theorem own_d_prog_7_method_12_code_70 : decode prog_7_method_12_code 70 = .ok (.putfield 20, 3) := by decide +kernel
theorem own_d_prog_7_method_12_code_73 : decode prog_7_method_12_code 73 = .ok (.aload_n 0, 1) := by decide +kernel
theorem own_d_prog_7_method_12_code_74 : decode prog_7_method_12_code 74 = .ok (.iload_n 2, 1) := by decide +kernel
theorem own_d_prog_7_method_12_code_75 : decode prog_7_method_12_code 75 = .ok (.putfield 24, 3) := by decide +kernel
theorem own_d_prog_7_method_12_code_78 : decode prog_7_method_12_code 78 = .ok (.return_, 1) := by decide +kernel
theorem own_ef_rmMv (x0 : Addr) (x1 : Int32) (m : MethodId) : entryFrame m #[(.ref x0), (.int x1)] 3 = mkF m 0 #[.val (.ref x0), .val (.int x1), .unset] [] := by first | (simp [entryFrame, mkF, argsToLocals, Value.category]; done) | rfl
set_option maxRecDepth 65536 in
set_option maxHeartbeats 40000000 in
theorem rmMv (l : Launch) (Z : State) (a0 : Array Value) (hw : ∀ d ∈ tables_1, d.before a0 Z = true) (a : Addr) (h0 : Heap) (n0 : Nat) (Z0 : n0 ≤ h0.size) (fi en : Int32) (fk : Nat → UInt64) (hD : Dq Z h0 a fi en fk n0) (hfi : 0 ≤ fi.toInt ∧ fi.toInt ≤ 3) :
    OCon l Z (⟨"com/example/stepwise_medians/stepwisemedians/engine/EntryDeque", "moveEntriesTo", "(I)V"⟩ : MethodName) prog_7_method_12_code 3 none ({ frames := 3, cells := 3, slots := 24, locals := 49 } : Room) #[(.ref a), (.int (8 : Int32))] h0 (fun v h L => v = none ∧ Fr n0 L ∧ Dq Z h a 0 (en - fi) (own_sh fk fi.toInt.toNat) n0) := by
  refine OConK.intro (y := (⟨"com/example/stepwise_medians/stepwisemedians/engine/EntryDeque", "moveEntriesTo", "(I)V"⟩ : MethodName)) (plainFor_of_name own_pn_com_example_stepwise_medians_stepwisemedians_engine_EntryDeque) (own_ef_rmMv a (8 : Int32)) ?_
  intro p e s m below meth c s₁ hx hby hml hown hnm hret hlk hZ X0 e0
  have hto : (fi + (8 : Int32)).toInt = fi.toInt + 8 := by have q1 := c_iadd fi 8; have q2 := rng32 (fi + 8); rw [own_8] at q1; omega
  obtain ⟨k1, v2, q3, fv4, fp5, E6, F7, F8, F9, F10, F11, A12, A13, A14, E15, E16, E17, nn18, nn19, nn20, b21, b22, b23, b24⟩ := hD
  have nq25 := oNeA E6 (hw _ (List.mem_of_getElem? (i := 1) rfl)) A12
  have nq26 := oNeA E6 (hw _ (List.mem_of_getElem? (i := 1) rfl)) A13
  have nq27 := oNeA E6 (hw _ (List.mem_of_getElem? (i := 1) rfl)) A14
  show OGoal p e below s _ _ _ (s₁.setTop (mkF m 0 #[.val (.ref a), .val (.int (8 : Int32)), .unset] []))
  refine OGoal.mp (S' := (s₁.setTop (mkF m 1 #[.val (.ref a), .val (.int (8 : Int32)), .unset] [(.ref a)]))) (fun _ k => XS.aloadN X0.here hx rfl (hb hby own_d_prog_7_method_12_code_0) rfl rfl k) ?_
  refine oCallV (y := (⟨"com/example/stepwise_medians/stepwisemedians/engine/EntryDeque", "size", "()I"⟩ : MethodName)) (z := (⟨"com/example/stepwise_medians/stepwisemedians/engine/EntryDeque", "size", "()I"⟩ : MethodName)) X0 hx hZ hown (hw _ (List.mem_of_getElem? (i := 45) rfl)) (hw _ (List.mem_of_getElem? (i := 46) rfl)) (hw _ (List.mem_of_getElem? (i := 48) rfl)) (hw _ (List.mem_of_getElem? (i := 47) rfl)) (hw _ (List.mem_of_getElem? (i := 2) rfl)) (hw _ (List.mem_of_getElem? (i := 49) rfl)) (by decide) (rmSz l Z a0 hw a h0 n0 Z0 fi en F10 F11) e0 E6 [] [] rfl rfl (by rw [hml]; rfl) (notFace_of_selects (args := #[]) (mvT hZ (hw _ (List.mem_of_getElem? (i := 48) rfl)))) (lenOf own_pd___I rfl) 0 (Nat.le_of_eq rfl) (by decide) (by decide) (by decide) (by decide) (hb hby own_d_prog_7_method_12_code_1) ?_
  intro v28 T29 L30 X31 q32
  obtain ⟨rfl, N33, e34⟩ := q32
  have N35 := Fr.app (Fr.nil n0) N33
  show OGoal p e below s _ _ _ (T29.setTop (mkF m 4 #[.val (.ref a), .val (.int (8 : Int32)), .unset] [(.int (en - fi))]))
  refine OGoal.mp (S' := (T29.setTop (mkF m 5 #[.val (.ref a), .val (.int (8 : Int32)), .val (.int (en - fi))] []))) (fun _ k => XS.istoreN X31.here hx rfl (hb hby own_d_prog_7_method_12_code_4) rfl (l' := #[.val (.ref a), .val (.int (8 : Int32)), .val (.int (en - fi))]) rfl k) ?_
  refine OGoal.mp (S' := (T29.setTop (mkF m 6 #[.val (.ref a), .val (.int (8 : Int32)), .val (.int (en - fi))] [(.ref a)]))) (fun _ k => XS.aloadN X31.here hx rfl (hb hby own_d_prog_7_method_12_code_5) rfl rfl k) ?_
  refine OGoal.mp (S' := (T29.setTop (mkF m 7 #[.val (.ref a), .val (.int (8 : Int32)), .val (.int (en - fi))] [(.ref a), (.ref a)]))) (fun _ k => XS.aloadN X31.here hx rfl (hb hby own_d_prog_7_method_12_code_6) rfl rfl k) ?_
  obtain ⟨T36, X37, e38, st39⟩ := getF X31 hx hZ hown (host := "") (Or.inl (hw _ (List.mem_of_getElem? (i := 10) rfl))) Via.refl e34 F7 (g := mkF m 7 #[.val (.ref a), .val (.int (8 : Int32)), .val (.int (en - fi))] [(.ref a), (.ref a)]) rfl rfl (hb hby own_d_prog_7_method_12_code_7)
  refine OGoal.mp (S' := (T36.setTop (mkF m 10 #[.val (.ref a), .val (.int (8 : Int32)), .val (.int (en - fi))] [(.ref k1), (.ref a)]))) (fun _ k => st39 _ k) ?_
  refine OGoal.mp (S' := (T36.setTop (mkF m 11 #[.val (.ref a), .val (.int (8 : Int32)), .val (.int (en - fi))] [(.ref a), (.ref k1), (.ref a)]))) (fun _ k => XS.aloadN X37.here hx rfl (hb hby own_d_prog_7_method_12_code_10) rfl rfl k) ?_
  obtain ⟨T40, X41, e42, st43⟩ := getF X37 hx hZ hown (host := "") (Or.inl (hw _ (List.mem_of_getElem? (i := 29) rfl))) Via.refl e38 F10 (g := mkF m 11 #[.val (.ref a), .val (.int (8 : Int32)), .val (.int (en - fi))] [(.ref a), (.ref k1), (.ref a)]) rfl rfl (hb hby own_d_prog_7_method_12_code_11)
  refine OGoal.mp (S' := (T40.setTop (mkF m 14 #[.val (.ref a), .val (.int (8 : Int32)), .val (.int (en - fi))] [(.int fi), (.ref k1), (.ref a)]))) (fun _ k => st43 _ k) ?_
  refine OGoal.mp (S' := (T40.setTop (mkF m 15 #[.val (.ref a), .val (.int (8 : Int32)), .val (.int (en - fi))] [(.ref a), (.int fi), (.ref k1), (.ref a)]))) (fun _ k => XS.aloadN X41.here hx rfl (hb hby own_d_prog_7_method_12_code_14) rfl rfl k) ?_
  obtain ⟨T44, X45, e46, st47⟩ := getF X41 hx hZ hown (host := "") (Or.inl (hw _ (List.mem_of_getElem? (i := 29) rfl))) Via.refl e42 F10 (g := mkF m 15 #[.val (.ref a), .val (.int (8 : Int32)), .val (.int (en - fi))] [(.ref a), (.int fi), (.ref k1), (.ref a)]) rfl rfl (hb hby own_d_prog_7_method_12_code_15)
  refine OGoal.mp (S' := (T44.setTop (mkF m 18 #[.val (.ref a), .val (.int (8 : Int32)), .val (.int (en - fi))] [(.int fi), (.int fi), (.ref k1), (.ref a)]))) (fun _ k => st47 _ k) ?_
  refine OGoal.mp (S' := (T44.setTop (mkF m 19 #[.val (.ref a), .val (.int (8 : Int32)), .val (.int (en - fi))] [(.int (8 : Int32)), (.int fi), (.int fi), (.ref k1), (.ref a)]))) (fun _ k => XS.iloadN X45.here hx rfl (hb hby own_d_prog_7_method_12_code_18) rfl k) ?_
  refine OGoal.mp (S' := (T44.setTop (mkF m 20 #[.val (.ref a), .val (.int (8 : Int32)), .val (.int (en - fi))] [(.int (fi + (8 : Int32))), (.int fi), (.ref k1), (.ref a)]))) (fun _ k => XS.iadd X45.here hx rfl (hb hby own_d_prog_7_method_12_code_19) rfl k) ?_
  refine oCallS (y := (⟨"java/util/Arrays", "copyOfRange", "([DII)[D"⟩ : MethodName)) X45 hx hZ hown (hw _ (List.mem_of_getElem? (i := 58) rfl)) (hw _ (List.mem_of_getElem? (i := 59) rfl)) (hw _ (List.mem_of_getElem? (i := 60) rfl)) (hw _ (List.mem_of_getElem? (i := 61) rfl)) (by decide) (rmCRD l Z a0 hw k1 fi (fi + (8 : Int32)) h0 n0 Z0 fk A12 hfi hto E15) e46 [(.ref k1), (.int fi), (.int (fi + (8 : Int32)))] [(.ref a)] rfl rfl (by rw [hml]; rfl) (lenOf own_pd___DII__D rfl) 1 (Nat.le_of_eq rfl) (by decide) (by decide) (by decide) (by decide) (hb hby own_d_prog_7_method_12_code_20) ?_
  intro v49 T50 L51 X52 q53
  obtain ⟨r48, rfl, N54, K55, hr56, A57, E58⟩ := q53
  have N59 := Fr.app N35 N54
  have lt60 : a < r48 := Nat.lt_of_lt_of_le E6.lt hr56
  have lt61 : k1 < r48 := Nat.lt_of_lt_of_le A12.lt hr56
  have lt62 : v2 < r48 := Nat.lt_of_lt_of_le A13.lt hr56
  have lt63 : q3 < r48 := Nat.lt_of_lt_of_le A14.lt hr56
  have ab64 : n0 ≤ r48 := Nat.le_trans Z0 hr56
  have F65 := E6.keep K55
  have F66 := F7.keep K55 nin0
  have F67 := F8.keep K55 nin0
  have F68 := F9.keep K55 nin0
  have F69 := F10.keep K55 nin0
  have F70 := F11.keep K55 nin0
  have F71 := A13.keep K55 nin0
  have F72 := E16.keep K55
  have F73 := A14.keep K55 nin0
  have F74 := E17.keep K55
  have Z75 : n0 ≤ T50.heap.size := Nat.le_trans Z0 K55.1
  show OGoal p e below s _ _ _ (T50.setTop (mkF m 23 #[.val (.ref a), .val (.int (8 : Int32)), .val (.int (en - fi))] [(.ref r48), (.ref a)]))
  obtain ⟨T76, h80, X77, e78, W81, st79⟩ := putF X52 hx hZ hown (host := "") (Or.inl (hw _ (List.mem_of_getElem? (i := 10) rfl))) Via.refl rfl F66 F65 (Or.inl (hw _ (List.mem_of_getElem? (i := 11) rfl))) (hw _ (List.mem_of_getElem? (i := 1) rfl)) (ty := (.array .double)) (by decide) rfl rfl (g := mkF m 23 #[.val (.ref a), .val (.int (8 : Int32)), .val (.int (en - fi))] [(.ref r48), (.ref a)]) rfl rfl (hb hby own_d_prog_7_method_12_code_23)
  have N82 := Fr.snoc X77 N59 b21
  have Z83 : n0 ≤ h80.size := Nat.le_trans Z75 (Keep.of_wr W81).1
  have F84 := F65.wr W81
  have F85 := F66.same W81
  have F86 := F67.other W81 (Or.inr (slot_ne (a0 := a0) (C := "com/example/stepwise_medians/stepwisemedians/engine/EntryDeque") (t := (.array .double)) (t' := (.array .double)) (Or.inl (hw _ (List.mem_of_getElem? (i := 13) rfl))) (Or.inl (hw _ (List.mem_of_getElem? (i := 11) rfl))) (by decide) (by decide) (by decide)))
  have F87 := F68.other W81 (Or.inr (slot_ne (a0 := a0) (C := "com/example/stepwise_medians/stepwisemedians/engine/EntryDeque") (t := (.array .int)) (t' := (.array .double)) (Or.inl (hw _ (List.mem_of_getElem? (i := 16) rfl))) (Or.inl (hw _ (List.mem_of_getElem? (i := 11) rfl))) (by decide) (by decide) (by decide)))
  have F88 := F69.other W81 (Or.inr (slot_ne (a0 := a0) (C := "com/example/stepwise_medians/stepwisemedians/engine/EntryDeque") (t := .int) (t' := (.array .double)) (Or.inl (hw _ (List.mem_of_getElem? (i := 30) rfl))) (Or.inl (hw _ (List.mem_of_getElem? (i := 11) rfl))) (by decide) (by decide) (by decide)))
  have F89 := F70.other W81 (Or.inr (slot_ne (a0 := a0) (C := "com/example/stepwise_medians/stepwisemedians/engine/EntryDeque") (t := .int) (t' := (.array .double)) (Or.inl (hw _ (List.mem_of_getElem? (i := 23) rfl))) (Or.inl (hw _ (List.mem_of_getElem? (i := 11) rfl))) (by decide) (by decide) (by decide)))
  have F90 := F71.other W81 nq26.symm
  have F91 := F72.wr W81
  have F92 := F73.other W81 nq27.symm
  have F93 := F74.wr W81
  have F94 := A57.other W81 (Nat.ne_of_gt lt60)
  have F95 := E58.wr W81
  refine OGoal.mp (S' := (T76.setTop (mkF m 26 #[.val (.ref a), .val (.int (8 : Int32)), .val (.int (en - fi))] []))) (fun _ k => st79 _ k) ?_
  refine OGoal.mp (S' := (T76.setTop (mkF m 27 #[.val (.ref a), .val (.int (8 : Int32)), .val (.int (en - fi))] [(.ref a)]))) (fun _ k => XS.aloadN X77.here hx rfl (hb hby own_d_prog_7_method_12_code_26) rfl rfl k) ?_
  refine OGoal.mp (S' := (T76.setTop (mkF m 28 #[.val (.ref a), .val (.int (8 : Int32)), .val (.int (en - fi))] [(.ref a), (.ref a)]))) (fun _ k => XS.aloadN X77.here hx rfl (hb hby own_d_prog_7_method_12_code_27) rfl rfl k) ?_
  obtain ⟨T96, X97, e98, st99⟩ := getF X77 hx hZ hown (host := "") (Or.inl (hw _ (List.mem_of_getElem? (i := 12) rfl))) Via.refl e78 F86 (g := mkF m 28 #[.val (.ref a), .val (.int (8 : Int32)), .val (.int (en - fi))] [(.ref a), (.ref a)]) rfl rfl (hb hby own_d_prog_7_method_12_code_28)
  refine OGoal.mp (S' := (T96.setTop (mkF m 31 #[.val (.ref a), .val (.int (8 : Int32)), .val (.int (en - fi))] [(.ref v2), (.ref a)]))) (fun _ k => st99 _ k) ?_
  refine OGoal.mp (S' := (T96.setTop (mkF m 32 #[.val (.ref a), .val (.int (8 : Int32)), .val (.int (en - fi))] [(.ref a), (.ref v2), (.ref a)]))) (fun _ k => XS.aloadN X97.here hx rfl (hb hby own_d_prog_7_method_12_code_31) rfl rfl k) ?_
  obtain ⟨T100, X101, e102, st103⟩ := getF X97 hx hZ hown (host := "") (Or.inl (hw _ (List.mem_of_getElem? (i := 29) rfl))) Via.refl e98 F88 (g := mkF m 32 #[.val (.ref a), .val (.int (8 : Int32)), .val (.int (en - fi))] [(.ref a), (.ref v2), (.ref a)]) rfl rfl (hb hby own_d_prog_7_method_12_code_32)
  refine OGoal.mp (S' := (T100.setTop (mkF m 35 #[.val (.ref a), .val (.int (8 : Int32)), .val (.int (en - fi))] [(.int fi), (.ref v2), (.ref a)]))) (fun _ k => st103 _ k) ?_
  refine OGoal.mp (S' := (T100.setTop (mkF m 36 #[.val (.ref a), .val (.int (8 : Int32)), .val (.int (en - fi))] [(.ref a), (.int fi), (.ref v2), (.ref a)]))) (fun _ k => XS.aloadN X101.here hx rfl (hb hby own_d_prog_7_method_12_code_35) rfl rfl k) ?_
  obtain ⟨T104, X105, e106, st107⟩ := getF X101 hx hZ hown (host := "") (Or.inl (hw _ (List.mem_of_getElem? (i := 29) rfl))) Via.refl e102 F88 (g := mkF m 36 #[.val (.ref a), .val (.int (8 : Int32)), .val (.int (en - fi))] [(.ref a), (.int fi), (.ref v2), (.ref a)]) rfl rfl (hb hby own_d_prog_7_method_12_code_36)
  refine OGoal.mp (S' := (T104.setTop (mkF m 39 #[.val (.ref a), .val (.int (8 : Int32)), .val (.int (en - fi))] [(.int fi), (.int fi), (.ref v2), (.ref a)]))) (fun _ k => st107 _ k) ?_
  refine OGoal.mp (S' := (T104.setTop (mkF m 40 #[.val (.ref a), .val (.int (8 : Int32)), .val (.int (en - fi))] [(.int (8 : Int32)), (.int fi), (.int fi), (.ref v2), (.ref a)]))) (fun _ k => XS.iloadN X105.here hx rfl (hb hby own_d_prog_7_method_12_code_39) rfl k) ?_
  refine OGoal.mp (S' := (T104.setTop (mkF m 41 #[.val (.ref a), .val (.int (8 : Int32)), .val (.int (en - fi))] [(.int (fi + (8 : Int32))), (.int fi), (.ref v2), (.ref a)]))) (fun _ k => XS.iadd X105.here hx rfl (hb hby own_d_prog_7_method_12_code_40) rfl k) ?_
  refine oCallS (y := (⟨"java/util/Arrays", "copyOfRange", "([DII)[D"⟩ : MethodName)) X105 hx hZ hown (hw _ (List.mem_of_getElem? (i := 58) rfl)) (hw _ (List.mem_of_getElem? (i := 59) rfl)) (hw _ (List.mem_of_getElem? (i := 60) rfl)) (hw _ (List.mem_of_getElem? (i := 61) rfl)) (by decide) (rmCRD l Z a0 hw v2 fi (fi + (8 : Int32)) h80 n0 Z83 fv4 F90 hfi hto F91) e106 [(.ref v2), (.int fi), (.int (fi + (8 : Int32)))] [(.ref a)] rfl rfl (by rw [hml]; rfl) (lenOf own_pd___DII__D rfl) 1 (Nat.le_of_eq rfl) (by decide) (by decide) (by decide) (by decide) (hb hby own_d_prog_7_method_12_code_41) ?_
  intro v109 T110 L111 X112 q113
  obtain ⟨r108, rfl, N114, K115, hr116, A117, E118⟩ := q113
  have N119 := Fr.app N82 N114
  have lt120 : a < r108 := Nat.lt_of_lt_of_le F84.lt hr116
  have lt121 : v2 < r108 := Nat.lt_of_lt_of_le F90.lt hr116
  have lt122 : q3 < r108 := Nat.lt_of_lt_of_le F92.lt hr116
  have lt123 : r48 < r108 := Nat.lt_of_lt_of_le F94.lt hr116
  have ab124 : n0 ≤ r108 := Nat.le_trans Z83 hr116
  have F125 := F84.keep K115
  have F126 := F85.keep K115 nin0
  have F127 := F86.keep K115 nin0
  have F128 := F87.keep K115 nin0
  have F129 := F88.keep K115 nin0
  have F130 := F89.keep K115 nin0
  have F131 := F92.keep K115 nin0
  have F132 := F93.keep K115
  have F133 := F94.keep K115 nin0
  have F134 := F95.keep K115
  have Z135 : n0 ≤ T110.heap.size := Nat.le_trans Z83 K115.1
  show OGoal p e below s _ _ _ (T110.setTop (mkF m 44 #[.val (.ref a), .val (.int (8 : Int32)), .val (.int (en - fi))] [(.ref r108), (.ref a)]))
  obtain ⟨T136, h140, X137, e138, W141, st139⟩ := putF X112 hx hZ hown (host := "") (Or.inl (hw _ (List.mem_of_getElem? (i := 12) rfl))) Via.refl rfl F127 F125 (Or.inl (hw _ (List.mem_of_getElem? (i := 13) rfl))) (hw _ (List.mem_of_getElem? (i := 1) rfl)) (ty := (.array .double)) (by decide) rfl rfl (g := mkF m 44 #[.val (.ref a), .val (.int (8 : Int32)), .val (.int (en - fi))] [(.ref r108), (.ref a)]) rfl rfl (hb hby own_d_prog_7_method_12_code_44)
  have N142 := Fr.snoc X137 N119 b21
  have Z143 : n0 ≤ h140.size := Nat.le_trans Z135 (Keep.of_wr W141).1
  have F144 := F125.wr W141
  have F145 := F126.other W141 (Or.inr (slot_ne (a0 := a0) (C := "com/example/stepwise_medians/stepwisemedians/engine/EntryDeque") (t := (.array .double)) (t' := (.array .double)) (Or.inl (hw _ (List.mem_of_getElem? (i := 11) rfl))) (Or.inl (hw _ (List.mem_of_getElem? (i := 13) rfl))) (by decide) (by decide) (by decide)))
  have F146 := F127.same W141
  have F147 := F128.other W141 (Or.inr (slot_ne (a0 := a0) (C := "com/example/stepwise_medians/stepwisemedians/engine/EntryDeque") (t := (.array .int)) (t' := (.array .double)) (Or.inl (hw _ (List.mem_of_getElem? (i := 16) rfl))) (Or.inl (hw _ (List.mem_of_getElem? (i := 13) rfl))) (by decide) (by decide) (by decide)))
  have F148 := F129.other W141 (Or.inr (slot_ne (a0 := a0) (C := "com/example/stepwise_medians/stepwisemedians/engine/EntryDeque") (t := .int) (t' := (.array .double)) (Or.inl (hw _ (List.mem_of_getElem? (i := 30) rfl))) (Or.inl (hw _ (List.mem_of_getElem? (i := 13) rfl))) (by decide) (by decide) (by decide)))
  have F149 := F130.other W141 (Or.inr (slot_ne (a0 := a0) (C := "com/example/stepwise_medians/stepwisemedians/engine/EntryDeque") (t := .int) (t' := (.array .double)) (Or.inl (hw _ (List.mem_of_getElem? (i := 23) rfl))) (Or.inl (hw _ (List.mem_of_getElem? (i := 13) rfl))) (by decide) (by decide) (by decide)))
  have F150 := F131.other W141 nq27.symm
  have F151 := F132.wr W141
  have F152 := F133.other W141 (Nat.ne_of_gt lt60)
  have F153 := F134.wr W141
  have F154 := A117.other W141 (Nat.ne_of_gt lt120)
  have F155 := E118.wr W141
  refine OGoal.mp (S' := (T136.setTop (mkF m 47 #[.val (.ref a), .val (.int (8 : Int32)), .val (.int (en - fi))] []))) (fun _ k => st139 _ k) ?_
  refine OGoal.mp (S' := (T136.setTop (mkF m 48 #[.val (.ref a), .val (.int (8 : Int32)), .val (.int (en - fi))] [(.ref a)]))) (fun _ k => XS.aloadN X137.here hx rfl (hb hby own_d_prog_7_method_12_code_47) rfl rfl k) ?_
  refine OGoal.mp (S' := (T136.setTop (mkF m 49 #[.val (.ref a), .val (.int (8 : Int32)), .val (.int (en - fi))] [(.ref a), (.ref a)]))) (fun _ k => XS.aloadN X137.here hx rfl (hb hby own_d_prog_7_method_12_code_48) rfl rfl k) ?_
  obtain ⟨T156, X157, e158, st159⟩ := getF X137 hx hZ hown (host := "") (Or.inl (hw _ (List.mem_of_getElem? (i := 15) rfl))) Via.refl e138 F147 (g := mkF m 49 #[.val (.ref a), .val (.int (8 : Int32)), .val (.int (en - fi))] [(.ref a), (.ref a)]) rfl rfl (hb hby own_d_prog_7_method_12_code_49)
  refine OGoal.mp (S' := (T156.setTop (mkF m 52 #[.val (.ref a), .val (.int (8 : Int32)), .val (.int (en - fi))] [(.ref q3), (.ref a)]))) (fun _ k => st159 _ k) ?_
  refine OGoal.mp (S' := (T156.setTop (mkF m 53 #[.val (.ref a), .val (.int (8 : Int32)), .val (.int (en - fi))] [(.ref a), (.ref q3), (.ref a)]))) (fun _ k => XS.aloadN X157.here hx rfl (hb hby own_d_prog_7_method_12_code_52) rfl rfl k) ?_
  obtain ⟨T160, X161, e162, st163⟩ := getF X157 hx hZ hown (host := "") (Or.inl (hw _ (List.mem_of_getElem? (i := 29) rfl))) Via.refl e158 F148 (g := mkF m 53 #[.val (.ref a), .val (.int (8 : Int32)), .val (.int (en - fi))] [(.ref a), (.ref q3), (.ref a)]) rfl rfl (hb hby own_d_prog_7_method_12_code_53)
  refine OGoal.mp (S' := (T160.setTop (mkF m 56 #[.val (.ref a), .val (.int (8 : Int32)), .val (.int (en - fi))] [(.int fi), (.ref q3), (.ref a)]))) (fun _ k => st163 _ k) ?_
  refine OGoal.mp (S' := (T160.setTop (mkF m 57 #[.val (.ref a), .val (.int (8 : Int32)), .val (.int (en - fi))] [(.ref a), (.int fi), (.ref q3), (.ref a)]))) (fun _ k => XS.aloadN X161.here hx rfl (hb hby own_d_prog_7_method_12_code_56) rfl rfl k) ?_
  obtain ⟨T164, X165, e166, st167⟩ := getF X161 hx hZ hown (host := "") (Or.inl (hw _ (List.mem_of_getElem? (i := 29) rfl))) Via.refl e162 F148 (g := mkF m 57 #[.val (.ref a), .val (.int (8 : Int32)), .val (.int (en - fi))] [(.ref a), (.int fi), (.ref q3), (.ref a)]) rfl rfl (hb hby own_d_prog_7_method_12_code_57)
  refine OGoal.mp (S' := (T164.setTop (mkF m 60 #[.val (.ref a), .val (.int (8 : Int32)), .val (.int (en - fi))] [(.int fi), (.int fi), (.ref q3), (.ref a)]))) (fun _ k => st167 _ k) ?_
  refine OGoal.mp (S' := (T164.setTop (mkF m 61 #[.val (.ref a), .val (.int (8 : Int32)), .val (.int (en - fi))] [(.int (8 : Int32)), (.int fi), (.int fi), (.ref q3), (.ref a)]))) (fun _ k => XS.iloadN X165.here hx rfl (hb hby own_d_prog_7_method_12_code_60) rfl k) ?_
  refine OGoal.mp (S' := (T164.setTop (mkF m 62 #[.val (.ref a), .val (.int (8 : Int32)), .val (.int (en - fi))] [(.int (fi + (8 : Int32))), (.int fi), (.ref q3), (.ref a)]))) (fun _ k => XS.iadd X165.here hx rfl (hb hby own_d_prog_7_method_12_code_61) rfl k) ?_
  refine oCallS (y := (⟨"java/util/Arrays", "copyOfRange", "([III)[I"⟩ : MethodName)) X165 hx hZ hown (hw _ (List.mem_of_getElem? (i := 71) rfl)) (hw _ (List.mem_of_getElem? (i := 72) rfl)) (hw _ (List.mem_of_getElem? (i := 60) rfl)) (hw _ (List.mem_of_getElem? (i := 73) rfl)) (by decide) (rmCRI l Z a0 hw q3 fi (fi + (8 : Int32)) h140 n0 Z143 fp5 F150 hfi hto F151) e166 [(.ref q3), (.int fi), (.int (fi + (8 : Int32)))] [(.ref a)] rfl rfl (by rw [hml]; rfl) (lenOf own_pd___III__I rfl) 1 (Nat.le_of_eq rfl) (by decide) (by decide) (by decide) (by decide) (hb hby own_d_prog_7_method_12_code_62) ?_
  intro v169 T170 L171 X172 q173
  obtain ⟨r168, rfl, N174, K175, hr176, A177, E178⟩ := q173
  have N179 := Fr.app N142 N174
  have lt180 : a < r168 := Nat.lt_of_lt_of_le F144.lt hr176
  have lt181 : q3 < r168 := Nat.lt_of_lt_of_le F150.lt hr176
  have lt182 : r48 < r168 := Nat.lt_of_lt_of_le F152.lt hr176
  have lt183 : r108 < r168 := Nat.lt_of_lt_of_le F154.lt hr176
  have ab184 : n0 ≤ r168 := Nat.le_trans Z143 hr176
  have F185 := F144.keep K175
  have F186 := F145.keep K175 nin0
  have F187 := F146.keep K175 nin0
  have F188 := F147.keep K175 nin0
  have F189 := F148.keep K175 nin0
  have F190 := F149.keep K175 nin0
  have F191 := F152.keep K175 nin0
  have F192 := F153.keep K175
  have F193 := F154.keep K175 nin0
  have F194 := F155.keep K175
  have Z195 : n0 ≤ T170.heap.size := Nat.le_trans Z143 K175.1
  show OGoal p e below s _ _ _ (T170.setTop (mkF m 65 #[.val (.ref a), .val (.int (8 : Int32)), .val (.int (en - fi))] [(.ref r168), (.ref a)]))
  obtain ⟨T196, h200, X197, e198, W201, st199⟩ := putF X172 hx hZ hown (host := "") (Or.inl (hw _ (List.mem_of_getElem? (i := 15) rfl))) Via.refl rfl F188 F185 (Or.inl (hw _ (List.mem_of_getElem? (i := 16) rfl))) (hw _ (List.mem_of_getElem? (i := 1) rfl)) (ty := (.array .int)) (by decide) rfl rfl (g := mkF m 65 #[.val (.ref a), .val (.int (8 : Int32)), .val (.int (en - fi))] [(.ref r168), (.ref a)]) rfl rfl (hb hby own_d_prog_7_method_12_code_65)
  have N202 := Fr.snoc X197 N179 b21
  have Z203 : n0 ≤ h200.size := Nat.le_trans Z195 (Keep.of_wr W201).1
  have F204 := F185.wr W201
  have F205 := F186.other W201 (Or.inr (slot_ne (a0 := a0) (C := "com/example/stepwise_medians/stepwisemedians/engine/EntryDeque") (t := (.array .double)) (t' := (.array .int)) (Or.inl (hw _ (List.mem_of_getElem? (i := 11) rfl))) (Or.inl (hw _ (List.mem_of_getElem? (i := 16) rfl))) (by decide) (by decide) (by decide)))
  have F206 := F187.other W201 (Or.inr (slot_ne (a0 := a0) (C := "com/example/stepwise_medians/stepwisemedians/engine/EntryDeque") (t := (.array .double)) (t' := (.array .int)) (Or.inl (hw _ (List.mem_of_getElem? (i := 13) rfl))) (Or.inl (hw _ (List.mem_of_getElem? (i := 16) rfl))) (by decide) (by decide) (by decide)))
  have F207 := F188.same W201
  have F208 := F189.other W201 (Or.inr (slot_ne (a0 := a0) (C := "com/example/stepwise_medians/stepwisemedians/engine/EntryDeque") (t := .int) (t' := (.array .int)) (Or.inl (hw _ (List.mem_of_getElem? (i := 30) rfl))) (Or.inl (hw _ (List.mem_of_getElem? (i := 16) rfl))) (by decide) (by decide) (by decide)))
  have F209 := F190.other W201 (Or.inr (slot_ne (a0 := a0) (C := "com/example/stepwise_medians/stepwisemedians/engine/EntryDeque") (t := .int) (t' := (.array .int)) (Or.inl (hw _ (List.mem_of_getElem? (i := 23) rfl))) (Or.inl (hw _ (List.mem_of_getElem? (i := 16) rfl))) (by decide) (by decide) (by decide)))
  have F210 := F191.other W201 (Nat.ne_of_gt lt60)
  have F211 := F192.wr W201
  have F212 := F193.other W201 (Nat.ne_of_gt lt120)
  have F213 := F194.wr W201
  have F214 := A177.other W201 (Nat.ne_of_gt lt180)
  have F215 := E178.wr W201
  refine OGoal.mp (S' := (T196.setTop (mkF m 68 #[.val (.ref a), .val (.int (8 : Int32)), .val (.int (en - fi))] []))) (fun _ k => st199 _ k) ?_
  refine OGoal.mp (S' := (T196.setTop (mkF m 69 #[.val (.ref a), .val (.int (8 : Int32)), .val (.int (en - fi))] [(.ref a)]))) (fun _ k => XS.aloadN X197.here hx rfl (hb hby own_d_prog_7_method_12_code_68) rfl rfl k) ?_
  refine OGoal.mp (S' := (T196.setTop (mkF m 70 #[.val (.ref a), .val (.int (8 : Int32)), .val (.int (en - fi))] [(.int (0 : Int32)), (.ref a)]))) (fun _ k => XS.iconst X197.here hx rfl (hb hby own_d_prog_7_method_12_code_69) k) ?_
  obtain ⟨T216, h220, X217, e218, W221, st219⟩ := putF X197 hx hZ hown (host := "") (Or.inl (hw _ (List.mem_of_getElem? (i := 29) rfl))) Via.refl e198 F208 F204 (Or.inl (hw _ (List.mem_of_getElem? (i := 30) rfl))) (hw _ (List.mem_of_getElem? (i := 1) rfl)) (ty := .int) (by decide) rfl rfl (g := mkF m 70 #[.val (.ref a), .val (.int (8 : Int32)), .val (.int (en - fi))] [(.int (0 : Int32)), (.ref a)]) rfl rfl (hb hby own_d_prog_7_method_12_code_70)
  have N222 := Fr.snoc X217 N202 b21
  have Z223 : n0 ≤ h220.size := Nat.le_trans Z203 (Keep.of_wr W221).1
  have F224 := F204.wr W221
  have F225 := F205.other W221 (Or.inr (slot_ne (a0 := a0) (C := "com/example/stepwise_medians/stepwisemedians/engine/EntryDeque") (t := (.array .double)) (t' := .int) (Or.inl (hw _ (List.mem_of_getElem? (i := 11) rfl))) (Or.inl (hw _ (List.mem_of_getElem? (i := 30) rfl))) (by decide) (by decide) (by decide)))
  have F226 := F206.other W221 (Or.inr (slot_ne (a0 := a0) (C := "com/example/stepwise_medians/stepwisemedians/engine/EntryDeque") (t := (.array .double)) (t' := .int) (Or.inl (hw _ (List.mem_of_getElem? (i := 13) rfl))) (Or.inl (hw _ (List.mem_of_getElem? (i := 30) rfl))) (by decide) (by decide) (by decide)))
  have F227 := F207.other W221 (Or.inr (slot_ne (a0 := a0) (C := "com/example/stepwise_medians/stepwisemedians/engine/EntryDeque") (t := (.array .int)) (t' := .int) (Or.inl (hw _ (List.mem_of_getElem? (i := 16) rfl))) (Or.inl (hw _ (List.mem_of_getElem? (i := 30) rfl))) (by decide) (by decide) (by decide)))
  have F228 := F208.same W221
  have F229 := F209.other W221 (Or.inr (slot_ne (a0 := a0) (C := "com/example/stepwise_medians/stepwisemedians/engine/EntryDeque") (t := .int) (t' := .int) (Or.inl (hw _ (List.mem_of_getElem? (i := 23) rfl))) (Or.inl (hw _ (List.mem_of_getElem? (i := 30) rfl))) (by decide) (by decide) (by decide)))
  have F230 := F210.other W221 (Nat.ne_of_gt lt60)
  have F231 := F211.wr W221
  have F232 := F212.other W221 (Nat.ne_of_gt lt120)
  have F233 := F213.wr W221
  have F234 := F214.other W221 (Nat.ne_of_gt lt180)
  have F235 := F215.wr W221
  refine OGoal.mp (S' := (T216.setTop (mkF m 73 #[.val (.ref a), .val (.int (8 : Int32)), .val (.int (en - fi))] []))) (fun _ k => st219 _ k) ?_
  refine OGoal.mp (S' := (T216.setTop (mkF m 74 #[.val (.ref a), .val (.int (8 : Int32)), .val (.int (en - fi))] [(.ref a)]))) (fun _ k => XS.aloadN X217.here hx rfl (hb hby own_d_prog_7_method_12_code_73) rfl rfl k) ?_
  refine OGoal.mp (S' := (T216.setTop (mkF m 75 #[.val (.ref a), .val (.int (8 : Int32)), .val (.int (en - fi))] [(.int (en - fi)), (.ref a)]))) (fun _ k => XS.iloadN X217.here hx rfl (hb hby own_d_prog_7_method_12_code_74) rfl k) ?_
  obtain ⟨T236, h240, X237, e238, W241, st239⟩ := putF X217 hx hZ hown (host := "") (Or.inl (hw _ (List.mem_of_getElem? (i := 22) rfl))) Via.refl e218 F229 F224 (Or.inl (hw _ (List.mem_of_getElem? (i := 23) rfl))) (hw _ (List.mem_of_getElem? (i := 1) rfl)) (ty := .int) (by decide) rfl rfl (g := mkF m 75 #[.val (.ref a), .val (.int (8 : Int32)), .val (.int (en - fi))] [(.int (en - fi)), (.ref a)]) rfl rfl (hb hby own_d_prog_7_method_12_code_75)
  have N242 := Fr.snoc X237 N222 b21
  have Z243 : n0 ≤ h240.size := Nat.le_trans Z223 (Keep.of_wr W241).1
  have F244 := F224.wr W241
  have F245 := F225.other W241 (Or.inr (slot_ne (a0 := a0) (C := "com/example/stepwise_medians/stepwisemedians/engine/EntryDeque") (t := (.array .double)) (t' := .int) (Or.inl (hw _ (List.mem_of_getElem? (i := 11) rfl))) (Or.inl (hw _ (List.mem_of_getElem? (i := 23) rfl))) (by decide) (by decide) (by decide)))
  have F246 := F226.other W241 (Or.inr (slot_ne (a0 := a0) (C := "com/example/stepwise_medians/stepwisemedians/engine/EntryDeque") (t := (.array .double)) (t' := .int) (Or.inl (hw _ (List.mem_of_getElem? (i := 13) rfl))) (Or.inl (hw _ (List.mem_of_getElem? (i := 23) rfl))) (by decide) (by decide) (by decide)))
  have F247 := F227.other W241 (Or.inr (slot_ne (a0 := a0) (C := "com/example/stepwise_medians/stepwisemedians/engine/EntryDeque") (t := (.array .int)) (t' := .int) (Or.inl (hw _ (List.mem_of_getElem? (i := 16) rfl))) (Or.inl (hw _ (List.mem_of_getElem? (i := 23) rfl))) (by decide) (by decide) (by decide)))
  have F248 := F228.other W241 (Or.inr (slot_ne (a0 := a0) (C := "com/example/stepwise_medians/stepwisemedians/engine/EntryDeque") (t := .int) (t' := .int) (Or.inl (hw _ (List.mem_of_getElem? (i := 30) rfl))) (Or.inl (hw _ (List.mem_of_getElem? (i := 23) rfl))) (by decide) (by decide) (by decide)))
  have F249 := F229.same W241
  have F250 := F230.other W241 (Nat.ne_of_gt lt60)
  have F251 := F231.wr W241
  have F252 := F232.other W241 (Nat.ne_of_gt lt120)
  have F253 := F233.wr W241
  have F254 := F234.other W241 (Nat.ne_of_gt lt180)
  have F255 := F235.wr W241
  refine OGoal.mp (S' := (T236.setTop (mkF m 78 #[.val (.ref a), .val (.int (8 : Int32)), .val (.int (en - fi))] []))) (fun _ k => st239 _ k) ?_
  refine oRetV X237 hx hlk hret (hb hby own_d_prog_7_method_12_code_78) ?_ (by decide) (by decide)
  rw [e238]; exact ⟨rfl, N242, ⟨r48, r108, r168, (own_sh fv4 fi.toInt.toNat), (own_shI fp5 fi.toInt.toNat), F244, F245, F246, F247, F248, F249, F250, F252, F254, F251, F253, F255, (Nat.ne_of_lt lt123), (Nat.ne_of_lt lt182), (Nat.ne_of_lt lt183), b21, ab64, ab124, ab184⟩⟩
theorem own_d_prog_7_method_2_code_0 : decode prog_7_method_2_code 0 = .ok (.aload_n 0, 1) := by decide +kernel
theorem own_d_prog_7_method_2_code_1 : decode prog_7_method_2_code 1 = .ok (.invokespecial 1, 3) := by decide +kernel
theorem own_d_prog_7_method_2_code_4 : decode prog_7_method_2_code 4 = .ok (.aload_n 0, 1) := by decide +kernel
theorem own_d_prog_7_method_2_code_5 : decode prog_7_method_2_code 5 = .ok (.aload_n 1, 1) := by decide +kernel
theorem own_d_prog_7_method_2_code_6 : decode prog_7_method_2_code 6 = .ok (.getfield 9, 3) := by decide +kernel
theorem own_d_prog_7_method_2_code_9 : decode prog_7_method_2_code 9 = .ok (.putfield 9, 3) := by decide +kernel
theorem own_d_prog_7_method_2_code_12 : decode prog_7_method_2_code 12 = .ok (.aload_n 0, 1) := by decide +kernel
theorem own_d_prog_7_method_2_code_13 : decode prog_7_method_2_code 13 = .ok (.aload_n 1, 1) := by decide +kernel
theorem own_d_prog_7_method_2_code_14 : decode prog_7_method_2_code 14 = .ok (.getfield 13, 3) := by decide +kernel
theorem own_d_prog_7_method_2_code_17 : decode prog_7_method_2_code 17 = .ok (.putfield 13, 3) := by decide +kernel
theorem own_d_prog_7_method_2_code_20 : decode prog_7_method_2_code 20 = .ok (.aload_n 0, 1) := by decide +kernel
theorem own_d_prog_7_method_2_code_21 : decode prog_7_method_2_code 21 = .ok (.aload_n 1, 1) := by decide +kernel
theorem own_d_prog_7_method_2_code_22 : decode prog_7_method_2_code 22 = .ok (.getfield 16, 3) := by decide +kernel
theorem own_d_prog_7_method_2_code_25 : decode prog_7_method_2_code 25 = .ok (.putfield 16, 3) := by decide +kernel
theorem own_d_prog_7_method_2_code_28 : decode prog_7_method_2_code 28 = .ok (.aload_n 0, 1) := by decide +kernel
theorem own_d_prog_7_method_2_code_29 : decode prog_7_method_2_code 29 = .ok (.aload_n 1, 1) := by decide +kernel
theorem own_d_prog_7_method_2_code_30 : decode prog_7_method_2_code 30 = .ok (.getfield 20, 3) := by decide +kernel
theorem own_d_prog_7_method_2_code_33 : decode prog_7_method_2_code 33 = .ok (.putfield 20, 3) := by decide +kernel
theorem own_d_prog_7_method_2_code_36 : decode prog_7_method_2_code 36 = .ok (.aload_n 0, 1) := by decide +kernel
theorem own_d_prog_7_method_2_code_37 : decode prog_7_method_2_code 37 = .ok (.aload_n 1, 1) := by decide +kernel
theorem own_d_prog_7_method_2_code_38 : decode prog_7_method_2_code 38 = .ok (.getfield 24, 3) := by decide +kernel
theorem own_d_prog_7_method_2_code_41 : decode prog_7_method_2_code 41 = .ok (.putfield 24, 3) := by decide +kernel
theorem own_d_prog_7_method_2_code_44 : decode prog_7_method_2_code 44 = .ok (.aload_n 0, 1) := by decide +kernel
theorem own_d_prog_7_method_2_code_45 : decode prog_7_method_2_code 45 = .ok (.bipush 8, 2) := by decide +kernel
theorem own_d_prog_7_method_2_code_47 : decode prog_7_method_2_code 47 = .ok (.aload_n 0, 1) := by decide +kernel
theorem own_d_prog_7_method_2_code_48 : decode prog_7_method_2_code 48 = .ok (.invokevirtual 27, 3) := by decide +kernel
theorem own_d_prog_7_method_2_code_51 : decode prog_7_method_2_code 51 = .ok (.invokestatic 31, 3) := by decide +kernel
theorem own_d_prog_7_method_2_code_54 : decode prog_7_method_2_code 54 = .ok (.invokevirtual 37, 3) := by decide +kernel
theorem own_pd__I_V : parseMethodDescriptor "(I)V" = some ⟨[.int], none⟩ := by decide +kernel
theorem own_d_prog_7_method_2_code_57 : decode prog_7_method_2_code 57 = .ok (.return_, 1) := by decide +kernel
theorem own_ef_rmI2 (x0 : Addr) (x1 : Addr) (m : MethodId) : entryFrame m #[(.ref x0), (.ref x1)] 2 = mkF m 0 #[.val (.ref x0), .val (.ref x1)] [] := by first | (simp [entryFrame, mkF, argsToLocals, Value.category]; done) | rfl
set_option maxRecDepth 65536 in
set_option maxHeartbeats 40000000 in
theorem rmI2 (l : Launch) (Z : State) (a0 : Array Value) (hw : ∀ d ∈ tables_1, d.before a0 Z = true) (b a : Addr) (h0 : Heap) (n0 : Nat) (Z0 : n0 ≤ h0.size) (fi en : Int32) (fk : Nat → UInt64) (hD : Dq Z h0 a fi en fk n0) (E : Exa Z h0 b "com/example/stepwise_medians/stepwisemedians/engine/EntryDeque") (F_keys : Fld Z h0 b "com/example/stepwise_medians/stepwisemedians/engine/EntryDeque" "keys" "[D" .null) (F_values : Fld Z h0 b "com/example/stepwise_medians/stepwisemedians/engine/EntryDeque" "values" "[D" .null) (F_payloads : Fld Z h0 b "com/example/stepwise_medians/stepwisemedians/engine/EntryDeque" "payloads" "[I" .null) (F_first : Fld Z h0 b "com/example/stepwise_medians/stepwisemedians/engine/EntryDeque" "first" "I" (.int (0 : Int32))) (F_end : Fld Z h0 b "com/example/stepwise_medians/stepwisemedians/engine/EntryDeque" "end" "I" (.int (0 : Int32))) (ab : n0 ≤ b) (nba : b ≠ a) (hfi : 0 ≤ fi.toInt ∧ fi.toInt ≤ 3) (hsz : (en - fi).toInt ≤ 8) :
    OCon l Z (⟨"com/example/stepwise_medians/stepwisemedians/engine/EntryDeque", "<init>", "(Lcom/example/stepwise_medians/stepwisemedians/engine/EntryDeque;)V"⟩ : MethodName) prog_7_method_2_code 2 none ({ frames := 4, cells := 3, slots := 24, locals := 63 } : Room) #[(.ref b), (.ref a)] h0 (fun v h L => v = none ∧ Fr n0 L ∧ Dq Z h b 0 (en - fi) (own_sh fk fi.toInt.toNat) n0) := by
  refine OConK.intro (y := (⟨"com/example/stepwise_medians/stepwisemedians/engine/EntryDeque", "<init>", "(Lcom/example/stepwise_medians/stepwisemedians/engine/EntryDeque;)V"⟩ : MethodName)) (plainFor_of_name own_pn_com_example_stepwise_medians_stepwisemedians_engine_EntryDeque) (own_ef_rmI2 b a) ?_
  intro p e s m below meth c s₁ hx hby hml hown hnm hret hlk hZ X0 e0
  obtain ⟨k1, v2, q3, fv4, fp5, E6, F7, F8, F9, F10, F11, A12, A13, A14, E15, E16, E17, nn18, nn19, nn20, b21, b22, b23, b24⟩ := hD
  have nq25 := oNeA E6 (hw _ (List.mem_of_getElem? (i := 1) rfl)) A12
  have nq26 := oNeA E6 (hw _ (List.mem_of_getElem? (i := 1) rfl)) A13
  have nq27 := oNeA E6 (hw _ (List.mem_of_getElem? (i := 1) rfl)) A14
  have nq28 := oNeA E (hw _ (List.mem_of_getElem? (i := 1) rfl)) A12
  have nq29 := oNeA E (hw _ (List.mem_of_getElem? (i := 1) rfl)) A13
  have nq30 := oNeA E (hw _ (List.mem_of_getElem? (i := 1) rfl)) A14
  show OGoal p e below s _ _ _ (s₁.setTop (mkF m 0 #[.val (.ref b), .val (.ref a)] []))
  refine OGoal.mp (S' := (s₁.setTop (mkF m 1 #[.val (.ref b), .val (.ref a)] [(.ref b)]))) (fun _ k => XS.aloadN X0.here hx rfl (hb hby own_d_prog_7_method_2_code_0) rfl rfl k) ?_
  obtain ⟨T31, X32, e33, st34⟩ := initO X0 hx hZ hown (hw _ (List.mem_of_getElem? (i := 6) rfl)) (hw _ (List.mem_of_getElem? (i := 7) rfl)) (hw _ (List.mem_of_getElem? (i := 8) rfl)) e0 (g := mkF m 1 #[.val (.ref b), .val (.ref a)] [(.ref b)]) rfl (by rw [hml]; rfl) rfl (hb hby own_d_prog_7_method_2_code_1) (by decide) (W := 0) (by show 2 * 0 + _ ≤ _; exact Nat.le_of_eq rfl) (by decide)
  refine OGoal.mp (S' := (T31.setTop (mkF m 4 #[.val (.ref b), .val (.ref a)] []))) (fun _ k => st34 _ k) ?_
  refine OGoal.mp (S' := (T31.setTop (mkF m 5 #[.val (.ref b), .val (.ref a)] [(.ref b)]))) (fun _ k => XS.aloadN X32.here hx rfl (hb hby own_d_prog_7_method_2_code_4) rfl rfl k) ?_
  refine OGoal.mp (S' := (T31.setTop (mkF m 6 #[.val (.ref b), .val (.ref a)] [(.ref a), (.ref b)]))) (fun _ k => XS.aloadN X32.here hx rfl (hb hby own_d_prog_7_method_2_code_5) rfl rfl k) ?_
  obtain ⟨T35, X36, e37, st38⟩ := getF X32 hx hZ hown (host := "") (Or.inl (hw _ (List.mem_of_getElem? (i := 10) rfl))) Via.refl e33 F7 (g := mkF m 6 #[.val (.ref b), .val (.ref a)] [(.ref a), (.ref b)]) rfl rfl (hb hby own_d_prog_7_method_2_code_6)
  refine OGoal.mp (S' := (T35.setTop (mkF m 9 #[.val (.ref b), .val (.ref a)] [(.ref k1), (.ref b)]))) (fun _ k => st38 _ k) ?_
  obtain ⟨T39, h43, X40, e41, W44, st42⟩ := putF X36 hx hZ hown (host := "") (Or.inl (hw _ (List.mem_of_getElem? (i := 10) rfl))) Via.refl e37 F_keys E (Or.inl (hw _ (List.mem_of_getElem? (i := 11) rfl))) (hw _ (List.mem_of_getElem? (i := 1) rfl)) (ty := (.array .double)) (by decide) rfl rfl (g := mkF m 9 #[.val (.ref b), .val (.ref a)] [(.ref k1), (.ref b)]) rfl rfl (hb hby own_d_prog_7_method_2_code_9)
  have N45 := Fr.snoc X40 (Fr.nil n0) ab
  have Z46 : n0 ≤ h43.size := Nat.le_trans Z0 (Keep.of_wr W44).1
  have F47 := E6.wr W44
  have F48 := F7.other W44 (Or.inl nba.symm)
  have F49 := F8.other W44 (Or.inl nba.symm)
  have F50 := F9.other W44 (Or.inl nba.symm)
  have F51 := F10.other W44 (Or.inl nba.symm)
  have F52 := F11.other W44 (Or.inl nba.symm)
  have F53 := A12.other W44 nq28.symm
  have F54 := E15.wr W44
  have F55 := A13.other W44 nq29.symm
  have F56 := E16.wr W44
  have F57 := A14.other W44 nq30.symm
  have F58 := E17.wr W44
  have F59 := E.wr W44
  have F60 := F_keys.same W44
  have F61 := F_values.other W44 (Or.inr (slot_ne (a0 := a0) (C := "com/example/stepwise_medians/stepwisemedians/engine/EntryDeque") (t := (.array .double)) (t' := (.array .double)) (Or.inl (hw _ (List.mem_of_getElem? (i := 13) rfl))) (Or.inl (hw _ (List.mem_of_getElem? (i := 11) rfl))) (by decide) (by decide) (by decide)))
  have F62 := F_payloads.other W44 (Or.inr (slot_ne (a0 := a0) (C := "com/example/stepwise_medians/stepwisemedians/engine/EntryDeque") (t := (.array .int)) (t' := (.array .double)) (Or.inl (hw _ (List.mem_of_getElem? (i := 16) rfl))) (Or.inl (hw _ (List.mem_of_getElem? (i := 11) rfl))) (by decide) (by decide) (by decide)))
  have F63 := F_first.other W44 (Or.inr (slot_ne (a0 := a0) (C := "com/example/stepwise_medians/stepwisemedians/engine/EntryDeque") (t := .int) (t' := (.array .double)) (Or.inl (hw _ (List.mem_of_getElem? (i := 30) rfl))) (Or.inl (hw _ (List.mem_of_getElem? (i := 11) rfl))) (by decide) (by decide) (by decide)))
  have F64 := F_end.other W44 (Or.inr (slot_ne (a0 := a0) (C := "com/example/stepwise_medians/stepwisemedians/engine/EntryDeque") (t := .int) (t' := (.array .double)) (Or.inl (hw _ (List.mem_of_getElem? (i := 23) rfl))) (Or.inl (hw _ (List.mem_of_getElem? (i := 11) rfl))) (by decide) (by decide) (by decide)))
  refine OGoal.mp (S' := (T39.setTop (mkF m 12 #[.val (.ref b), .val (.ref a)] []))) (fun _ k => st42 _ k) ?_
  refine OGoal.mp (S' := (T39.setTop (mkF m 13 #[.val (.ref b), .val (.ref a)] [(.ref b)]))) (fun _ k => XS.aloadN X40.here hx rfl (hb hby own_d_prog_7_method_2_code_12) rfl rfl k) ?_
  refine OGoal.mp (S' := (T39.setTop (mkF m 14 #[.val (.ref b), .val (.ref a)] [(.ref a), (.ref b)]))) (fun _ k => XS.aloadN X40.here hx rfl (hb hby own_d_prog_7_method_2_code_13) rfl rfl k) ?_
  obtain ⟨T65, X66, e67, st68⟩ := getF X40 hx hZ hown (host := "") (Or.inl (hw _ (List.mem_of_getElem? (i := 12) rfl))) Via.refl e41 F49 (g := mkF m 14 #[.val (.ref b), .val (.ref a)] [(.ref a), (.ref b)]) rfl rfl (hb hby own_d_prog_7_method_2_code_14)
  refine OGoal.mp (S' := (T65.setTop (mkF m 17 #[.val (.ref b), .val (.ref a)] [(.ref v2), (.ref b)]))) (fun _ k => st68 _ k) ?_
  obtain ⟨T69, h73, X70, e71, W74, st72⟩ := putF X66 hx hZ hown (host := "") (Or.inl (hw _ (List.mem_of_getElem? (i := 12) rfl))) Via.refl e67 F61 F59 (Or.inl (hw _ (List.mem_of_getElem? (i := 13) rfl))) (hw _ (List.mem_of_getElem? (i := 1) rfl)) (ty := (.array .double)) (by decide) rfl rfl (g := mkF m 17 #[.val (.ref b), .val (.ref a)] [(.ref v2), (.ref b)]) rfl rfl (hb hby own_d_prog_7_method_2_code_17)
  have N75 := Fr.snoc X70 N45 ab
  have Z76 : n0 ≤ h73.size := Nat.le_trans Z46 (Keep.of_wr W74).1
  have F77 := F47.wr W74
  have F78 := F48.other W74 (Or.inl nba.symm)
  have F79 := F49.other W74 (Or.inl nba.symm)
  have F80 := F50.other W74 (Or.inl nba.symm)
  have F81 := F51.other W74 (Or.inl nba.symm)
  have F82 := F52.other W74 (Or.inl nba.symm)
  have F83 := F53.other W74 nq28.symm
  have F84 := F54.wr W74
  have F85 := F55.other W74 nq29.symm
  have F86 := F56.wr W74
  have F87 := F57.other W74 nq30.symm
  have F88 := F58.wr W74
  have F89 := F59.wr W74
  have F90 := F60.other W74 (Or.inr (slot_ne (a0 := a0) (C := "com/example/stepwise_medians/stepwisemedians/engine/EntryDeque") (t := (.array .double)) (t' := (.array .double)) (Or.inl (hw _ (List.mem_of_getElem? (i := 11) rfl))) (Or.inl (hw _ (List.mem_of_getElem? (i := 13) rfl))) (by decide) (by decide) (by decide)))
  have F91 := F61.same W74
  have F92 := F62.other W74 (Or.inr (slot_ne (a0 := a0) (C := "com/example/stepwise_medians/stepwisemedians/engine/EntryDeque") (t := (.array .int)) (t' := (.array .double)) (Or.inl (hw _ (List.mem_of_getElem? (i := 16) rfl))) (Or.inl (hw _ (List.mem_of_getElem? (i := 13) rfl))) (by decide) (by decide) (by decide)))
  have F93 := F63.other W74 (Or.inr (slot_ne (a0 := a0) (C := "com/example/stepwise_medians/stepwisemedians/engine/EntryDeque") (t := .int) (t' := (.array .double)) (Or.inl (hw _ (List.mem_of_getElem? (i := 30) rfl))) (Or.inl (hw _ (List.mem_of_getElem? (i := 13) rfl))) (by decide) (by decide) (by decide)))
  have F94 := F64.other W74 (Or.inr (slot_ne (a0 := a0) (C := "com/example/stepwise_medians/stepwisemedians/engine/EntryDeque") (t := .int) (t' := (.array .double)) (Or.inl (hw _ (List.mem_of_getElem? (i := 23) rfl))) (Or.inl (hw _ (List.mem_of_getElem? (i := 13) rfl))) (by decide) (by decide) (by decide)))
  refine OGoal.mp (S' := (T69.setTop (mkF m 20 #[.val (.ref b), .val (.ref a)] []))) (fun _ k => st72 _ k) ?_
  refine OGoal.mp (S' := (T69.setTop (mkF m 21 #[.val (.ref b), .val (.ref a)] [(.ref b)]))) (fun _ k => XS.aloadN X70.here hx rfl (hb hby own_d_prog_7_method_2_code_20) rfl rfl k) ?_
  refine OGoal.mp (S' := (T69.setTop (mkF m 22 #[.val (.ref b), .val (.ref a)] [(.ref a), (.ref b)]))) (fun _ k => XS.aloadN X70.here hx rfl (hb hby own_d_prog_7_method_2_code_21) rfl rfl k) ?_
  obtain ⟨T95, X96, e97, st98⟩ := getF X70 hx hZ hown (host := "") (Or.inl (hw _ (List.mem_of_getElem? (i := 15) rfl))) Via.refl e71 F80 (g := mkF m 22 #[.val (.ref b), .val (.ref a)] [(.ref a), (.ref b)]) rfl rfl (hb hby own_d_prog_7_method_2_code_22)
  refine OGoal.mp (S' := (T95.setTop (mkF m 25 #[.val (.ref b), .val (.ref a)] [(.ref q3), (.ref b)]))) (fun _ k => st98 _ k) ?_
  obtain ⟨T99, h103, X100, e101, W104, st102⟩ := putF X96 hx hZ hown (host := "") (Or.inl (hw _ (List.mem_of_getElem? (i := 15) rfl))) Via.refl e97 F92 F89 (Or.inl (hw _ (List.mem_of_getElem? (i := 16) rfl))) (hw _ (List.mem_of_getElem? (i := 1) rfl)) (ty := (.array .int)) (by decide) rfl rfl (g := mkF m 25 #[.val (.ref b), .val (.ref a)] [(.ref q3), (.ref b)]) rfl rfl (hb hby own_d_prog_7_method_2_code_25)
  have N105 := Fr.snoc X100 N75 ab
  have Z106 : n0 ≤ h103.size := Nat.le_trans Z76 (Keep.of_wr W104).1
  have F107 := F77.wr W104
  have F108 := F78.other W104 (Or.inl nba.symm)
  have F109 := F79.other W104 (Or.inl nba.symm)
  have F110 := F80.other W104 (Or.inl nba.symm)
  have F111 := F81.other W104 (Or.inl nba.symm)
  have F112 := F82.other W104 (Or.inl nba.symm)
  have F113 := F83.other W104 nq28.symm
  have F114 := F84.wr W104
  have F115 := F85.other W104 nq29.symm
  have F116 := F86.wr W104
  have F117 := F87.other W104 nq30.symm
  have F118 := F88.wr W104
  have F119 := F89.wr W104
  have F120 := F90.other W104 (Or.inr (slot_ne (a0 := a0) (C := "com/example/stepwise_medians/stepwisemedians/engine/EntryDeque") (t := (.array .double)) (t' := (.array .int)) (Or.inl (hw _ (List.mem_of_getElem? (i := 11) rfl))) (Or.inl (hw _ (List.mem_of_getElem? (i := 16) rfl))) (by decide) (by decide) (by decide)))
  have F121 := F91.other W104 (Or.inr (slot_ne (a0 := a0) (C := "com/example/stepwise_medians/stepwisemedians/engine/EntryDeque") (t := (.array .double)) (t' := (.array .int)) (Or.inl (hw _ (List.mem_of_getElem? (i := 13) rfl))) (Or.inl (hw _ (List.mem_of_getElem? (i := 16) rfl))) (by decide) (by decide) (by decide)))
  have F122 := F92.same W104
  have F123 := F93.other W104 (Or.inr (slot_ne (a0 := a0) (C := "com/example/stepwise_medians/stepwisemedians/engine/EntryDeque") (t := .int) (t' := (.array .int)) (Or.inl (hw _ (List.mem_of_getElem? (i := 30) rfl))) (Or.inl (hw _ (List.mem_of_getElem? (i := 16) rfl))) (by decide) (by decide) (by decide)))
  have F124 := F94.other W104 (Or.inr (slot_ne (a0 := a0) (C := "com/example/stepwise_medians/stepwisemedians/engine/EntryDeque") (t := .int) (t' := (.array .int)) (Or.inl (hw _ (List.mem_of_getElem? (i := 23) rfl))) (Or.inl (hw _ (List.mem_of_getElem? (i := 16) rfl))) (by decide) (by decide) (by decide)))
  refine OGoal.mp (S' := (T99.setTop (mkF m 28 #[.val (.ref b), .val (.ref a)] []))) (fun _ k => st102 _ k) ?_
  refine OGoal.mp (S' := (T99.setTop (mkF m 29 #[.val (.ref b), .val (.ref a)] [(.ref b)]))) (fun _ k => XS.aloadN X100.here hx rfl (hb hby own_d_prog_7_method_2_code_28) rfl rfl k) ?_
  refine OGoal.mp (S' := (T99.setTop (mkF m 30 #[.val (.ref b), .val (.ref a)] [(.ref a), (.ref b)]))) (fun _ k => XS.aloadN X100.here hx rfl (hb hby own_d_prog_7_method_2_code_29) rfl rfl k) ?_
  obtain ⟨T125, X126, e127, st128⟩ := getF X100 hx hZ hown (host := "") (Or.inl (hw _ (List.mem_of_getElem? (i := 29) rfl))) Via.refl e101 F111 (g := mkF m 30 #[.val (.ref b), .val (.ref a)] [(.ref a), (.ref b)]) rfl rfl (hb hby own_d_prog_7_method_2_code_30)
  refine OGoal.mp (S' := (T125.setTop (mkF m 33 #[.val (.ref b), .val (.ref a)] [(.int fi), (.ref b)]))) (fun _ k => st128 _ k) ?_
  obtain ⟨T129, h133, X130, e131, W134, st132⟩ := putF X126 hx hZ hown (host := "") (Or.inl (hw _ (List.mem_of_getElem? (i := 29) rfl))) Via.refl e127 F123 F119 (Or.inl (hw _ (List.mem_of_getElem? (i := 30) rfl))) (hw _ (List.mem_of_getElem? (i := 1) rfl)) (ty := .int) (by decide) rfl rfl (g := mkF m 33 #[.val (.ref b), .val (.ref a)] [(.int fi), (.ref b)]) rfl rfl (hb hby own_d_prog_7_method_2_code_33)
  have N135 := Fr.snoc X130 N105 ab
  have Z136 : n0 ≤ h133.size := Nat.le_trans Z106 (Keep.of_wr W134).1
  have F137 := F107.wr W134
  have F138 := F108.other W134 (Or.inl nba.symm)
  have F139 := F109.other W134 (Or.inl nba.symm)
  have F140 := F110.other W134 (Or.inl nba.symm)
  have F141 := F111.other W134 (Or.inl nba.symm)
  have F142 := F112.other W134 (Or.inl nba.symm)
  have F143 := F113.other W134 nq28.symm
  have F144 := F114.wr W134
  have F145 := F115.other W134 nq29.symm
  have F146 := F116.wr W134
  have F147 := F117.other W134 nq30.symm
  have F148 := F118.wr W134
  have F149 := F119.wr W134
  have F150 := F120.other W134 (Or.inr (slot_ne (a0 := a0) (C := "com/example/stepwise_medians/stepwisemedians/engine/EntryDeque") (t := (.array .double)) (t' := .int) (Or.inl (hw _ (List.mem_of_getElem? (i := 11) rfl))) (Or.inl (hw _ (List.mem_of_getElem? (i := 30) rfl))) (by decide) (by decide) (by decide)))
  have F151 := F121.other W134 (Or.inr (slot_ne (a0 := a0) (C := "com/example/stepwise_medians/stepwisemedians/engine/EntryDeque") (t := (.array .double)) (t' := .int) (Or.inl (hw _ (List.mem_of_getElem? (i := 13) rfl))) (Or.inl (hw _ (List.mem_of_getElem? (i := 30) rfl))) (by decide) (by decide) (by decide)))
  have F152 := F122.other W134 (Or.inr (slot_ne (a0 := a0) (C := "com/example/stepwise_medians/stepwisemedians/engine/EntryDeque") (t := (.array .int)) (t' := .int) (Or.inl (hw _ (List.mem_of_getElem? (i := 16) rfl))) (Or.inl (hw _ (List.mem_of_getElem? (i := 30) rfl))) (by decide) (by decide) (by decide)))
  have F153 := F123.same W134
  have F154 := F124.other W134 (Or.inr (slot_ne (a0 := a0) (C := "com/example/stepwise_medians/stepwisemedians/engine/EntryDeque") (t := .int) (t' := .int) (Or.inl (hw _ (List.mem_of_getElem? (i := 23) rfl))) (Or.inl (hw _ (List.mem_of_getElem? (i := 30) rfl))) (by decide) (by decide) (by decide)))
  refine OGoal.mp (S' := (T129.setTop (mkF m 36 #[.val (.ref b), .val (.ref a)] []))) (fun _ k => st132 _ k) ?_
  refine OGoal.mp (S' := (T129.setTop (mkF m 37 #[.val (.ref b), .val (.ref a)] [(.ref b)]))) (fun _ k => XS.aloadN X130.here hx rfl (hb hby own_d_prog_7_method_2_code_36) rfl rfl k) ?_
  refine OGoal.mp (S' := (T129.setTop (mkF m 38 #[.val (.ref b), .val (.ref a)] [(.ref a), (.ref b)]))) (fun _ k => XS.aloadN X130.here hx rfl (hb hby own_d_prog_7_method_2_code_37) rfl rfl k) ?_
  obtain ⟨T155, X156, e157, st158⟩ := getF X130 hx hZ hown (host := "") (Or.inl (hw _ (List.mem_of_getElem? (i := 22) rfl))) Via.refl e131 F142 (g := mkF m 38 #[.val (.ref b), .val (.ref a)] [(.ref a), (.ref b)]) rfl rfl (hb hby own_d_prog_7_method_2_code_38)
  refine OGoal.mp (S' := (T155.setTop (mkF m 41 #[.val (.ref b), .val (.ref a)] [(.int en), (.ref b)]))) (fun _ k => st158 _ k) ?_
  obtain ⟨T159, h163, X160, e161, W164, st162⟩ := putF X156 hx hZ hown (host := "") (Or.inl (hw _ (List.mem_of_getElem? (i := 22) rfl))) Via.refl e157 F154 F149 (Or.inl (hw _ (List.mem_of_getElem? (i := 23) rfl))) (hw _ (List.mem_of_getElem? (i := 1) rfl)) (ty := .int) (by decide) rfl rfl (g := mkF m 41 #[.val (.ref b), .val (.ref a)] [(.int en), (.ref b)]) rfl rfl (hb hby own_d_prog_7_method_2_code_41)
  have N165 := Fr.snoc X160 N135 ab
  have Z166 : n0 ≤ h163.size := Nat.le_trans Z136 (Keep.of_wr W164).1
  have F167 := F137.wr W164
  have F168 := F138.other W164 (Or.inl nba.symm)
  have F169 := F139.other W164 (Or.inl nba.symm)
  have F170 := F140.other W164 (Or.inl nba.symm)
  have F171 := F141.other W164 (Or.inl nba.symm)
  have F172 := F142.other W164 (Or.inl nba.symm)
  have F173 := F143.other W164 nq28.symm
  have F174 := F144.wr W164
  have F175 := F145.other W164 nq29.symm
  have F176 := F146.wr W164
  have F177 := F147.other W164 nq30.symm
  have F178 := F148.wr W164
  have F179 := F149.wr W164
  have F180 := F150.other W164 (Or.inr (slot_ne (a0 := a0) (C := "com/example/stepwise_medians/stepwisemedians/engine/EntryDeque") (t := (.array .double)) (t' := .int) (Or.inl (hw _ (List.mem_of_getElem? (i := 11) rfl))) (Or.inl (hw _ (List.mem_of_getElem? (i := 23) rfl))) (by decide) (by decide) (by decide)))
  have F181 := F151.other W164 (Or.inr (slot_ne (a0 := a0) (C := "com/example/stepwise_medians/stepwisemedians/engine/EntryDeque") (t := (.array .double)) (t' := .int) (Or.inl (hw _ (List.mem_of_getElem? (i := 13) rfl))) (Or.inl (hw _ (List.mem_of_getElem? (i := 23) rfl))) (by decide) (by decide) (by decide)))
  have F182 := F152.other W164 (Or.inr (slot_ne (a0 := a0) (C := "com/example/stepwise_medians/stepwisemedians/engine/EntryDeque") (t := (.array .int)) (t' := .int) (Or.inl (hw _ (List.mem_of_getElem? (i := 16) rfl))) (Or.inl (hw _ (List.mem_of_getElem? (i := 23) rfl))) (by decide) (by decide) (by decide)))
  have F183 := F153.other W164 (Or.inr (slot_ne (a0 := a0) (C := "com/example/stepwise_medians/stepwisemedians/engine/EntryDeque") (t := .int) (t' := .int) (Or.inl (hw _ (List.mem_of_getElem? (i := 30) rfl))) (Or.inl (hw _ (List.mem_of_getElem? (i := 23) rfl))) (by decide) (by decide) (by decide)))
  have F184 := F154.same W164
  refine OGoal.mp (S' := (T159.setTop (mkF m 44 #[.val (.ref b), .val (.ref a)] []))) (fun _ k => st162 _ k) ?_
  refine OGoal.mp (S' := (T159.setTop (mkF m 45 #[.val (.ref b), .val (.ref a)] [(.ref b)]))) (fun _ k => XS.aloadN X160.here hx rfl (hb hby own_d_prog_7_method_2_code_44) rfl rfl k) ?_
  refine OGoal.mp (S' := (T159.setTop (mkF m 47 #[.val (.ref b), .val (.ref a)] [(.int (8 : Int32)), (.ref b)]))) (fun _ k => XS.bipush X160.here hx rfl (hb hby own_d_prog_7_method_2_code_45) k) ?_
  refine OGoal.mp (S' := (T159.setTop (mkF m 48 #[.val (.ref b), .val (.ref a)] [(.ref b), (.int (8 : Int32)), (.ref b)]))) (fun _ k => XS.aloadN X160.here hx rfl (hb hby own_d_prog_7_method_2_code_47) rfl rfl k) ?_
  refine oCallV (y := (⟨"com/example/stepwise_medians/stepwisemedians/engine/EntryDeque", "size", "()I"⟩ : MethodName)) (z := (⟨"com/example/stepwise_medians/stepwisemedians/engine/EntryDeque", "size", "()I"⟩ : MethodName)) X160 hx hZ hown (hw _ (List.mem_of_getElem? (i := 45) rfl)) (hw _ (List.mem_of_getElem? (i := 46) rfl)) (hw _ (List.mem_of_getElem? (i := 48) rfl)) (hw _ (List.mem_of_getElem? (i := 47) rfl)) (hw _ (List.mem_of_getElem? (i := 2) rfl)) (hw _ (List.mem_of_getElem? (i := 49) rfl)) (by decide) (rmSz l Z a0 hw b h163 n0 Z166 fi en F183 F184) e161 F179 [] [(.int (8 : Int32)), (.ref b)] rfl rfl (by rw [hml]; rfl) (notFace_of_selects (args := #[]) (mvT hZ (hw _ (List.mem_of_getElem? (i := 48) rfl)))) (lenOf own_pd___I rfl) 2 (Nat.le_of_eq rfl) (by decide) (by decide) (by decide) (by decide) (hb hby own_d_prog_7_method_2_code_48) ?_
  intro v185 T186 L187 X188 q189
  obtain ⟨rfl, N190, e191⟩ := q189
  have N192 := Fr.app N165 N190
  show OGoal p e below s _ _ _ (T186.setTop (mkF m 51 #[.val (.ref b), .val (.ref a)] [(.int (en - fi)), (.int (8 : Int32)), (.ref b)]))
  refine oCallS (y := (⟨"java/lang/Math", "max", "(II)I"⟩ : MethodName)) X188 hx hZ hown (hw _ (List.mem_of_getElem? (i := 50) rfl)) (hw _ (List.mem_of_getElem? (i := 51) rfl)) (hw _ (List.mem_of_getElem? (i := 52) rfl)) (hw _ (List.mem_of_getElem? (i := 53) rfl)) (by decide) (rmMax l Z a0 hw (8 : Int32) (en - fi) h163 n0 Z166 (by rw [own_8]; exact hsz)) e191 [(.int (8 : Int32)), (.int (en - fi))] [(.ref b)] rfl rfl (by rw [hml]; rfl) (lenOf own_pd__II_I rfl) 1 (Nat.le_of_eq rfl) (by decide) (by decide) (by decide) (by decide) (hb hby own_d_prog_7_method_2_code_51) ?_
  intro v193 T194 L195 X196 q197
  obtain ⟨rfl, N198, e199⟩ := q197
  have N200 := Fr.app N192 N198
  show OGoal p e below s _ _ _ (T194.setTop (mkF m 54 #[.val (.ref b), .val (.ref a)] [(.int (8 : Int32)), (.ref b)]))
  refine oCallP (y := (⟨"com/example/stepwise_medians/stepwisemedians/engine/EntryDeque", "moveEntriesTo", "(I)V"⟩ : MethodName)) X196 hx hZ hown (hw _ (List.mem_of_getElem? (i := 54) rfl)) (hw _ (List.mem_of_getElem? (i := 1) rfl)) (hw _ (List.mem_of_getElem? (i := 55) rfl)) (hw _ (List.mem_of_getElem? (i := 56) rfl)) (hw _ (List.mem_of_getElem? (i := 2) rfl)) (hw _ (List.mem_of_getElem? (i := 57) rfl)) (by decide) (rmMv l Z a0 hw b h163 n0 Z166 fi en fk ⟨k1, v2, q3, fv4, fp5, F179, F180, F181, F182, F183, F184, F173, F175, F177, F174, F176, F178, nn18, nn19, nn20, ab, b22, b23, b24⟩ hfi) e199 F179 [(.int (8 : Int32))] [] rfl rfl (by rw [hml]; rfl) (lenOf own_pd__I_V rfl) 0 (Nat.le_of_eq rfl) (by decide) (by decide) (by decide) (by decide) (hb hby own_d_prog_7_method_2_code_54) ?_
  intro v201 T202 L203 X204 q205
  obtain ⟨rfl, N206, Dq207⟩ := q205
  have N208 := Fr.app N200 N206
  have Z209 := Dq207.sz.1
  show OGoal p e below s _ _ _ (T202.setTop (mkF m 57 #[.val (.ref b), .val (.ref a)] []))
  refine oRetV X204 hx hlk hret (hb hby own_d_prog_7_method_2_code_57) ?_ (by decide) (by decide)
  exact ⟨rfl, N208, Dq207⟩
theorem own_d_prog_7_method_3_code_0 : decode prog_7_method_3_code 0 = .ok (.new 7, 3) := by decide +kernel
theorem own_d_prog_7_method_3_code_3 : decode prog_7_method_3_code 3 = .ok (.dup, 1) := by decide +kernel
theorem own_d_prog_7_method_3_code_4 : decode prog_7_method_3_code 4 = .ok (.aload_n 0, 1) := by decide +kernel
theorem own_d_prog_7_method_3_code_5 : decode prog_7_method_3_code 5 = .ok (.invokespecial 41, 3) := by decide +kernel
theorem own_pd__Lcom_example_stepwise_medians_stepwisemedians_engine_EntryDeque__V : parseMethodDescriptor "(Lcom/example/stepwise_medians/stepwisemedians/engine/EntryDeque;)V" = some ⟨[(.object "com/example/stepwise_medians/stepwisemedians/engine/EntryDeque")], none⟩ := by decide +kernel
theorem own_d_prog_7_method_3_code_8 : decode prog_7_method_3_code 8 = .ok (.areturn, 1) := by decide +kernel
theorem own_ef_rmCp (x0 : Addr) (m : MethodId) : entryFrame m #[(.ref x0)] 1 = mkF m 0 #[.val (.ref x0)] [] := by first | (simp [entryFrame, mkF, argsToLocals, Value.category]; done) | rfl
set_option maxRecDepth 65536 in
set_option maxHeartbeats 40000000 in
theorem rmCp (l : Launch) (Z : State) (a0 : Array Value) (hw : ∀ d ∈ tables_1, d.before a0 Z = true) (a : Addr) (h0 : Heap) (n0 : Nat) (Z0 : n0 ≤ h0.size) (fi en : Int32) (fk : Nat → UInt64) (hD : Dq Z h0 a fi en fk n0) (hfi : 0 ≤ fi.toInt ∧ fi.toInt ≤ 3) (hsz : (en - fi).toInt ≤ 8) :
    OCon l Z (⟨"com/example/stepwise_medians/stepwisemedians/engine/EntryDeque", "copy", "()Lcom/example/stepwise_medians/stepwisemedians/engine/EntryDeque;"⟩ : MethodName) prog_7_method_3_code 1 (some (.object "com/example/stepwise_medians/stepwisemedians/engine/EntryDeque")) ({ frames := 5, cells := 4, slots := 29, locals := 77 } : Room) #[(.ref a)] h0 (fun v h L => ∃ b, v = some (.ref b) ∧ Fr n0 L ∧ Dq Z h b 0 (en - fi) (own_sh fk fi.toInt.toNat) n0) := by
  refine OConK.intro (y := (⟨"com/example/stepwise_medians/stepwisemedians/engine/EntryDeque", "copy", "()Lcom/example/stepwise_medians/stepwisemedians/engine/EntryDeque;"⟩ : MethodName)) (plainFor_of_name own_pn_com_example_stepwise_medians_stepwisemedians_engine_EntryDeque) (own_ef_rmCp a) ?_
  intro p e s m below meth c s₁ hx hby hml hown hnm hret hlk hZ X0 e0
  obtain ⟨k1, v2, q3, fv4, fp5, E6, F7, F8, F9, F10, F11, A12, A13, A14, E15, E16, E17, nn18, nn19, nn20, b21, b22, b23, b24⟩ := hD
  have nq25 := oNeA E6 (hw _ (List.mem_of_getElem? (i := 1) rfl)) A12
  have nq26 := oNeA E6 (hw _ (List.mem_of_getElem? (i := 1) rfl)) A13
  have nq27 := oNeA E6 (hw _ (List.mem_of_getElem? (i := 1) rfl)) A14
  show OGoal p e below s _ _ _ (s₁.setTop (mkF m 0 #[.val (.ref a)] []))
  obtain ⟨T28, h32, X29, e30, E33, A34, D35, -, st31⟩ := newO X0 hx hZ hown (hw _ (List.mem_of_getElem? (i := 41) rfl)) (hw _ (List.mem_of_getElem? (i := 1) rfl)) (hw _ (List.mem_of_getElem? (i := 2) rfl)) e0 (g := mkF m 0 #[.val (.ref a)] []) rfl (hb hby own_d_prog_7_method_3_code_0) (by decide) (by decide)
  obtain ⟨a36, g37⟩ : ∃ z, z = h0.size := ⟨_, rfl⟩
  rw [← g37] at A34 D35 st31
  have lt38 : a < a36 := by rw [g37]; exact E6.lt
  have lt39 : k1 < a36 := by rw [g37]; exact A12.lt
  have lt40 : v2 < a36 := by rw [g37]; exact A13.lt
  have lt41 : q3 < a36 := by rw [g37]; exact A14.lt
  have F42 := E6.ext E33
  have F43 := F7.ext E33
  have F44 := F8.ext E33
  have F45 := F9.ext E33
  have F46 := F10.ext E33
  have F47 := F11.ext E33
  have F48 := A12.ext E33
  have F49 := E15.ext E33
  have F50 := A13.ext E33
  have F51 := E16.ext E33
  have F52 := A14.ext E33
  have F53 := E17.ext E33
  have F54 : Fld Z h32 a36 "com/example/stepwise_medians/stepwisemedians/engine/EntryDeque" "keys" "[D" .null := D35 (Or.inl (hw _ (List.mem_of_getElem? (i := 11) rfl))) (ty := (.array .double)) (by decide)
  have F55 : Fld Z h32 a36 "com/example/stepwise_medians/stepwisemedians/engine/EntryDeque" "values" "[D" .null := D35 (Or.inl (hw _ (List.mem_of_getElem? (i := 13) rfl))) (ty := (.array .double)) (by decide)
  have F56 : Fld Z h32 a36 "com/example/stepwise_medians/stepwisemedians/engine/EntryDeque" "payloads" "[I" .null := D35 (Or.inl (hw _ (List.mem_of_getElem? (i := 16) rfl))) (ty := (.array .int)) (by decide)
  have F57 : Fld Z h32 a36 "com/example/stepwise_medians/stepwisemedians/engine/EntryDeque" "end" "I" (.int (0 : Int32)) := D35 (Or.inl (hw _ (List.mem_of_getElem? (i := 23) rfl))) (ty := .int) (by decide)
  have F58 : Fld Z h32 a36 "com/example/stepwise_medians/stepwisemedians/engine/EntryDeque" "first" "I" (.int (0 : Int32)) := D35 (Or.inl (hw _ (List.mem_of_getElem? (i := 30) rfl))) (ty := .int) (by decide)
  have Z59 : n0 ≤ h32.size := Nat.le_trans Z0 E33.1
  have ab60 : n0 ≤ a36 := Nat.le_trans Z0 (Nat.le_of_eq g37.symm)
  refine OGoal.mp (S' := (T28.setTop (mkF m 3 #[.val (.ref a)] [(.ref a36)]))) (fun _ k => st31 _ k) ?_
  refine OGoal.mp (S' := (T28.setTop (mkF m 4 #[.val (.ref a)] [(.ref a36), (.ref a36)]))) (fun _ k => XS.dup X29.here hx rfl (hb hby own_d_prog_7_method_3_code_3) rfl rfl k) ?_
  refine OGoal.mp (S' := (T28.setTop (mkF m 5 #[.val (.ref a)] [(.ref a), (.ref a36), (.ref a36)]))) (fun _ k => XS.aloadN X29.here hx rfl (hb hby own_d_prog_7_method_3_code_4) rfl rfl k) ?_
  refine oCallN (y := (⟨"com/example/stepwise_medians/stepwisemedians/engine/EntryDeque", "<init>", "(Lcom/example/stepwise_medians/stepwisemedians/engine/EntryDeque;)V"⟩ : MethodName)) X29 hx hZ rfl hown (hw _ (List.mem_of_getElem? (i := 42) rfl)) (hw _ (List.mem_of_getElem? (i := 43) rfl)) (hw _ (List.mem_of_getElem? (i := 2) rfl)) (hw _ (List.mem_of_getElem? (i := 44) rfl)) (by decide) (rmI2 l Z a0 hw a36 a h32 n0 Z59 fi en fk ⟨k1, v2, q3, fv4, fp5, F42, F43, F44, F45, F46, F47, F48, F50, F52, F49, F51, F53, nn18, nn19, nn20, b21, b22, b23, b24⟩ A34 F54 F55 F56 F58 F57 ab60 (Nat.ne_of_gt lt38) hfi hsz) e30 [(.ref a)] [(.ref a36)] rfl rfl (by rw [hml]; rfl) (lenOf own_pd__Lcom_example_stepwise_medians_stepwisemedians_engine_EntryDeque__V rfl) 1 (Nat.le_of_eq rfl) (by decide) (by decide) (by decide) (by decide) (hb hby own_d_prog_7_method_3_code_5) ?_
  intro v61 T62 L63 X64 q65
  obtain ⟨rfl, N66, Dq67⟩ := q65
  have N68 := Fr.app (Fr.nil n0) N66
  have Z69 := Dq67.sz.1
  show OGoal p e below s _ _ _ (T62.setTop (mkF m 8 #[.val (.ref a)] [(.ref a36)]))
  refine oRetA X64 hx hlk hret rfl rfl (hb hby own_d_prog_7_method_3_code_8) ?_ (by decide) (by decide)
  exact ⟨_, rfl, N68, Dq67⟩
theorem own_pd___V : parseMethodDescriptor "()V" = some ⟨[], none⟩ := by decide +kernel
theorem own_pd__DDI_V : parseMethodDescriptor "(DDI)V" = some ⟨[.double, .double, .int], none⟩ := by decide +kernel
theorem own_pd__I_D : parseMethodDescriptor "(I)D" = some ⟨[.int], some .double⟩ := by decide +kernel
theorem own_pd___Lcom_example_stepwise_medians_stepwisemedians_engine_EntryDeque_ : parseMethodDescriptor "()Lcom/example/stepwise_medians/stepwisemedians/engine/EntryDeque;" = some ⟨[], some (.object "com/example/stepwise_medians/stepwisemedians/engine/EntryDeque")⟩ := by decide +kernel
theorem own_pn_com_example_stepwise_medians_stepwisemedians_engine_EntryDequeKeyPinLaw : plainName "com/example/stepwise_medians/stepwisemedians/engine/EntryDequeKeyPinLaw" = true := by first | (simp [plainName, overriddenIn]; done) | decide +kernel
theorem own_ef_rm0 (x0 : Int32) (x1 : Int32) (x2 : Int32) (x3 : Int32) (x4 : Int32) (x5 : Int32) (m : MethodId) : entryFrame m #[(.int x0), (.int x1), (.int x2), (.int x3), (.int x4), (.int x5)] maxLocals = mkF m 0 #[.val (.int x0), .val (.int x1), .val (.int x2), .val (.int x3), .val (.int x4), .val (.int x5), .unset, .unset, .unset, .unset, .unset, .unset] [] := by first | (simp [entryFrame, mkF, argsToLocals, Value.category, maxLocals]; done) | rfl
set_option maxRecDepth 65536 in
set_option maxHeartbeats 40000000 in
theorem rm0 (l : Launch) (Z : State) (a0 : Array Value) (hw : ∀ d ∈ tables_1, d.before a0 Z = true) (p1 p2 p3 p4 p5 p6 : Int32) (h0 : Heap) (n0 : Nat) (Z0 : n0 ≤ h0.size)  :
    OConK l Z x code maxLocals ret room_1 32 192 #[(.int p1), (.int p2), (.int p3), (.int p4), (.int p5), (.int p6)] h0 (fun v h L => v = some (.int 1) ∧ Fr n0 L) := by
  refine OConK.intro (y := x) (plainFor_of_name own_pn_com_example_stepwise_medians_stepwisemedians_engine_EntryDequeKeyPinLaw) (own_ef_rm0 p1 p2 p3 p4 p5 p6) ?_
  intro p e s m below meth c s₁ hx hby hml hown hnm hret hlk hZ X0 e0
  have := rng32 p5
  have := rng32 p6
  have l1 : (0 : Int32).toInt = 0 := by decide
  have l2 : (1 : Int32).toInt = 1 := by decide
  have l3 : (2 : Int32).toInt = 2 := by decide
  have l4 : (3 : Int32).toInt = 3 := by decide
  have l5 : (4 : Int32).toInt = 4 := by decide
  show OGoal p e below s _ _ _ (s₁.setTop (mkF m 0 #[.val (.int p1), .val (.int p2), .val (.int p3), .val (.int p4), .val (.int p5), .val (.int p6), .unset, .unset, .unset, .unset, .unset, .unset] []))
  obtain ⟨T6, h10, X7, e8, E11, A12, D13, -, st9⟩ := newO X0 hx hZ hown (hw _ (List.mem_of_getElem? (i := 0) rfl)) (hw _ (List.mem_of_getElem? (i := 1) rfl)) (hw _ (List.mem_of_getElem? (i := 2) rfl)) e0 (g := mkF m 0 #[.val (.int p1), .val (.int p2), .val (.int p3), .val (.int p4), .val (.int p5), .val (.int p6), .unset, .unset, .unset, .unset, .unset, .unset] []) rfl (hb hby at_0) (by decide) (by decide)
  obtain ⟨a14, g15⟩ : ∃ z, z = h0.size := ⟨_, rfl⟩
  rw [← g15] at A12 D13 st9
  have F16 : Fld Z h10 a14 "com/example/stepwise_medians/stepwisemedians/engine/EntryDeque" "keys" "[D" .null := D13 (Or.inl (hw _ (List.mem_of_getElem? (i := 11) rfl))) (ty := (.array .double)) (by decide)
  have F17 : Fld Z h10 a14 "com/example/stepwise_medians/stepwisemedians/engine/EntryDeque" "values" "[D" .null := D13 (Or.inl (hw _ (List.mem_of_getElem? (i := 13) rfl))) (ty := (.array .double)) (by decide)
  have F18 : Fld Z h10 a14 "com/example/stepwise_medians/stepwisemedians/engine/EntryDeque" "payloads" "[I" .null := D13 (Or.inl (hw _ (List.mem_of_getElem? (i := 16) rfl))) (ty := (.array .int)) (by decide)
  have F19 : Fld Z h10 a14 "com/example/stepwise_medians/stepwisemedians/engine/EntryDeque" "end" "I" (.int (0 : Int32)) := D13 (Or.inl (hw _ (List.mem_of_getElem? (i := 23) rfl))) (ty := .int) (by decide)
  have F20 : Fld Z h10 a14 "com/example/stepwise_medians/stepwisemedians/engine/EntryDeque" "first" "I" (.int (0 : Int32)) := D13 (Or.inl (hw _ (List.mem_of_getElem? (i := 30) rfl))) (ty := .int) (by decide)
  have Z21 : n0 ≤ h10.size := Nat.le_trans Z0 E11.1
  have ab22 : n0 ≤ a14 := Nat.le_trans Z0 (Nat.le_of_eq g15.symm)
  refine OGoal.mp (S' := (T6.setTop (mkF m 3 #[.val (.int p1), .val (.int p2), .val (.int p3), .val (.int p4), .val (.int p5), .val (.int p6), .unset, .unset, .unset, .unset, .unset, .unset] [(.ref a14)]))) (fun _ k => st9 _ k) ?_
  refine OGoal.mp (S' := (T6.setTop (mkF m 4 #[.val (.int p1), .val (.int p2), .val (.int p3), .val (.int p4), .val (.int p5), .val (.int p6), .unset, .unset, .unset, .unset, .unset, .unset] [(.ref a14), (.ref a14)]))) (fun _ k => XS.dup X7.here hx rfl (hb hby at_3) rfl rfl k) ?_
  refine oCallN (y := (⟨"com/example/stepwise_medians/stepwisemedians/engine/EntryDeque", "<init>", "()V"⟩ : MethodName)) X7 hx hZ rfl hown (hw _ (List.mem_of_getElem? (i := 3) rfl)) (hw _ (List.mem_of_getElem? (i := 4) rfl)) (hw _ (List.mem_of_getElem? (i := 2) rfl)) (hw _ (List.mem_of_getElem? (i := 5) rfl)) (by decide) (rmI l Z a0 hw a14 h10 n0 Z21 A12 F16 F17 F18 F20 F19 ab22) e8 [] [(.ref a14)] rfl rfl (by rw [hml]; rfl) (lenOf own_pd___V rfl) 1 (Nat.le_of_eq rfl) (by decide) (by decide) (by decide) (by decide) (hb hby at_4) ?_
  intro v23 T24 L25 X26 q27
  obtain ⟨rfl, N28, Dq29⟩ := q27
  have N30 := Fr.app (Fr.nil n0) N28
  have Z31 := Dq29.sz.1
  show OGoal p e below s _ _ _ (T24.setTop (mkF m 7 #[.val (.int p1), .val (.int p2), .val (.int p3), .val (.int p4), .val (.int p5), .val (.int p6), .unset, .unset, .unset, .unset, .unset, .unset] [(.ref a14)]))
  refine OGoal.mp (S' := (T24.setTop (mkF m 9 #[.val (.int p1), .val (.int p2), .val (.int p3), .val (.int p4), .val (.int p5), .val (.int p6), .val (.ref a14), .unset, .unset, .unset, .unset, .unset] []))) (fun _ k => XS.astore X26.here hx rfl (hb hby at_7) rfl rfl (l' := #[.val (.int p1), .val (.int p2), .val (.int p3), .val (.int p4), .val (.int p5), .val (.int p6), .val (.ref a14), .unset, .unset, .unset, .unset, .unset]) rfl k) ?_
  refine OGoal.mp (S' := (T24.setTop (mkF m 11 #[.val (.int p1), .val (.int p2), .val (.int p3), .val (.int p4), .val (.int p5), .val (.int p6), .val (.ref a14), .unset, .unset, .unset, .unset, .unset] [(.ref a14)]))) (fun _ k => XS.aload X26.here hx rfl (hb hby at_9) rfl rfl k) ?_
  refine OGoal.mp (S' := (T24.setTop (mkF m 12 #[.val (.int p1), .val (.int p2), .val (.int p3), .val (.int p4), .val (.int p5), .val (.int p6), .val (.ref a14), .unset, .unset, .unset, .unset, .unset] [(.int p1), (.ref a14)]))) (fun _ k => XS.iloadN X26.here hx rfl (hb hby at_11) rfl k) ?_
  refine OGoal.mp (S' := (T24.setTop (mkF m 13 #[.val (.int p1), .val (.int p2), .val (.int p3), .val (.int p4), .val (.int p5), .val (.int p6), .val (.ref a14), .unset, .unset, .unset, .unset, .unset] [(.double (FP.i2d p1)), (.ref a14)]))) (fun _ k => XS.i2dS X26.here hx rfl (hb hby at_12) rfl rfl k) ?_
  refine OGoal.mp (S' := (T24.setTop (mkF m 14 #[.val (.int p1), .val (.int p2), .val (.int p3), .val (.int p4), .val (.int p5), .val (.int p6), .val (.ref a14), .unset, .unset, .unset, .unset, .unset] [(.int p1), (.double (FP.i2d p1)), (.ref a14)]))) (fun _ k => XS.iloadN X26.here hx rfl (hb hby at_13) rfl k) ?_
  refine OGoal.mp (S' := (T24.setTop (mkF m 15 #[.val (.int p1), .val (.int p2), .val (.int p3), .val (.int p4), .val (.int p5), .val (.int p6), .val (.ref a14), .unset, .unset, .unset, .unset, .unset] [(.int (-1 : Int32)), (.int p1), (.double (FP.i2d p1)), (.ref a14)]))) (fun _ k => XS.iconst X26.here hx rfl (hb hby at_14) k) ?_
  refine OGoal.mp (S' := (T24.setTop (mkF m 16 #[.val (.int p1), .val (.int p2), .val (.int p3), .val (.int p4), .val (.int p5), .val (.int p6), .val (.ref a14), .unset, .unset, .unset, .unset, .unset] [(.int (p1 ^^^ (-1 : Int32))), (.double (FP.i2d p1)), (.ref a14)]))) (fun _ k => XT.ixor X26.here hx rfl (hb hby at_15) rfl k) ?_
  refine OGoal.mp (S' := (T24.setTop (mkF m 17 #[.val (.int p1), .val (.int p2), .val (.int p3), .val (.int p4), .val (.int p5), .val (.int p6), .val (.ref a14), .unset, .unset, .unset, .unset, .unset] [(.double (FP.i2d (p1 ^^^ (-1 : Int32)))), (.double (FP.i2d p1)), (.ref a14)]))) (fun _ k => XS.i2dS X26.here hx rfl (hb hby at_16) rfl rfl k) ?_
  refine OGoal.mp (S' := (T24.setTop (mkF m 18 #[.val (.int p1), .val (.int p2), .val (.int p3), .val (.int p4), .val (.int p5), .val (.int p6), .val (.ref a14), .unset, .unset, .unset, .unset, .unset] [(.int p1), (.double (FP.i2d (p1 ^^^ (-1 : Int32)))), (.double (FP.i2d p1)), (.ref a14)]))) (fun _ k => XS.iloadN X26.here hx rfl (hb hby at_17) rfl k) ?_
  refine oCallV (y := (⟨"com/example/stepwise_medians/stepwisemedians/engine/EntryDeque", "addLast", "(DDI)V"⟩ : MethodName)) (z := (⟨"com/example/stepwise_medians/stepwisemedians/engine/EntryDeque", "addLast", "(DDI)V"⟩ : MethodName)) X26 hx hZ hown (hw _ (List.mem_of_getElem? (i := 17) rfl)) (hw _ (List.mem_of_getElem? (i := 18) rfl)) (hw _ (List.mem_of_getElem? (i := 20) rfl)) (hw _ (List.mem_of_getElem? (i := 19) rfl)) (hw _ (List.mem_of_getElem? (i := 2) rfl)) (hw _ (List.mem_of_getElem? (i := 21) rfl)) (by decide) (rmAdd l Z a0 hw a14 (FP.i2d p1) (FP.i2d (p1 ^^^ (-1 : Int32))) p1 T24.heap n0 Z31 (0 : Int32) (0 : Int32) (fun _ => 0) Dq29 (1 : Int32) 0 (by decide) (by decide) (by decide) (by decide)) rfl Dq29.exa [(.double (FP.i2d p1)), (.double (FP.i2d (p1 ^^^ (-1 : Int32)))), (.int p1)] [] rfl rfl (by rw [hml]; rfl) (notFace_of_selects (args := #[]) (mvT hZ (hw _ (List.mem_of_getElem? (i := 20) rfl)))) (lenOf own_pd__DDI_V rfl) 0 (Nat.le_of_eq rfl) (by decide) (by decide) (by decide) (by decide) (hb hby at_18) ?_
  intro v32 T33 L34 X35 q36
  obtain ⟨rfl, N37, Dq38⟩ := q36
  have N39 := Fr.app N30 N37
  have Z40 := Dq38.sz.1
  show OGoal p e below s _ _ _ (T33.setTop (mkF m 21 #[.val (.int p1), .val (.int p2), .val (.int p3), .val (.int p4), .val (.int p5), .val (.int p6), .val (.ref a14), .unset, .unset, .unset, .unset, .unset] []))
  refine OGoal.mp (S' := (T33.setTop (mkF m 23 #[.val (.int p1), .val (.int p2), .val (.int p3), .val (.int p4), .val (.int p5), .val (.int p6), .val (.ref a14), .unset, .unset, .unset, .unset, .unset] [(.ref a14)]))) (fun _ k => XS.aload X35.here hx rfl (hb hby at_21) rfl rfl k) ?_
  refine OGoal.mp (S' := (T33.setTop (mkF m 24 #[.val (.int p1), .val (.int p2), .val (.int p3), .val (.int p4), .val (.int p5), .val (.int p6), .val (.ref a14), .unset, .unset, .unset, .unset, .unset] [(.int p2), (.ref a14)]))) (fun _ k => XS.iloadN X35.here hx rfl (hb hby at_23) rfl k) ?_
  refine OGoal.mp (S' := (T33.setTop (mkF m 25 #[.val (.int p1), .val (.int p2), .val (.int p3), .val (.int p4), .val (.int p5), .val (.int p6), .val (.ref a14), .unset, .unset, .unset, .unset, .unset] [(.double (FP.i2d p2)), (.ref a14)]))) (fun _ k => XS.i2dS X35.here hx rfl (hb hby at_24) rfl rfl k) ?_
  refine OGoal.mp (S' := (T33.setTop (mkF m 26 #[.val (.int p1), .val (.int p2), .val (.int p3), .val (.int p4), .val (.int p5), .val (.int p6), .val (.ref a14), .unset, .unset, .unset, .unset, .unset] [(.int p2), (.double (FP.i2d p2)), (.ref a14)]))) (fun _ k => XS.iloadN X35.here hx rfl (hb hby at_25) rfl k) ?_
  refine OGoal.mp (S' := (T33.setTop (mkF m 27 #[.val (.int p1), .val (.int p2), .val (.int p3), .val (.int p4), .val (.int p5), .val (.int p6), .val (.ref a14), .unset, .unset, .unset, .unset, .unset] [(.int (-1 : Int32)), (.int p2), (.double (FP.i2d p2)), (.ref a14)]))) (fun _ k => XS.iconst X35.here hx rfl (hb hby at_26) k) ?_
  refine OGoal.mp (S' := (T33.setTop (mkF m 28 #[.val (.int p1), .val (.int p2), .val (.int p3), .val (.int p4), .val (.int p5), .val (.int p6), .val (.ref a14), .unset, .unset, .unset, .unset, .unset] [(.int (p2 ^^^ (-1 : Int32))), (.double (FP.i2d p2)), (.ref a14)]))) (fun _ k => XT.ixor X35.here hx rfl (hb hby at_27) rfl k) ?_
  refine OGoal.mp (S' := (T33.setTop (mkF m 29 #[.val (.int p1), .val (.int p2), .val (.int p3), .val (.int p4), .val (.int p5), .val (.int p6), .val (.ref a14), .unset, .unset, .unset, .unset, .unset] [(.double (FP.i2d (p2 ^^^ (-1 : Int32)))), (.double (FP.i2d p2)), (.ref a14)]))) (fun _ k => XS.i2dS X35.here hx rfl (hb hby at_28) rfl rfl k) ?_
  refine OGoal.mp (S' := (T33.setTop (mkF m 30 #[.val (.int p1), .val (.int p2), .val (.int p3), .val (.int p4), .val (.int p5), .val (.int p6), .val (.ref a14), .unset, .unset, .unset, .unset, .unset] [(.int p2), (.double (FP.i2d (p2 ^^^ (-1 : Int32)))), (.double (FP.i2d p2)), (.ref a14)]))) (fun _ k => XS.iloadN X35.here hx rfl (hb hby at_29) rfl k) ?_
  refine oCallV (y := (⟨"com/example/stepwise_medians/stepwisemedians/engine/EntryDeque", "addLast", "(DDI)V"⟩ : MethodName)) (z := (⟨"com/example/stepwise_medians/stepwisemedians/engine/EntryDeque", "addLast", "(DDI)V"⟩ : MethodName)) X35 hx hZ hown (hw _ (List.mem_of_getElem? (i := 17) rfl)) (hw _ (List.mem_of_getElem? (i := 18) rfl)) (hw _ (List.mem_of_getElem? (i := 20) rfl)) (hw _ (List.mem_of_getElem? (i := 19) rfl)) (hw _ (List.mem_of_getElem? (i := 2) rfl)) (hw _ (List.mem_of_getElem? (i := 21) rfl)) (by decide) (rmAdd l Z a0 hw a14 (FP.i2d p2) (FP.i2d (p2 ^^^ (-1 : Int32))) p2 T33.heap n0 Z40 (0 : Int32) (1 : Int32) (fun i => if i = 0 then (FP.i2d p1) else (fun _ => 0) i) Dq38 (2 : Int32) 1 (by decide) (by decide) (by decide) (by decide)) rfl Dq38.exa [(.double (FP.i2d p2)), (.double (FP.i2d (p2 ^^^ (-1 : Int32)))), (.int p2)] [] rfl rfl (by rw [hml]; rfl) (notFace_of_selects (args := #[]) (mvT hZ (hw _ (List.mem_of_getElem? (i := 20) rfl)))) (lenOf own_pd__DDI_V rfl) 0 (Nat.le_of_eq rfl) (by decide) (by decide) (by decide) (by decide) (hb hby at_30) ?_
  intro v41 T42 L43 X44 q45
  obtain ⟨rfl, N46, Dq47⟩ := q45
  have N48 := Fr.app N39 N46
  have Z49 := Dq47.sz.1
  show OGoal p e below s _ _ _ (T42.setTop (mkF m 33 #[.val (.int p1), .val (.int p2), .val (.int p3), .val (.int p4), .val (.int p5), .val (.int p6), .val (.ref a14), .unset, .unset, .unset, .unset, .unset] []))
  refine OGoal.mp (S' := (T42.setTop (mkF m 35 #[.val (.int p1), .val (.int p2), .val (.int p3), .val (.int p4), .val (.int p5), .val (.int p6), .val (.ref a14), .unset, .unset, .unset, .unset, .unset] [(.ref a14)]))) (fun _ k => XS.aload X44.here hx rfl (hb hby at_33) rfl rfl k) ?_
  refine OGoal.mp (S' := (T42.setTop (mkF m 36 #[.val (.int p1), .val (.int p2), .val (.int p3), .val (.int p4), .val (.int p5), .val (.int p6), .val (.ref a14), .unset, .unset, .unset, .unset, .unset] [(.int p3), (.ref a14)]))) (fun _ k => XS.iloadN X44.here hx rfl (hb hby at_35) rfl k) ?_
  refine OGoal.mp (S' := (T42.setTop (mkF m 37 #[.val (.int p1), .val (.int p2), .val (.int p3), .val (.int p4), .val (.int p5), .val (.int p6), .val (.ref a14), .unset, .unset, .unset, .unset, .unset] [(.double (FP.i2d p3)), (.ref a14)]))) (fun _ k => XS.i2dS X44.here hx rfl (hb hby at_36) rfl rfl k) ?_
  refine OGoal.mp (S' := (T42.setTop (mkF m 38 #[.val (.int p1), .val (.int p2), .val (.int p3), .val (.int p4), .val (.int p5), .val (.int p6), .val (.ref a14), .unset, .unset, .unset, .unset, .unset] [(.int p3), (.double (FP.i2d p3)), (.ref a14)]))) (fun _ k => XS.iloadN X44.here hx rfl (hb hby at_37) rfl k) ?_
  refine OGoal.mp (S' := (T42.setTop (mkF m 39 #[.val (.int p1), .val (.int p2), .val (.int p3), .val (.int p4), .val (.int p5), .val (.int p6), .val (.ref a14), .unset, .unset, .unset, .unset, .unset] [(.int (-1 : Int32)), (.int p3), (.double (FP.i2d p3)), (.ref a14)]))) (fun _ k => XS.iconst X44.here hx rfl (hb hby at_38) k) ?_
  refine OGoal.mp (S' := (T42.setTop (mkF m 40 #[.val (.int p1), .val (.int p2), .val (.int p3), .val (.int p4), .val (.int p5), .val (.int p6), .val (.ref a14), .unset, .unset, .unset, .unset, .unset] [(.int (p3 ^^^ (-1 : Int32))), (.double (FP.i2d p3)), (.ref a14)]))) (fun _ k => XT.ixor X44.here hx rfl (hb hby at_39) rfl k) ?_
  refine OGoal.mp (S' := (T42.setTop (mkF m 41 #[.val (.int p1), .val (.int p2), .val (.int p3), .val (.int p4), .val (.int p5), .val (.int p6), .val (.ref a14), .unset, .unset, .unset, .unset, .unset] [(.double (FP.i2d (p3 ^^^ (-1 : Int32)))), (.double (FP.i2d p3)), (.ref a14)]))) (fun _ k => XS.i2dS X44.here hx rfl (hb hby at_40) rfl rfl k) ?_
  refine OGoal.mp (S' := (T42.setTop (mkF m 42 #[.val (.int p1), .val (.int p2), .val (.int p3), .val (.int p4), .val (.int p5), .val (.int p6), .val (.ref a14), .unset, .unset, .unset, .unset, .unset] [(.int p3), (.double (FP.i2d (p3 ^^^ (-1 : Int32)))), (.double (FP.i2d p3)), (.ref a14)]))) (fun _ k => XS.iloadN X44.here hx rfl (hb hby at_41) rfl k) ?_
  refine oCallV (y := (⟨"com/example/stepwise_medians/stepwisemedians/engine/EntryDeque", "addLast", "(DDI)V"⟩ : MethodName)) (z := (⟨"com/example/stepwise_medians/stepwisemedians/engine/EntryDeque", "addLast", "(DDI)V"⟩ : MethodName)) X44 hx hZ hown (hw _ (List.mem_of_getElem? (i := 17) rfl)) (hw _ (List.mem_of_getElem? (i := 18) rfl)) (hw _ (List.mem_of_getElem? (i := 20) rfl)) (hw _ (List.mem_of_getElem? (i := 19) rfl)) (hw _ (List.mem_of_getElem? (i := 2) rfl)) (hw _ (List.mem_of_getElem? (i := 21) rfl)) (by decide) (rmAdd l Z a0 hw a14 (FP.i2d p3) (FP.i2d (p3 ^^^ (-1 : Int32))) p3 T42.heap n0 Z49 (0 : Int32) (2 : Int32) (fun i => if i = 1 then (FP.i2d p2) else (fun i => if i = 0 then (FP.i2d p1) else (fun _ => 0) i) i) Dq47 (3 : Int32) 2 (by decide) (by decide) (by decide) (by decide)) rfl Dq47.exa [(.double (FP.i2d p3)), (.double (FP.i2d (p3 ^^^ (-1 : Int32)))), (.int p3)] [] rfl rfl (by rw [hml]; rfl) (notFace_of_selects (args := #[]) (mvT hZ (hw _ (List.mem_of_getElem? (i := 20) rfl)))) (lenOf own_pd__DDI_V rfl) 0 (Nat.le_of_eq rfl) (by decide) (by decide) (by decide) (by decide) (hb hby at_42) ?_
  intro v50 T51 L52 X53 q54
  obtain ⟨rfl, N55, Dq56⟩ := q54
  have N57 := Fr.app N48 N55
  have Z58 := Dq56.sz.1
  show OGoal p e below s _ _ _ (T51.setTop (mkF m 45 #[.val (.int p1), .val (.int p2), .val (.int p3), .val (.int p4), .val (.int p5), .val (.int p6), .val (.ref a14), .unset, .unset, .unset, .unset, .unset] []))
  refine OGoal.mp (S' := (T51.setTop (mkF m 47 #[.val (.int p1), .val (.int p2), .val (.int p3), .val (.int p4), .val (.int p5), .val (.int p6), .val (.ref a14), .unset, .unset, .unset, .unset, .unset] [(.ref a14)]))) (fun _ k => XS.aload X53.here hx rfl (hb hby at_45) rfl rfl k) ?_
  refine OGoal.mp (S' := (T51.setTop (mkF m 48 #[.val (.int p1), .val (.int p2), .val (.int p3), .val (.int p4), .val (.int p5), .val (.int p6), .val (.ref a14), .unset, .unset, .unset, .unset, .unset] [(.int p4), (.ref a14)]))) (fun _ k => XS.iloadN X53.here hx rfl (hb hby at_47) rfl k) ?_
  refine OGoal.mp (S' := (T51.setTop (mkF m 49 #[.val (.int p1), .val (.int p2), .val (.int p3), .val (.int p4), .val (.int p5), .val (.int p6), .val (.ref a14), .unset, .unset, .unset, .unset, .unset] [(.double (FP.i2d p4)), (.ref a14)]))) (fun _ k => XS.i2dS X53.here hx rfl (hb hby at_48) rfl rfl k) ?_
  refine OGoal.mp (S' := (T51.setTop (mkF m 50 #[.val (.int p1), .val (.int p2), .val (.int p3), .val (.int p4), .val (.int p5), .val (.int p6), .val (.ref a14), .unset, .unset, .unset, .unset, .unset] [(.int p4), (.double (FP.i2d p4)), (.ref a14)]))) (fun _ k => XS.iloadN X53.here hx rfl (hb hby at_49) rfl k) ?_
  refine OGoal.mp (S' := (T51.setTop (mkF m 51 #[.val (.int p1), .val (.int p2), .val (.int p3), .val (.int p4), .val (.int p5), .val (.int p6), .val (.ref a14), .unset, .unset, .unset, .unset, .unset] [(.int (-1 : Int32)), (.int p4), (.double (FP.i2d p4)), (.ref a14)]))) (fun _ k => XS.iconst X53.here hx rfl (hb hby at_50) k) ?_
  refine OGoal.mp (S' := (T51.setTop (mkF m 52 #[.val (.int p1), .val (.int p2), .val (.int p3), .val (.int p4), .val (.int p5), .val (.int p6), .val (.ref a14), .unset, .unset, .unset, .unset, .unset] [(.int (p4 ^^^ (-1 : Int32))), (.double (FP.i2d p4)), (.ref a14)]))) (fun _ k => XT.ixor X53.here hx rfl (hb hby at_51) rfl k) ?_
  refine OGoal.mp (S' := (T51.setTop (mkF m 53 #[.val (.int p1), .val (.int p2), .val (.int p3), .val (.int p4), .val (.int p5), .val (.int p6), .val (.ref a14), .unset, .unset, .unset, .unset, .unset] [(.double (FP.i2d (p4 ^^^ (-1 : Int32)))), (.double (FP.i2d p4)), (.ref a14)]))) (fun _ k => XS.i2dS X53.here hx rfl (hb hby at_52) rfl rfl k) ?_
  refine OGoal.mp (S' := (T51.setTop (mkF m 54 #[.val (.int p1), .val (.int p2), .val (.int p3), .val (.int p4), .val (.int p5), .val (.int p6), .val (.ref a14), .unset, .unset, .unset, .unset, .unset] [(.int p4), (.double (FP.i2d (p4 ^^^ (-1 : Int32)))), (.double (FP.i2d p4)), (.ref a14)]))) (fun _ k => XS.iloadN X53.here hx rfl (hb hby at_53) rfl k) ?_
  refine oCallV (y := (⟨"com/example/stepwise_medians/stepwisemedians/engine/EntryDeque", "addLast", "(DDI)V"⟩ : MethodName)) (z := (⟨"com/example/stepwise_medians/stepwisemedians/engine/EntryDeque", "addLast", "(DDI)V"⟩ : MethodName)) X53 hx hZ hown (hw _ (List.mem_of_getElem? (i := 17) rfl)) (hw _ (List.mem_of_getElem? (i := 18) rfl)) (hw _ (List.mem_of_getElem? (i := 20) rfl)) (hw _ (List.mem_of_getElem? (i := 19) rfl)) (hw _ (List.mem_of_getElem? (i := 2) rfl)) (hw _ (List.mem_of_getElem? (i := 21) rfl)) (by decide) (rmAdd l Z a0 hw a14 (FP.i2d p4) (FP.i2d (p4 ^^^ (-1 : Int32))) p4 T51.heap n0 Z58 (0 : Int32) (3 : Int32) (fun i => if i = 2 then (FP.i2d p3) else (fun i => if i = 1 then (FP.i2d p2) else (fun i => if i = 0 then (FP.i2d p1) else (fun _ => 0) i) i) i) Dq56 (4 : Int32) 3 (by decide) (by decide) (by decide) (by decide)) rfl Dq56.exa [(.double (FP.i2d p4)), (.double (FP.i2d (p4 ^^^ (-1 : Int32)))), (.int p4)] [] rfl rfl (by rw [hml]; rfl) (notFace_of_selects (args := #[]) (mvT hZ (hw _ (List.mem_of_getElem? (i := 20) rfl)))) (lenOf own_pd__DDI_V rfl) 0 (Nat.le_of_eq rfl) (by decide) (by decide) (by decide) (by decide) (hb hby at_54) ?_
  intro v59 T60 L61 X62 q63
  obtain ⟨rfl, N64, Dq65⟩ := q63
  have N66 := Fr.app N57 N64
  have Z67 := Dq65.sz.1
  show OGoal p e below s _ _ _ (T60.setTop (mkF m 57 #[.val (.int p1), .val (.int p2), .val (.int p3), .val (.int p4), .val (.int p5), .val (.int p6), .val (.ref a14), .unset, .unset, .unset, .unset, .unset] []))
  refine OGoal.mp (S' := (T60.setTop (mkF m 59 #[.val (.int p1), .val (.int p2), .val (.int p3), .val (.int p4), .val (.int p5), .val (.int p6), .val (.ref a14), .unset, .unset, .unset, .unset, .unset] [(.int p5)]))) (fun _ k => XS.iload X62.here hx rfl (hb hby at_57) rfl k) ?_
  refine OGoal.mp (S' := (T60.setTop (mkF m 60 #[.val (.int p1), .val (.int p2), .val (.int p3), .val (.int p4), .val (.int p5), .val (.int p6), .val (.ref a14), .unset, .unset, .unset, .unset, .unset] [(.int (3 : Int32)), (.int p5)]))) (fun _ k => XS.iconst X62.here hx rfl (hb hby at_59) k) ?_
  refine OGoal.mp (S' := (T60.setTop (mkF m 61 #[.val (.int p1), .val (.int p2), .val (.int p3), .val (.int p4), .val (.int p5), .val (.int p6), .val (.ref a14), .unset, .unset, .unset, .unset, .unset] [(.int (p5 &&& (3 : Int32)))]))) (fun _ k => XS.iand X62.here hx rfl (hb hby at_60) rfl k) ?_
  obtain ⟨u68, hu68⟩ : ∃ z : Int32, z = (p5 &&& (3 : Int32)) := ⟨_, rfl⟩
  rw [← hu68]
  have t69 : u68.toInt = (p5).toInt % 4 := by rw [hu68]; exact c_mask p5 (3 : Int32) 2 (by decide) (by decide)
  have r70 := rng32 u68
  refine OGoal.mp (S' := (T60.setTop (mkF m 63 #[.val (.int p1), .val (.int p2), .val (.int p3), .val (.int p4), .val (.int p5), .val (.int p6), .val (.ref a14), .val (.int u68), .unset, .unset, .unset, .unset] []))) (fun _ k => XS.istore X62.here hx rfl (hb hby at_61) rfl (l' := #[.val (.int p1), .val (.int p2), .val (.int p3), .val (.int p4), .val (.int p5), .val (.int p6), .val (.ref a14), .val (.int u68), .unset, .unset, .unset, .unset]) rfl k) ?_
  refine OGoal.mp (S' := (T60.setTop (mkF m 65 #[.val (.int p1), .val (.int p2), .val (.int p3), .val (.int p4), .val (.int p5), .val (.int p6), .val (.ref a14), .val (.int u68), .unset, .unset, .unset, .unset] [(.int p5)]))) (fun _ k => XS.iload X62.here hx rfl (hb hby at_63) rfl k) ?_
  refine OGoal.mp (S' := (T60.setTop (mkF m 66 #[.val (.int p1), .val (.int p2), .val (.int p3), .val (.int p4), .val (.int p5), .val (.int p6), .val (.ref a14), .val (.int u68), .unset, .unset, .unset, .unset] [(.int (2 : Int32)), (.int p5)]))) (fun _ k => XS.iconst X62.here hx rfl (hb hby at_65) k) ?_
  refine OGoal.mp (S' := (T60.setTop (mkF m 67 #[.val (.int p1), .val (.int p2), .val (.int p3), .val (.int p4), .val (.int p5), .val (.int p6), .val (.ref a14), .val (.int u68), .unset, .unset, .unset, .unset] [(.int (XT.ushr p5 (2 : Int32)))]))) (fun _ k => XT.iushr X62.here hx rfl (hb hby at_66) rfl k) ?_
  obtain ⟨u71, hu71⟩ : ∃ z : Int32, z = (XT.ushr p5 (2 : Int32)) := ⟨_, rfl⟩
  rw [← hu71]
  have t72 : u71.toInt = (p5).toInt % 4294967296 / 4 := by rw [hu71]; exact c_iushr p5 (2 : Int32) 2 (by decide) (by decide)
  have r73 := rng32 u71
  refine OGoal.mp (S' := (T60.setTop (mkF m 68 #[.val (.int p1), .val (.int p2), .val (.int p3), .val (.int p4), .val (.int p5), .val (.int p6), .val (.ref a14), .val (.int u68), .unset, .unset, .unset, .unset] [(.int (4 : Int32)), (.int u71)]))) (fun _ k => XS.iconst X62.here hx rfl (hb hby at_67) k) ?_
  refine OGoal.mp (S' := (T60.setTop (mkF m 70 #[.val (.int p1), .val (.int p2), .val (.int p3), .val (.int p4), .val (.int p5), .val (.int p6), .val (.ref a14), .val (.int u68), .unset, .unset, .unset, .unset] [(.int u68), (.int (4 : Int32)), (.int u71)]))) (fun _ k => XS.iload X62.here hx rfl (hb hby at_68) rfl k) ?_
  refine OGoal.mp (S' := (T60.setTop (mkF m 71 #[.val (.int p1), .val (.int p2), .val (.int p3), .val (.int p4), .val (.int p5), .val (.int p6), .val (.ref a14), .val (.int u68), .unset, .unset, .unset, .unset] [(.int ((4 : Int32) - u68)), (.int u71)]))) (fun _ k => XS.isub X62.here hx rfl (hb hby at_70) rfl k) ?_
  obtain ⟨u74, hu74⟩ : ∃ z : Int32, z = ((4 : Int32) - u68) := ⟨_, rfl⟩
  rw [← hu74]
  have t75 : (u74.toInt - (((4 : Int32)).toInt - (u68).toInt)) % 4294967296 = 0 := by rw [hu74]; exact c_isub (4 : Int32) u68
  have r76 := rng32 u74
  refine OGoal.mp (S' := (T60.setTop (mkF m 72 #[.val (.int p1), .val (.int p2), .val (.int p3), .val (.int p4), .val (.int p5), .val (.int p6), .val (.ref a14), .val (.int u68), .unset, .unset, .unset, .unset] [(.int (u71 % u74))]))) (fun _ k => iremM X62 hx rfl (hb hby at_71) rfl (mNe (by omega)) k) ?_
  obtain ⟨u77, hu77⟩ : ∃ z : Int32, z = (u71 % u74) := ⟨_, rfl⟩
  rw [← hu77]
  have t78 : 0 ≤ u77.toInt ∧ u77.toInt < (u74).toInt := by rw [hu77]; exact oRemI u71 u74 (by omega) (by omega)
  have r79 := rng32 u77
  refine OGoal.mp (S' := (T60.setTop (mkF m 74 #[.val (.int p1), .val (.int p2), .val (.int p3), .val (.int p4), .val (.int p5), .val (.int p6), .val (.ref a14), .val (.int u68), .val (.int u77), .unset, .unset, .unset] []))) (fun _ k => XS.istore X62.here hx rfl (hb hby at_72) rfl (l' := #[.val (.int p1), .val (.int p2), .val (.int p3), .val (.int p4), .val (.int p5), .val (.int p6), .val (.ref a14), .val (.int u68), .val (.int u77), .unset, .unset, .unset]) rfl k) ?_
  refine OGoal.mp (S' := (T60.setTop (mkF m 75 #[.val (.int p1), .val (.int p2), .val (.int p3), .val (.int p4), .val (.int p5), .val (.int p6), .val (.ref a14), .val (.int u68), .val (.int u77), .unset, .unset, .unset] [(.int (4 : Int32))]))) (fun _ k => XS.iconst X62.here hx rfl (hb hby at_74) k) ?_
  refine OGoal.mp (S' := (T60.setTop (mkF m 77 #[.val (.int p1), .val (.int p2), .val (.int p3), .val (.int p4), .val (.int p5), .val (.int p6), .val (.ref a14), .val (.int u68), .val (.int u77), .unset, .unset, .unset] [(.int u68), (.int (4 : Int32))]))) (fun _ k => XS.iload X62.here hx rfl (hb hby at_75) rfl k) ?_
  refine OGoal.mp (S' := (T60.setTop (mkF m 78 #[.val (.int p1), .val (.int p2), .val (.int p3), .val (.int p4), .val (.int p5), .val (.int p6), .val (.ref a14), .val (.int u68), .val (.int u77), .unset, .unset, .unset] [(.int ((4 : Int32) - u68))]))) (fun _ k => XS.isub X62.here hx rfl (hb hby at_77) rfl k) ?_
  obtain ⟨u80, hu80⟩ : ∃ z : Int32, z = ((4 : Int32) - u68) := ⟨_, rfl⟩
  rw [← hu80]
  have t81 : (u80.toInt - (((4 : Int32)).toInt - (u68).toInt)) % 4294967296 = 0 := by rw [hu80]; exact c_isub (4 : Int32) u68
  have r82 := rng32 u80
  refine OGoal.mp (S' := (T60.setTop (mkF m 80 #[.val (.int p1), .val (.int p2), .val (.int p3), .val (.int p4), .val (.int p5), .val (.int p6), .val (.ref a14), .val (.int u68), .val (.int u77), .unset, .unset, .unset] [(.int u77), (.int u80)]))) (fun _ k => XS.iload X62.here hx rfl (hb hby at_78) rfl k) ?_
  refine OGoal.mp (S' := (T60.setTop (mkF m 81 #[.val (.int p1), .val (.int p2), .val (.int p3), .val (.int p4), .val (.int p5), .val (.int p6), .val (.ref a14), .val (.int u68), .val (.int u77), .unset, .unset, .unset] [(.int (u80 - u77))]))) (fun _ k => XS.isub X62.here hx rfl (hb hby at_80) rfl k) ?_
  obtain ⟨u83, hu83⟩ : ∃ z : Int32, z = (u80 - u77) := ⟨_, rfl⟩
  rw [← hu83]
  have t84 : (u83.toInt - ((u80).toInt - (u77).toInt)) % 4294967296 = 0 := by rw [hu83]; exact c_isub u80 u77
  have r85 := rng32 u83
  refine OGoal.mp (S' := (T60.setTop (mkF m 83 #[.val (.int p1), .val (.int p2), .val (.int p3), .val (.int p4), .val (.int p5), .val (.int p6), .val (.ref a14), .val (.int u68), .val (.int u77), .val (.int u83), .unset, .unset] []))) (fun _ k => XS.istore X62.here hx rfl (hb hby at_81) rfl (l' := #[.val (.int p1), .val (.int p2), .val (.int p3), .val (.int p4), .val (.int p5), .val (.int p6), .val (.ref a14), .val (.int u68), .val (.int u77), .val (.int u83), .unset, .unset]) rfl k) ?_
  refine OGoal.mp (S' := (T60.setTop (mkF m 85 #[.val (.int p1), .val (.int p2), .val (.int p3), .val (.int p4), .val (.int p5), .val (.int p6), .val (.ref a14), .val (.int u68), .val (.int u77), .val (.int u83), .unset, .unset] [(.ref a14)]))) (fun _ k => XS.aload X62.here hx rfl (hb hby at_83) rfl rfl k) ?_
  refine OGoal.mp (S' := (T60.setTop (mkF m 87 #[.val (.int p1), .val (.int p2), .val (.int p3), .val (.int p4), .val (.int p5), .val (.int p6), .val (.ref a14), .val (.int u68), .val (.int u77), .val (.int u83), .unset, .unset] [(.int u68), (.ref a14)]))) (fun _ k => XS.iload X62.here hx rfl (hb hby at_85) rfl k) ?_
  refine oCallV (y := (⟨"com/example/stepwise_medians/stepwisemedians/engine/EntryDeque", "dropFirst", "(I)V"⟩ : MethodName)) (z := (⟨"com/example/stepwise_medians/stepwisemedians/engine/EntryDeque", "dropFirst", "(I)V"⟩ : MethodName)) X62 hx hZ hown (hw _ (List.mem_of_getElem? (i := 24) rfl)) (hw _ (List.mem_of_getElem? (i := 25) rfl)) (hw _ (List.mem_of_getElem? (i := 27) rfl)) (hw _ (List.mem_of_getElem? (i := 26) rfl)) (hw _ (List.mem_of_getElem? (i := 2) rfl)) (hw _ (List.mem_of_getElem? (i := 28) rfl)) (by decide) (rmDF l Z a0 hw a14 u68 T60.heap n0 Z67 (0 : Int32) (4 : Int32) (fun i => if i = 3 then (FP.i2d p4) else (fun i => if i = 2 then (FP.i2d p3) else (fun i => if i = 1 then (FP.i2d p2) else (fun i => if i = 0 then (FP.i2d p1) else (fun _ => 0) i) i) i) i) Dq65) rfl Dq65.exa [(.int u68)] [] rfl rfl (by rw [hml]; rfl) (notFace_of_selects (args := #[]) (mvT hZ (hw _ (List.mem_of_getElem? (i := 27) rfl)))) (lenOf own_pd__I_V rfl) 0 (Nat.le_of_eq rfl) (by decide) (by decide) (by decide) (by decide) (hb hby at_87) ?_
  intro v86 T87 L88 X89 q90
  obtain ⟨rfl, N91, Dq92⟩ := q90
  have N93 := Fr.app N66 N91
  have Z94 := Dq92.sz.1
  rw [Int32.zero_add] at Dq92
  show OGoal p e below s _ _ _ (T87.setTop (mkF m 90 #[.val (.int p1), .val (.int p2), .val (.int p3), .val (.int p4), .val (.int p5), .val (.int p6), .val (.ref a14), .val (.int u68), .val (.int u77), .val (.int u83), .unset, .unset] []))
  refine OGoal.mp (S' := (T87.setTop (mkF m 92 #[.val (.int p1), .val (.int p2), .val (.int p3), .val (.int p4), .val (.int p5), .val (.int p6), .val (.ref a14), .val (.int u68), .val (.int u77), .val (.int u83), .unset, .unset] [(.ref a14)]))) (fun _ k => XS.aload X89.here hx rfl (hb hby at_90) rfl rfl k) ?_
  refine OGoal.mp (S' := (T87.setTop (mkF m 94 #[.val (.int p1), .val (.int p2), .val (.int p3), .val (.int p4), .val (.int p5), .val (.int p6), .val (.ref a14), .val (.int u68), .val (.int u77), .val (.int u83), .unset, .unset] [(.int u77), (.ref a14)]))) (fun _ k => XS.iload X89.here hx rfl (hb hby at_92) rfl k) ?_
  refine oCallV (y := (⟨"com/example/stepwise_medians/stepwisemedians/engine/EntryDeque", "dropLast", "(I)V"⟩ : MethodName)) (z := (⟨"com/example/stepwise_medians/stepwisemedians/engine/EntryDeque", "dropLast", "(I)V"⟩ : MethodName)) X89 hx hZ hown (hw _ (List.mem_of_getElem? (i := 31) rfl)) (hw _ (List.mem_of_getElem? (i := 32) rfl)) (hw _ (List.mem_of_getElem? (i := 34) rfl)) (hw _ (List.mem_of_getElem? (i := 33) rfl)) (hw _ (List.mem_of_getElem? (i := 2) rfl)) (hw _ (List.mem_of_getElem? (i := 35) rfl)) (by decide) (rmDL l Z a0 hw a14 u77 T87.heap n0 Z94 u68 (4 : Int32) (fun i => if i = 3 then (FP.i2d p4) else (fun i => if i = 2 then (FP.i2d p3) else (fun i => if i = 1 then (FP.i2d p2) else (fun i => if i = 0 then (FP.i2d p1) else (fun _ => 0) i) i) i) i) Dq92) rfl Dq92.exa [(.int u77)] [] rfl rfl (by rw [hml]; rfl) (notFace_of_selects (args := #[]) (mvT hZ (hw _ (List.mem_of_getElem? (i := 34) rfl)))) (lenOf own_pd__I_V rfl) 0 (Nat.le_of_eq rfl) (by decide) (by decide) (by decide) (by decide) (hb hby at_94) ?_
  intro v95 T96 L97 X98 q99
  obtain ⟨rfl, N100, Dq101⟩ := q99
  have N102 := Fr.app N93 N100
  have Z103 := Dq101.sz.1
  show OGoal p e below s _ _ _ (T96.setTop (mkF m 97 #[.val (.int p1), .val (.int p2), .val (.int p3), .val (.int p4), .val (.int p5), .val (.int p6), .val (.ref a14), .val (.int u68), .val (.int u77), .val (.int u83), .unset, .unset] []))
  refine OGoal.mp (S' := (T96.setTop (mkF m 99 #[.val (.int p1), .val (.int p2), .val (.int p3), .val (.int p4), .val (.int p5), .val (.int p6), .val (.ref a14), .val (.int u68), .val (.int u77), .val (.int u83), .unset, .unset] [(.int p6)]))) (fun _ k => XS.iload X98.here hx rfl (hb hby at_97) rfl k) ?_
  refine OGoal.mp (S' := (T96.setTop (mkF m 100 #[.val (.int p1), .val (.int p2), .val (.int p3), .val (.int p4), .val (.int p5), .val (.int p6), .val (.ref a14), .val (.int u68), .val (.int u77), .val (.int u83), .unset, .unset] [(.int (1 : Int32)), (.int p6)]))) (fun _ k => XS.iconst X98.here hx rfl (hb hby at_99) k) ?_
  refine OGoal.mp (S' := (T96.setTop (mkF m 101 #[.val (.int p1), .val (.int p2), .val (.int p3), .val (.int p4), .val (.int p5), .val (.int p6), .val (.ref a14), .val (.int u68), .val (.int u77), .val (.int u83), .unset, .unset] [(.int (p6 &&& (1 : Int32)))]))) (fun _ k => XS.iand X98.here hx rfl (hb hby at_100) rfl k) ?_
  obtain ⟨u104, hu104⟩ : ∃ z : Int32, z = (p6 &&& (1 : Int32)) := ⟨_, rfl⟩
  rw [← hu104]
  have t105 : u104.toInt = (p6).toInt % 2 := by rw [hu104]; exact c_mask p6 (1 : Int32) 1 (by decide) (by decide)
  have r106 := rng32 u104
  by_cases hc107 : u104 = 0
  · have g108 := oEq hc107
    refine OGoal.mp (S' := (T96.setTop (mkF m 111 #[.val (.int p1), .val (.int p2), .val (.int p3), .val (.int p4), .val (.int p5), .val (.int p6), .val (.ref a14), .val (.int u68), .val (.int u77), .val (.int u83), .unset, .unset] []))) (fun _ k => XS.ifYes X98.here hx rfl (pc0 := 101) (pc' := 111) rfl (hb hby at_101) rfl (XT.i0_eq_t hc107) (by decide) (by decide) k) ?_
    refine OGoal.mp (S' := (T96.setTop (mkF m 113 #[.val (.int p1), .val (.int p2), .val (.int p3), .val (.int p4), .val (.int p5), .val (.int p6), .val (.ref a14), .val (.int u68), .val (.int u77), .val (.int u83), .unset, .unset] [(.int p6)]))) (fun _ k => XS.iload X98.here hx rfl (hb hby at_111) rfl k) ?_
    refine OGoal.mp (S' := (T96.setTop (mkF m 114 #[.val (.int p1), .val (.int p2), .val (.int p3), .val (.int p4), .val (.int p5), .val (.int p6), .val (.ref a14), .val (.int u68), .val (.int u77), .val (.int u83), .unset, .unset] [(.int (1 : Int32)), (.int p6)]))) (fun _ k => XS.iconst X98.here hx rfl (hb hby at_113) k) ?_
    refine OGoal.mp (S' := (T96.setTop (mkF m 115 #[.val (.int p1), .val (.int p2), .val (.int p3), .val (.int p4), .val (.int p5), .val (.int p6), .val (.ref a14), .val (.int u68), .val (.int u77), .val (.int u83), .unset, .unset] [(.int (XT.ushr p6 (1 : Int32)))]))) (fun _ k => XT.iushr X98.here hx rfl (hb hby at_114) rfl k) ?_
    obtain ⟨u109, hu109⟩ : ∃ z : Int32, z = (XT.ushr p6 (1 : Int32)) := ⟨_, rfl⟩
    rw [← hu109]
    have t110 : u109.toInt = (p6).toInt % 4294967296 / 2 := by rw [hu109]; exact c_iushr p6 (1 : Int32) 1 (by decide) (by decide)
    have r111 := rng32 u109
    refine OGoal.mp (S' := (T96.setTop (mkF m 117 #[.val (.int p1), .val (.int p2), .val (.int p3), .val (.int p4), .val (.int p5), .val (.int p6), .val (.ref a14), .val (.int u68), .val (.int u77), .val (.int u83), .unset, .unset] [(.int u83), (.int u109)]))) (fun _ k => XS.iload X98.here hx rfl (hb hby at_115) rfl k) ?_
    refine OGoal.mp (S' := (T96.setTop (mkF m 118 #[.val (.int p1), .val (.int p2), .val (.int p3), .val (.int p4), .val (.int p5), .val (.int p6), .val (.ref a14), .val (.int u68), .val (.int u77), .val (.int u83), .unset, .unset] [(.int (u109 % u83))]))) (fun _ k => iremM X98 hx rfl (hb hby at_117) rfl (mNe (by omega)) k) ?_
    obtain ⟨u112, hu112⟩ : ∃ z : Int32, z = (u109 % u83) := ⟨_, rfl⟩
    rw [← hu112]
    have t113 : 0 ≤ u112.toInt ∧ u112.toInt < (u83).toInt := by rw [hu112]; exact oRemI u109 u83 (by omega) (by omega)
    have r114 := rng32 u112
    refine OGoal.mp (S' := (T96.setTop (mkF m 120 #[.val (.int p1), .val (.int p2), .val (.int p3), .val (.int p4), .val (.int p5), .val (.int p6), .val (.ref a14), .val (.int u68), .val (.int u77), .val (.int u83), .val (.int u112), .unset] []))) (fun _ k => XS.istore X98.here hx rfl (hb hby at_118) rfl (l' := #[.val (.int p1), .val (.int p2), .val (.int p3), .val (.int p4), .val (.int p5), .val (.int p6), .val (.ref a14), .val (.int u68), .val (.int u77), .val (.int u83), .val (.int u112), .unset]) rfl k) ?_
    obtain ⟨k115, v116, q117, fv118, fp119, E120, F121, F122, F123, F124, F125, A126, A127, A128, E129, E130, E131, nn132, nn133, nn134, b135, b136, b137, b138⟩ := Dq101
    have nq139 := oNeA E120 (hw _ (List.mem_of_getElem? (i := 1) rfl)) A126
    have nq140 := oNeA E120 (hw _ (List.mem_of_getElem? (i := 1) rfl)) A127
    have nq141 := oNeA E120 (hw _ (List.mem_of_getElem? (i := 1) rfl)) A128
    refine OGoal.mp (S' := (T96.setTop (mkF m 121 #[.val (.int p1), .val (.int p2), .val (.int p3), .val (.int p4), .val (.int p5), .val (.int p6), .val (.ref a14), .val (.int u68), .val (.int u77), .val (.int u83), .val (.int u112), .unset] [(.int (4 : Int32))]))) (fun _ k => XS.iconst X98.here hx rfl (hb hby at_120) k) ?_
    obtain ⟨T142, h146, c149, X143, e144, E147, A148, XA152, st145⟩ := newPE X98 hx hZ (hw _ (List.mem_of_getElem? (i := 9) rfl)) rfl (g := mkF m 121 #[.val (.int p1), .val (.int p2), .val (.int p3), .val (.int p4), .val (.int p5), .val (.int p6), .val (.ref a14), .val (.int u68), .val (.int u77), .val (.int u83), .val (.int u112), .unset] [(.int (4 : Int32))]) rfl (hb hby at_121) rfl (by decide) (cap := 4) (by decide) (by decide) (by decide) (by decide) (ad := "[D") (by rfl)
    obtain ⟨a150, g151⟩ : ∃ z, z = T96.heap.size := ⟨_, rfl⟩
    rw [← g151] at A148 XA152 st145
    have lt153 : a14 < a150 := by rw [g151]; exact E120.lt
    have lt154 : k115 < a150 := by rw [g151]; exact A126.lt
    have F155 := E120.ext E147
    have F156 := F121.ext E147
    have F157 := F124.ext E147
    have F158 := A126.ext E147
    have F159 : OArr Z h146 a150 .double (4 : Int32) (fun _ => .double 0 : Nat → Value) := OArr.new A148 (by decide)
    have Z160 : n0 ≤ h146.size := Nat.le_trans Z103 E147.1
    have ab161 : n0 ≤ a150 := Nat.le_trans Z103 (Nat.le_of_eq g151.symm)
    refine OGoal.mp (S' := (T142.setTop (mkF m 123 #[.val (.int p1), .val (.int p2), .val (.int p3), .val (.int p4), .val (.int p5), .val (.int p6), .val (.ref a14), .val (.int u68), .val (.int u77), .val (.int u83), .val (.int u112), .unset] [(.ref a150)]))) (fun _ k => st145 _ k) ?_
    refine OGoal.mp (S' := (T142.setTop (mkF m 125 #[.val (.int p1), .val (.int p2), .val (.int p3), .val (.int p4), .val (.int p5), .val (.int p6), .val (.ref a14), .val (.int u68), .val (.int u77), .val (.int u83), .val (.int u112), .val (.ref a150)] []))) (fun _ k => XS.astore X143.here hx rfl (hb hby at_123) rfl rfl (l' := #[.val (.int p1), .val (.int p2), .val (.int p3), .val (.int p4), .val (.int p5), .val (.int p6), .val (.ref a14), .val (.int u68), .val (.int u77), .val (.int u83), .val (.int u112), .val (.ref a150)]) rfl k) ?_
    refine OGoal.mp (S' := (T142.setTop (mkF m 127 #[.val (.int p1), .val (.int p2), .val (.int p3), .val (.int p4), .val (.int p5), .val (.int p6), .val (.ref a14), .val (.int u68), .val (.int u77), .val (.int u83), .val (.int u112), .val (.ref a150)] [(.ref a150)]))) (fun _ k => XS.aload X143.here hx rfl (hb hby at_125) rfl rfl k) ?_
    refine OGoal.mp (S' := (T142.setTop (mkF m 128 #[.val (.int p1), .val (.int p2), .val (.int p3), .val (.int p4), .val (.int p5), .val (.int p6), .val (.ref a14), .val (.int u68), .val (.int u77), .val (.int u83), .val (.int u112), .val (.ref a150)] [(.int (0 : Int32)), (.ref a150)]))) (fun _ k => XS.iconst X143.here hx rfl (hb hby at_127) k) ?_
    refine OGoal.mp (S' := (T142.setTop (mkF m 129 #[.val (.int p1), .val (.int p2), .val (.int p3), .val (.int p4), .val (.int p5), .val (.int p6), .val (.ref a14), .val (.int u68), .val (.int u77), .val (.int u83), .val (.int u112), .val (.ref a150)] [(.int p1), (.int (0 : Int32)), (.ref a150)]))) (fun _ k => XS.iloadN X143.here hx rfl (hb hby at_128) rfl k) ?_
    refine OGoal.mp (S' := (T142.setTop (mkF m 130 #[.val (.int p1), .val (.int p2), .val (.int p3), .val (.int p4), .val (.int p5), .val (.int p6), .val (.ref a14), .val (.int u68), .val (.int u77), .val (.int u83), .val (.int u112), .val (.ref a150)] [(.double (FP.i2d p1)), (.int (0 : Int32)), (.ref a150)]))) (fun _ k => XS.i2dS X143.here hx rfl (hb hby at_129) rfl rfl k) ?_
    obtain ⟨T162, h166, X163, e164, W167, st165⟩ := oStD X143 hx hZ e144 F159 (by decide) (by decide) (g := mkF m 130 #[.val (.int p1), .val (.int p2), .val (.int p3), .val (.int p4), .val (.int p5), .val (.int p6), .val (.ref a14), .val (.int u68), .val (.int u77), .val (.int u83), .val (.int u112), .val (.ref a150)] [(.double (FP.i2d p1)), (.int (0 : Int32)), (.ref a150)]) rfl rfl (hb hby at_130)
    have N168 := Fr.snoc X163 N102 ab161
    have F169 := F155.wr W167
    have F170 := F156.other W167 (Or.inl (Nat.ne_of_lt lt153))
    have F171 := F157.other W167 (Or.inl (Nat.ne_of_lt lt153))
    have F172 := F158.other W167 (Nat.ne_of_lt lt154)
    have F173 : OArr Z h166 a150 .double (4 : Int32) (fun i => if i = ((0 : Int32)).toNatClampNeg then (.double (FP.i2d p1)) else (fun _ => .double 0 : Nat → Value) i : Nat → Value) := F159.set W167
    have F174 := XA152.wr W167
    have Z175 : n0 ≤ h166.size := Nat.le_trans Z160 (Keep.of_wr W167).1
    refine OGoal.mp (S' := (T162.setTop (mkF m 131 #[.val (.int p1), .val (.int p2), .val (.int p3), .val (.int p4), .val (.int p5), .val (.int p6), .val (.ref a14), .val (.int u68), .val (.int u77), .val (.int u83), .val (.int u112), .val (.ref a150)] []))) (fun _ k => st165 _ k) ?_
    refine OGoal.mp (S' := (T162.setTop (mkF m 133 #[.val (.int p1), .val (.int p2), .val (.int p3), .val (.int p4), .val (.int p5), .val (.int p6), .val (.ref a14), .val (.int u68), .val (.int u77), .val (.int u83), .val (.int u112), .val (.ref a150)] [(.ref a150)]))) (fun _ k => XS.aload X163.here hx rfl (hb hby at_131) rfl rfl k) ?_
    refine OGoal.mp (S' := (T162.setTop (mkF m 134 #[.val (.int p1), .val (.int p2), .val (.int p3), .val (.int p4), .val (.int p5), .val (.int p6), .val (.ref a14), .val (.int u68), .val (.int u77), .val (.int u83), .val (.int u112), .val (.ref a150)] [(.int (1 : Int32)), (.ref a150)]))) (fun _ k => XS.iconst X163.here hx rfl (hb hby at_133) k) ?_
    refine OGoal.mp (S' := (T162.setTop (mkF m 135 #[.val (.int p1), .val (.int p2), .val (.int p3), .val (.int p4), .val (.int p5), .val (.int p6), .val (.ref a14), .val (.int u68), .val (.int u77), .val (.int u83), .val (.int u112), .val (.ref a150)] [(.int p2), (.int (1 : Int32)), (.ref a150)]))) (fun _ k => XS.iloadN X163.here hx rfl (hb hby at_134) rfl k) ?_
    refine OGoal.mp (S' := (T162.setTop (mkF m 136 #[.val (.int p1), .val (.int p2), .val (.int p3), .val (.int p4), .val (.int p5), .val (.int p6), .val (.ref a14), .val (.int u68), .val (.int u77), .val (.int u83), .val (.int u112), .val (.ref a150)] [(.double (FP.i2d p2)), (.int (1 : Int32)), (.ref a150)]))) (fun _ k => XS.i2dS X163.here hx rfl (hb hby at_135) rfl rfl k) ?_
    obtain ⟨T176, h180, X177, e178, W181, st179⟩ := oStD X163 hx hZ e164 F173 (by decide) (by decide) (g := mkF m 136 #[.val (.int p1), .val (.int p2), .val (.int p3), .val (.int p4), .val (.int p5), .val (.int p6), .val (.ref a14), .val (.int u68), .val (.int u77), .val (.int u83), .val (.int u112), .val (.ref a150)] [(.double (FP.i2d p2)), (.int (1 : Int32)), (.ref a150)]) rfl rfl (hb hby at_136)
    have N182 := Fr.snoc X177 N168 ab161
    have F183 := F169.wr W181
    have F184 := F170.other W181 (Or.inl (Nat.ne_of_lt lt153))
    have F185 := F171.other W181 (Or.inl (Nat.ne_of_lt lt153))
    have F186 := F172.other W181 (Nat.ne_of_lt lt154)
    have F187 : OArr Z h180 a150 .double (4 : Int32) (fun i => if i = ((1 : Int32)).toNatClampNeg then (.double (FP.i2d p2)) else (fun i => if i = ((0 : Int32)).toNatClampNeg then (.double (FP.i2d p1)) else (fun _ => .double 0 : Nat → Value) i : Nat → Value) i : Nat → Value) := F173.set W181
    have F188 := F174.wr W181
    have Z189 : n0 ≤ h180.size := Nat.le_trans Z175 (Keep.of_wr W181).1
    refine OGoal.mp (S' := (T176.setTop (mkF m 137 #[.val (.int p1), .val (.int p2), .val (.int p3), .val (.int p4), .val (.int p5), .val (.int p6), .val (.ref a14), .val (.int u68), .val (.int u77), .val (.int u83), .val (.int u112), .val (.ref a150)] []))) (fun _ k => st179 _ k) ?_
    refine OGoal.mp (S' := (T176.setTop (mkF m 139 #[.val (.int p1), .val (.int p2), .val (.int p3), .val (.int p4), .val (.int p5), .val (.int p6), .val (.ref a14), .val (.int u68), .val (.int u77), .val (.int u83), .val (.int u112), .val (.ref a150)] [(.ref a150)]))) (fun _ k => XS.aload X177.here hx rfl (hb hby at_137) rfl rfl k) ?_
    refine OGoal.mp (S' := (T176.setTop (mkF m 140 #[.val (.int p1), .val (.int p2), .val (.int p3), .val (.int p4), .val (.int p5), .val (.int p6), .val (.ref a14), .val (.int u68), .val (.int u77), .val (.int u83), .val (.int u112), .val (.ref a150)] [(.int (2 : Int32)), (.ref a150)]))) (fun _ k => XS.iconst X177.here hx rfl (hb hby at_139) k) ?_
    refine OGoal.mp (S' := (T176.setTop (mkF m 141 #[.val (.int p1), .val (.int p2), .val (.int p3), .val (.int p4), .val (.int p5), .val (.int p6), .val (.ref a14), .val (.int u68), .val (.int u77), .val (.int u83), .val (.int u112), .val (.ref a150)] [(.int p3), (.int (2 : Int32)), (.ref a150)]))) (fun _ k => XS.iloadN X177.here hx rfl (hb hby at_140) rfl k) ?_
    refine OGoal.mp (S' := (T176.setTop (mkF m 142 #[.val (.int p1), .val (.int p2), .val (.int p3), .val (.int p4), .val (.int p5), .val (.int p6), .val (.ref a14), .val (.int u68), .val (.int u77), .val (.int u83), .val (.int u112), .val (.ref a150)] [(.double (FP.i2d p3)), (.int (2 : Int32)), (.ref a150)]))) (fun _ k => XS.i2dS X177.here hx rfl (hb hby at_141) rfl rfl k) ?_
    obtain ⟨T190, h194, X191, e192, W195, st193⟩ := oStD X177 hx hZ e178 F187 (by decide) (by decide) (g := mkF m 142 #[.val (.int p1), .val (.int p2), .val (.int p3), .val (.int p4), .val (.int p5), .val (.int p6), .val (.ref a14), .val (.int u68), .val (.int u77), .val (.int u83), .val (.int u112), .val (.ref a150)] [(.double (FP.i2d p3)), (.int (2 : Int32)), (.ref a150)]) rfl rfl (hb hby at_142)
    have N196 := Fr.snoc X191 N182 ab161
    have F197 := F183.wr W195
    have F198 := F184.other W195 (Or.inl (Nat.ne_of_lt lt153))
    have F199 := F185.other W195 (Or.inl (Nat.ne_of_lt lt153))
    have F200 := F186.other W195 (Nat.ne_of_lt lt154)
    have F201 : OArr Z h194 a150 .double (4 : Int32) (fun i => if i = ((2 : Int32)).toNatClampNeg then (.double (FP.i2d p3)) else (fun i => if i = ((1 : Int32)).toNatClampNeg then (.double (FP.i2d p2)) else (fun i => if i = ((0 : Int32)).toNatClampNeg then (.double (FP.i2d p1)) else (fun _ => .double 0 : Nat → Value) i : Nat → Value) i : Nat → Value) i : Nat → Value) := F187.set W195
    have F202 := F188.wr W195
    have Z203 : n0 ≤ h194.size := Nat.le_trans Z189 (Keep.of_wr W195).1
    refine OGoal.mp (S' := (T190.setTop (mkF m 143 #[.val (.int p1), .val (.int p2), .val (.int p3), .val (.int p4), .val (.int p5), .val (.int p6), .val (.ref a14), .val (.int u68), .val (.int u77), .val (.int u83), .val (.int u112), .val (.ref a150)] []))) (fun _ k => st193 _ k) ?_
    refine OGoal.mp (S' := (T190.setTop (mkF m 145 #[.val (.int p1), .val (.int p2), .val (.int p3), .val (.int p4), .val (.int p5), .val (.int p6), .val (.ref a14), .val (.int u68), .val (.int u77), .val (.int u83), .val (.int u112), .val (.ref a150)] [(.ref a150)]))) (fun _ k => XS.aload X191.here hx rfl (hb hby at_143) rfl rfl k) ?_
    refine OGoal.mp (S' := (T190.setTop (mkF m 146 #[.val (.int p1), .val (.int p2), .val (.int p3), .val (.int p4), .val (.int p5), .val (.int p6), .val (.ref a14), .val (.int u68), .val (.int u77), .val (.int u83), .val (.int u112), .val (.ref a150)] [(.int (3 : Int32)), (.ref a150)]))) (fun _ k => XS.iconst X191.here hx rfl (hb hby at_145) k) ?_
    refine OGoal.mp (S' := (T190.setTop (mkF m 147 #[.val (.int p1), .val (.int p2), .val (.int p3), .val (.int p4), .val (.int p5), .val (.int p6), .val (.ref a14), .val (.int u68), .val (.int u77), .val (.int u83), .val (.int u112), .val (.ref a150)] [(.int p4), (.int (3 : Int32)), (.ref a150)]))) (fun _ k => XS.iloadN X191.here hx rfl (hb hby at_146) rfl k) ?_
    refine OGoal.mp (S' := (T190.setTop (mkF m 148 #[.val (.int p1), .val (.int p2), .val (.int p3), .val (.int p4), .val (.int p5), .val (.int p6), .val (.ref a14), .val (.int u68), .val (.int u77), .val (.int u83), .val (.int u112), .val (.ref a150)] [(.double (FP.i2d p4)), (.int (3 : Int32)), (.ref a150)]))) (fun _ k => XS.i2dS X191.here hx rfl (hb hby at_147) rfl rfl k) ?_
    obtain ⟨T204, h208, X205, e206, W209, st207⟩ := oStD X191 hx hZ e192 F201 (by decide) (by decide) (g := mkF m 148 #[.val (.int p1), .val (.int p2), .val (.int p3), .val (.int p4), .val (.int p5), .val (.int p6), .val (.ref a14), .val (.int u68), .val (.int u77), .val (.int u83), .val (.int u112), .val (.ref a150)] [(.double (FP.i2d p4)), (.int (3 : Int32)), (.ref a150)]) rfl rfl (hb hby at_148)
    have N210 := Fr.snoc X205 N196 ab161
    have F211 := F197.wr W209
    have F212 := F198.other W209 (Or.inl (Nat.ne_of_lt lt153))
    have F213 := F199.other W209 (Or.inl (Nat.ne_of_lt lt153))
    have F214 := F200.other W209 (Nat.ne_of_lt lt154)
    have F215 : OArr Z h208 a150 .double (4 : Int32) (fun i => if i = ((3 : Int32)).toNatClampNeg then (.double (FP.i2d p4)) else (fun i => if i = ((2 : Int32)).toNatClampNeg then (.double (FP.i2d p3)) else (fun i => if i = ((1 : Int32)).toNatClampNeg then (.double (FP.i2d p2)) else (fun i => if i = ((0 : Int32)).toNatClampNeg then (.double (FP.i2d p1)) else (fun _ => .double 0 : Nat → Value) i : Nat → Value) i : Nat → Value) i : Nat → Value) i : Nat → Value) := F201.set W209
    have F216 := F202.wr W209
    have Z217 : n0 ≤ h208.size := Nat.le_trans Z203 (Keep.of_wr W209).1
    refine OGoal.mp (S' := (T204.setTop (mkF m 149 #[.val (.int p1), .val (.int p2), .val (.int p3), .val (.int p4), .val (.int p5), .val (.int p6), .val (.ref a14), .val (.int u68), .val (.int u77), .val (.int u83), .val (.int u112), .val (.ref a150)] []))) (fun _ k => st207 _ k) ?_
    refine OGoal.mp (S' := (T204.setTop (mkF m 151 #[.val (.int p1), .val (.int p2), .val (.int p3), .val (.int p4), .val (.int p5), .val (.int p6), .val (.ref a14), .val (.int u68), .val (.int u77), .val (.int u83), .val (.int u112), .val (.ref a150)] [(.ref a14)]))) (fun _ k => XS.aload X205.here hx rfl (hb hby at_149) rfl rfl k) ?_
    refine OGoal.mp (S' := (T204.setTop (mkF m 153 #[.val (.int p1), .val (.int p2), .val (.int p3), .val (.int p4), .val (.int p5), .val (.int p6), .val (.ref a14), .val (.int u68), .val (.int u77), .val (.int u83), .val (.int u112), .val (.ref a150)] [(.int u112), (.ref a14)]))) (fun _ k => XS.iload X205.here hx rfl (hb hby at_151) rfl k) ?_
    have ti := c_iadd u68 u112
    have tr := rng32 (u68 + u112)
    have hxv : (fun i => if i = 3 then (FP.i2d p4) else (fun i => if i = 2 then (FP.i2d p3) else (fun i => if i = 1 then (FP.i2d p2) else (fun i => if i = 0 then (FP.i2d p1) else (fun _ => 0) i) i) i) i) (u68 + u112).toNatClampNeg = (own_K p1 p2 p3 p4 (u68.toInt.toNat + u112.toInt.toNat)) := by
      have e1 : (u68 + u112).toNatClampNeg = (u68.toInt.toNat + u112.toInt.toNat) := by show (u68 + u112).toInt.toNat = _; omega
      rw [e1]; rfl
    refine oCallV (y := (⟨"com/example/stepwise_medians/stepwisemedians/engine/EntryDeque", "key", "(I)D"⟩ : MethodName)) (z := (⟨"com/example/stepwise_medians/stepwisemedians/engine/EntryDeque", "key", "(I)D"⟩ : MethodName)) X205 hx hZ hown (hw _ (List.mem_of_getElem? (i := 80) rfl)) (hw _ (List.mem_of_getElem? (i := 81) rfl)) (hw _ (List.mem_of_getElem? (i := 83) rfl)) (hw _ (List.mem_of_getElem? (i := 82) rfl)) (hw _ (List.mem_of_getElem? (i := 2) rfl)) (hw _ (List.mem_of_getElem? (i := 84) rfl)) (by decide) (rmKey l Z a0 hw a14 u112 h208 n0 Z217 k115 u68 (fun i => if i = 3 then (FP.i2d p4) else (fun i => if i = 2 then (FP.i2d p3) else (fun i => if i = 1 then (FP.i2d p2) else (fun i => if i = 0 then (FP.i2d p1) else (fun _ => 0) i) i) i) i) (own_K p1 p2 p3 p4 (u68.toInt.toNat + u112.toInt.toNat)) F212 F213 F214 (by omega) (by omega) hxv) e206 F211 [(.int u112)] [] rfl rfl (by rw [hml]; rfl) (notFace_of_selects (args := #[]) (mvT hZ (hw _ (List.mem_of_getElem? (i := 83) rfl)))) (lenOf own_pd__I_D rfl) 0 (Nat.le_of_eq rfl) (by decide) (by decide) (by decide) (by decide) (hb hby at_153) ?_
    intro v218 T219 L220 X221 q222
    obtain ⟨rfl, N223, e224⟩ := q222
    have N225 := Fr.app N210 N223
    show OGoal p e below s _ _ _ (T219.setTop (mkF m 156 #[.val (.int p1), .val (.int p2), .val (.int p3), .val (.int p4), .val (.int p5), .val (.int p6), .val (.ref a14), .val (.int u68), .val (.int u77), .val (.int u83), .val (.int u112), .val (.ref a150)] [(.double (own_K p1 p2 p3 p4 (u68.toInt.toNat + u112.toInt.toNat)))]))
    refine OGoal.mp (S' := (T219.setTop (mkF m 158 #[.val (.int p1), .val (.int p2), .val (.int p3), .val (.int p4), .val (.int p5), .val (.int p6), .val (.ref a14), .val (.int u68), .val (.int u77), .val (.int u83), .val (.int u112), .val (.ref a150)] [(.ref a150), (.double (own_K p1 p2 p3 p4 (u68.toInt.toNat + u112.toInt.toNat)))]))) (fun _ k => XS.aload X221.here hx rfl (hb hby at_156) rfl rfl k) ?_
    refine OGoal.mp (S' := (T219.setTop (mkF m 160 #[.val (.int p1), .val (.int p2), .val (.int p3), .val (.int p4), .val (.int p5), .val (.int p6), .val (.ref a14), .val (.int u68), .val (.int u77), .val (.int u83), .val (.int u112), .val (.ref a150)] [(.int u68), (.ref a150), (.double (own_K p1 p2 p3 p4 (u68.toInt.toNat + u112.toInt.toNat)))]))) (fun _ k => XS.iload X221.here hx rfl (hb hby at_158) rfl k) ?_
    refine OGoal.mp (S' := (T219.setTop (mkF m 162 #[.val (.int p1), .val (.int p2), .val (.int p3), .val (.int p4), .val (.int p5), .val (.int p6), .val (.ref a14), .val (.int u68), .val (.int u77), .val (.int u83), .val (.int u112), .val (.ref a150)] [(.int u112), (.int u68), (.ref a150), (.double (own_K p1 p2 p3 p4 (u68.toInt.toNat + u112.toInt.toNat)))]))) (fun _ k => XS.iload X221.here hx rfl (hb hby at_160) rfl k) ?_
    refine OGoal.mp (S' := (T219.setTop (mkF m 163 #[.val (.int p1), .val (.int p2), .val (.int p3), .val (.int p4), .val (.int p5), .val (.int p6), .val (.ref a14), .val (.int u68), .val (.int u77), .val (.int u83), .val (.int u112), .val (.ref a150)] [(.int (u68 + u112)), (.ref a150), (.double (own_K p1 p2 p3 p4 (u68.toInt.toNat + u112.toInt.toNat)))]))) (fun _ k => XS.iadd X221.here hx rfl (hb hby at_162) rfl k) ?_
    obtain ⟨u226, hu226⟩ : ∃ z : Int32, z = (u68 + u112) := ⟨_, rfl⟩
    rw [← hu226]
    have t227 : (u226.toInt - ((u68).toInt + (u112).toInt)) % 4294967296 = 0 := by rw [hu226]; exact c_iadd u68 u112
    have r228 := rng32 u226
    have hA : ∀ i, i < 4 → (fun i => if i = ((3 : Int32)).toNatClampNeg then (.double (FP.i2d p4)) else (fun i => if i = ((2 : Int32)).toNatClampNeg then (.double (FP.i2d p3)) else (fun i => if i = ((1 : Int32)).toNatClampNeg then (.double (FP.i2d p2)) else (fun i => if i = ((0 : Int32)).toNatClampNeg then (.double (FP.i2d p1)) else (fun _ => .double 0 : Nat → Value) i : Nat → Value) i : Nat → Value) i : Nat → Value) i : Nat → Value) i = .double (own_K p1 p2 p3 p4 i) := fun i hi => match i, hi with
      | 0, _ => rfl
      | 1, _ => rfl
      | 2, _ => rfl
      | 3, _ => rfl
    have ej : u226.toNatClampNeg = (u68.toInt.toNat + u112.toInt.toNat) := by show u226.toInt.toNat = _; omega
    refine OGoal.mp (S' := (T219.setTop (mkF m 164 #[.val (.int p1), .val (.int p2), .val (.int p3), .val (.int p4), .val (.int p5), .val (.int p6), .val (.ref a14), .val (.int u68), .val (.int u77), .val (.int u83), .val (.int u112), .val (.ref a150)] [(.double (own_K p1 p2 p3 p4 (u68.toInt.toNat + u112.toInt.toNat))), (.double (own_K p1 p2 p3 p4 (u68.toInt.toNat + u112.toInt.toNat)))]))) (fun _ k => oLdD X221 hx hZ e224 F215 (by omega) (by omega) (by rw [ej]; exact hA _ (by omega)) (g := mkF m 163 #[.val (.int p1), .val (.int p2), .val (.int p3), .val (.int p4), .val (.int p5), .val (.int p6), .val (.ref a14), .val (.int u68), .val (.int u77), .val (.int u83), .val (.int u112), .val (.ref a150)] [(.int u226), (.ref a150), (.double (own_K p1 p2 p3 p4 (u68.toInt.toNat + u112.toInt.toNat)))]) rfl rfl (hb hby at_163) k) ?_
    refine OGoal.mp (S' := (T219.setTop (mkF m 165 #[.val (.int p1), .val (.int p2), .val (.int p3), .val (.int p4), .val (.int p5), .val (.int p6), .val (.ref a14), .val (.int u68), .val (.int u77), .val (.int u83), .val (.int u112), .val (.ref a150)] [(.int (0 : Int32))]))) (fun _ k => XS.dcmpS (g := mkF m 164 #[.val (.int p1), .val (.int p2), .val (.int p3), .val (.int p4), .val (.int p5), .val (.int p6), .val (.ref a14), .val (.int u68), .val (.int u77), .val (.int u83), .val (.int u112), .val (.ref a150)] [(.double (own_K p1 p2 p3 p4 (u68.toInt.toNat + u112.toInt.toNat))), (.double (own_K p1 p2 p3 p4 (u68.toInt.toNat + u112.toInt.toNat)))]) (o := .l) (x := (own_K p1 p2 p3 p4 (u68.toInt.toNat + u112.toInt.toNat))) (y := (own_K p1 p2 p3 p4 (u68.toInt.toNat + u112.toInt.toNat))) (v := (0 : Int32)) (rest := []) X221.here hx rfl (hb hby at_164) rfl (dcmpV_self (own_Kn _ _ _ _ _) _) k) ?_
    have hd229 : (0 : Int32) = 0 := mEq (by omega)
    refine OGoal.mp (S' := (T219.setTop (mkF m 168 #[.val (.int p1), .val (.int p2), .val (.int p3), .val (.int p4), .val (.int p5), .val (.int p6), .val (.ref a14), .val (.int u68), .val (.int u77), .val (.int u83), .val (.int u112), .val (.ref a150)] []))) (fun _ k => XS.ifNo X221.here hx rfl (hb hby at_165) rfl (XT.i0_ne_f hd229) k) ?_
    refine OGoal.mp (S' := (T219.setTop (mkF m 169 #[.val (.int p1), .val (.int p2), .val (.int p3), .val (.int p4), .val (.int p5), .val (.int p6), .val (.ref a14), .val (.int u68), .val (.int u77), .val (.int u83), .val (.int u112), .val (.ref a150)] [(.int (1 : Int32))]))) (fun _ k => XS.iconst X221.here hx rfl (hb hby at_168) k) ?_
    refine OGoal.mp (S' := (T219.setTop (mkF m 173 #[.val (.int p1), .val (.int p2), .val (.int p3), .val (.int p4), .val (.int p5), .val (.int p6), .val (.ref a14), .val (.int u68), .val (.int u77), .val (.int u83), .val (.int u112), .val (.ref a150)] [(.int (1 : Int32))]))) (fun _ k => XS.goto X221.here hx rfl (pc0 := 169) (pc' := 173) rfl (hb hby at_169) (by decide) (by decide) k) ?_
    refine oRetZ X221 hx hlk hret (Or.inr rfl) (hb hby at_173) ?_ (by decide) (by decide)
    exact ⟨rfl, N225⟩
  · have g230 := oNe hc107
    refine OGoal.mp (S' := (T96.setTop (mkF m 104 #[.val (.int p1), .val (.int p2), .val (.int p3), .val (.int p4), .val (.int p5), .val (.int p6), .val (.ref a14), .val (.int u68), .val (.int u77), .val (.int u83), .unset, .unset] []))) (fun _ k => XS.ifNo X98.here hx rfl (hb hby at_101) rfl (XT.i0_eq_f hc107) k) ?_
    refine OGoal.mp (S' := (T96.setTop (mkF m 106 #[.val (.int p1), .val (.int p2), .val (.int p3), .val (.int p4), .val (.int p5), .val (.int p6), .val (.ref a14), .val (.int u68), .val (.int u77), .val (.int u83), .unset, .unset] [(.ref a14)]))) (fun _ k => XS.aload X98.here hx rfl (hb hby at_104) rfl rfl k) ?_
    have tc1 := c_isub (4 : Int32) u77
    have tc2 := rng32 ((4 : Int32) - u77)
    have tc3 := c_isub ((4 : Int32) - u77) u68
    have tc4 := rng32 (((4 : Int32) - u77) - u68)
    refine oCallV (y := (⟨"com/example/stepwise_medians/stepwisemedians/engine/EntryDeque", "copy", "()Lcom/example/stepwise_medians/stepwisemedians/engine/EntryDeque;"⟩ : MethodName)) (z := (⟨"com/example/stepwise_medians/stepwisemedians/engine/EntryDeque", "copy", "()Lcom/example/stepwise_medians/stepwisemedians/engine/EntryDeque;"⟩ : MethodName)) X98 hx hZ hown (hw _ (List.mem_of_getElem? (i := 36) rfl)) (hw _ (List.mem_of_getElem? (i := 37) rfl)) (hw _ (List.mem_of_getElem? (i := 39) rfl)) (hw _ (List.mem_of_getElem? (i := 38) rfl)) (hw _ (List.mem_of_getElem? (i := 2) rfl)) (hw _ (List.mem_of_getElem? (i := 40) rfl)) (by decide) (rmCp l Z a0 hw a14 T96.heap n0 Z103 u68 ((4 : Int32) - u77) (fun i => if i = 3 then (FP.i2d p4) else (fun i => if i = 2 then (FP.i2d p3) else (fun i => if i = 1 then (FP.i2d p2) else (fun i => if i = 0 then (FP.i2d p1) else (fun _ => 0) i) i) i) i) Dq101 (by omega) (by omega)) rfl Dq101.exa [] [] rfl rfl (by rw [hml]; rfl) (notFace_of_selects (args := #[]) (mvT hZ (hw _ (List.mem_of_getElem? (i := 39) rfl)))) (lenOf own_pd___Lcom_example_stepwise_medians_stepwisemedians_engine_EntryDeque_ rfl) 0 (Nat.le_of_eq rfl) (by decide) (by decide) (by decide) (by decide) (hb hby at_106) ?_
    intro v232 T233 L234 X235 q236
    obtain ⟨b231, rfl, N237, Dq238⟩ := q236
    have N239 := Fr.app N102 N237
    have Z240 := Dq238.sz.1
    show OGoal p e below s _ _ _ (T233.setTop (mkF m 109 #[.val (.int p1), .val (.int p2), .val (.int p3), .val (.int p4), .val (.int p5), .val (.int p6), .val (.ref a14), .val (.int u68), .val (.int u77), .val (.int u83), .unset, .unset] [(.ref b231)]))
    refine OGoal.mp (S' := (T233.setTop (mkF m 111 #[.val (.int p1), .val (.int p2), .val (.int p3), .val (.int p4), .val (.int p5), .val (.int p6), .val (.ref b231), .val (.int u68), .val (.int u77), .val (.int u83), .unset, .unset] []))) (fun _ k => XS.astore X235.here hx rfl (hb hby at_109) rfl rfl (l' := #[.val (.int p1), .val (.int p2), .val (.int p3), .val (.int p4), .val (.int p5), .val (.int p6), .val (.ref b231), .val (.int u68), .val (.int u77), .val (.int u83), .unset, .unset]) rfl k) ?_
    refine OGoal.mp (S' := (T233.setTop (mkF m 113 #[.val (.int p1), .val (.int p2), .val (.int p3), .val (.int p4), .val (.int p5), .val (.int p6), .val (.ref b231), .val (.int u68), .val (.int u77), .val (.int u83), .unset, .unset] [(.int p6)]))) (fun _ k => XS.iload X235.here hx rfl (hb hby at_111) rfl k) ?_
    refine OGoal.mp (S' := (T233.setTop (mkF m 114 #[.val (.int p1), .val (.int p2), .val (.int p3), .val (.int p4), .val (.int p5), .val (.int p6), .val (.ref b231), .val (.int u68), .val (.int u77), .val (.int u83), .unset, .unset] [(.int (1 : Int32)), (.int p6)]))) (fun _ k => XS.iconst X235.here hx rfl (hb hby at_113) k) ?_
    refine OGoal.mp (S' := (T233.setTop (mkF m 115 #[.val (.int p1), .val (.int p2), .val (.int p3), .val (.int p4), .val (.int p5), .val (.int p6), .val (.ref b231), .val (.int u68), .val (.int u77), .val (.int u83), .unset, .unset] [(.int (XT.ushr p6 (1 : Int32)))]))) (fun _ k => XT.iushr X235.here hx rfl (hb hby at_114) rfl k) ?_
    obtain ⟨u241, hu241⟩ : ∃ z : Int32, z = (XT.ushr p6 (1 : Int32)) := ⟨_, rfl⟩
    rw [← hu241]
    have t242 : u241.toInt = (p6).toInt % 4294967296 / 2 := by rw [hu241]; exact c_iushr p6 (1 : Int32) 1 (by decide) (by decide)
    have r243 := rng32 u241
    refine OGoal.mp (S' := (T233.setTop (mkF m 117 #[.val (.int p1), .val (.int p2), .val (.int p3), .val (.int p4), .val (.int p5), .val (.int p6), .val (.ref b231), .val (.int u68), .val (.int u77), .val (.int u83), .unset, .unset] [(.int u83), (.int u241)]))) (fun _ k => XS.iload X235.here hx rfl (hb hby at_115) rfl k) ?_
    refine OGoal.mp (S' := (T233.setTop (mkF m 118 #[.val (.int p1), .val (.int p2), .val (.int p3), .val (.int p4), .val (.int p5), .val (.int p6), .val (.ref b231), .val (.int u68), .val (.int u77), .val (.int u83), .unset, .unset] [(.int (u241 % u83))]))) (fun _ k => iremM X235 hx rfl (hb hby at_117) rfl (mNe (by omega)) k) ?_
    obtain ⟨u244, hu244⟩ : ∃ z : Int32, z = (u241 % u83) := ⟨_, rfl⟩
    rw [← hu244]
    have t245 : 0 ≤ u244.toInt ∧ u244.toInt < (u83).toInt := by rw [hu244]; exact oRemI u241 u83 (by omega) (by omega)
    have r246 := rng32 u244
    refine OGoal.mp (S' := (T233.setTop (mkF m 120 #[.val (.int p1), .val (.int p2), .val (.int p3), .val (.int p4), .val (.int p5), .val (.int p6), .val (.ref b231), .val (.int u68), .val (.int u77), .val (.int u83), .val (.int u244), .unset] []))) (fun _ k => XS.istore X235.here hx rfl (hb hby at_118) rfl (l' := #[.val (.int p1), .val (.int p2), .val (.int p3), .val (.int p4), .val (.int p5), .val (.int p6), .val (.ref b231), .val (.int u68), .val (.int u77), .val (.int u83), .val (.int u244), .unset]) rfl k) ?_
    obtain ⟨k247, v248, q249, fv250, fp251, E252, F253, F254, F255, F256, F257, A258, A259, A260, E261, E262, E263, nn264, nn265, nn266, b267, b268, b269, b270⟩ := Dq238
    have nq271 := oNeA E252 (hw _ (List.mem_of_getElem? (i := 1) rfl)) A258
    have nq272 := oNeA E252 (hw _ (List.mem_of_getElem? (i := 1) rfl)) A259
    have nq273 := oNeA E252 (hw _ (List.mem_of_getElem? (i := 1) rfl)) A260
    refine OGoal.mp (S' := (T233.setTop (mkF m 121 #[.val (.int p1), .val (.int p2), .val (.int p3), .val (.int p4), .val (.int p5), .val (.int p6), .val (.ref b231), .val (.int u68), .val (.int u77), .val (.int u83), .val (.int u244), .unset] [(.int (4 : Int32))]))) (fun _ k => XS.iconst X235.here hx rfl (hb hby at_120) k) ?_
    obtain ⟨T274, h278, c281, X275, e276, E279, A280, XA284, st277⟩ := newPE X235 hx hZ (hw _ (List.mem_of_getElem? (i := 9) rfl)) rfl (g := mkF m 121 #[.val (.int p1), .val (.int p2), .val (.int p3), .val (.int p4), .val (.int p5), .val (.int p6), .val (.ref b231), .val (.int u68), .val (.int u77), .val (.int u83), .val (.int u244), .unset] [(.int (4 : Int32))]) rfl (hb hby at_121) rfl (by decide) (cap := 4) (by decide) (by decide) (by decide) (by decide) (ad := "[D") (by rfl)
    obtain ⟨a282, g283⟩ : ∃ z, z = T233.heap.size := ⟨_, rfl⟩
    rw [← g283] at A280 XA284 st277
    have lt285 : b231 < a282 := by rw [g283]; exact E252.lt
    have lt286 : k247 < a282 := by rw [g283]; exact A258.lt
    have F287 := E252.ext E279
    have F288 := F253.ext E279
    have F289 := F256.ext E279
    have F290 := A258.ext E279
    have F291 : OArr Z h278 a282 .double (4 : Int32) (fun _ => .double 0 : Nat → Value) := OArr.new A280 (by decide)
    have Z292 : n0 ≤ h278.size := Nat.le_trans Z240 E279.1
    have ab293 : n0 ≤ a282 := Nat.le_trans Z240 (Nat.le_of_eq g283.symm)
    refine OGoal.mp (S' := (T274.setTop (mkF m 123 #[.val (.int p1), .val (.int p2), .val (.int p3), .val (.int p4), .val (.int p5), .val (.int p6), .val (.ref b231), .val (.int u68), .val (.int u77), .val (.int u83), .val (.int u244), .unset] [(.ref a282)]))) (fun _ k => st277 _ k) ?_
    refine OGoal.mp (S' := (T274.setTop (mkF m 125 #[.val (.int p1), .val (.int p2), .val (.int p3), .val (.int p4), .val (.int p5), .val (.int p6), .val (.ref b231), .val (.int u68), .val (.int u77), .val (.int u83), .val (.int u244), .val (.ref a282)] []))) (fun _ k => XS.astore X275.here hx rfl (hb hby at_123) rfl rfl (l' := #[.val (.int p1), .val (.int p2), .val (.int p3), .val (.int p4), .val (.int p5), .val (.int p6), .val (.ref b231), .val (.int u68), .val (.int u77), .val (.int u83), .val (.int u244), .val (.ref a282)]) rfl k) ?_
    refine OGoal.mp (S' := (T274.setTop (mkF m 127 #[.val (.int p1), .val (.int p2), .val (.int p3), .val (.int p4), .val (.int p5), .val (.int p6), .val (.ref b231), .val (.int u68), .val (.int u77), .val (.int u83), .val (.int u244), .val (.ref a282)] [(.ref a282)]))) (fun _ k => XS.aload X275.here hx rfl (hb hby at_125) rfl rfl k) ?_
    refine OGoal.mp (S' := (T274.setTop (mkF m 128 #[.val (.int p1), .val (.int p2), .val (.int p3), .val (.int p4), .val (.int p5), .val (.int p6), .val (.ref b231), .val (.int u68), .val (.int u77), .val (.int u83), .val (.int u244), .val (.ref a282)] [(.int (0 : Int32)), (.ref a282)]))) (fun _ k => XS.iconst X275.here hx rfl (hb hby at_127) k) ?_
    refine OGoal.mp (S' := (T274.setTop (mkF m 129 #[.val (.int p1), .val (.int p2), .val (.int p3), .val (.int p4), .val (.int p5), .val (.int p6), .val (.ref b231), .val (.int u68), .val (.int u77), .val (.int u83), .val (.int u244), .val (.ref a282)] [(.int p1), (.int (0 : Int32)), (.ref a282)]))) (fun _ k => XS.iloadN X275.here hx rfl (hb hby at_128) rfl k) ?_
    refine OGoal.mp (S' := (T274.setTop (mkF m 130 #[.val (.int p1), .val (.int p2), .val (.int p3), .val (.int p4), .val (.int p5), .val (.int p6), .val (.ref b231), .val (.int u68), .val (.int u77), .val (.int u83), .val (.int u244), .val (.ref a282)] [(.double (FP.i2d p1)), (.int (0 : Int32)), (.ref a282)]))) (fun _ k => XS.i2dS X275.here hx rfl (hb hby at_129) rfl rfl k) ?_
    obtain ⟨T294, h298, X295, e296, W299, st297⟩ := oStD X275 hx hZ e276 F291 (by decide) (by decide) (g := mkF m 130 #[.val (.int p1), .val (.int p2), .val (.int p3), .val (.int p4), .val (.int p5), .val (.int p6), .val (.ref b231), .val (.int u68), .val (.int u77), .val (.int u83), .val (.int u244), .val (.ref a282)] [(.double (FP.i2d p1)), (.int (0 : Int32)), (.ref a282)]) rfl rfl (hb hby at_130)
    have N300 := Fr.snoc X295 N239 ab293
    have F301 := F287.wr W299
    have F302 := F288.other W299 (Or.inl (Nat.ne_of_lt lt285))
    have F303 := F289.other W299 (Or.inl (Nat.ne_of_lt lt285))
    have F304 := F290.other W299 (Nat.ne_of_lt lt286)
    have F305 : OArr Z h298 a282 .double (4 : Int32) (fun i => if i = ((0 : Int32)).toNatClampNeg then (.double (FP.i2d p1)) else (fun _ => .double 0 : Nat → Value) i : Nat → Value) := F291.set W299
    have F306 := XA284.wr W299
    have Z307 : n0 ≤ h298.size := Nat.le_trans Z292 (Keep.of_wr W299).1
    refine OGoal.mp (S' := (T294.setTop (mkF m 131 #[.val (.int p1), .val (.int p2), .val (.int p3), .val (.int p4), .val (.int p5), .val (.int p6), .val (.ref b231), .val (.int u68), .val (.int u77), .val (.int u83), .val (.int u244), .val (.ref a282)] []))) (fun _ k => st297 _ k) ?_
    refine OGoal.mp (S' := (T294.setTop (mkF m 133 #[.val (.int p1), .val (.int p2), .val (.int p3), .val (.int p4), .val (.int p5), .val (.int p6), .val (.ref b231), .val (.int u68), .val (.int u77), .val (.int u83), .val (.int u244), .val (.ref a282)] [(.ref a282)]))) (fun _ k => XS.aload X295.here hx rfl (hb hby at_131) rfl rfl k) ?_
    refine OGoal.mp (S' := (T294.setTop (mkF m 134 #[.val (.int p1), .val (.int p2), .val (.int p3), .val (.int p4), .val (.int p5), .val (.int p6), .val (.ref b231), .val (.int u68), .val (.int u77), .val (.int u83), .val (.int u244), .val (.ref a282)] [(.int (1 : Int32)), (.ref a282)]))) (fun _ k => XS.iconst X295.here hx rfl (hb hby at_133) k) ?_
    refine OGoal.mp (S' := (T294.setTop (mkF m 135 #[.val (.int p1), .val (.int p2), .val (.int p3), .val (.int p4), .val (.int p5), .val (.int p6), .val (.ref b231), .val (.int u68), .val (.int u77), .val (.int u83), .val (.int u244), .val (.ref a282)] [(.int p2), (.int (1 : Int32)), (.ref a282)]))) (fun _ k => XS.iloadN X295.here hx rfl (hb hby at_134) rfl k) ?_
    refine OGoal.mp (S' := (T294.setTop (mkF m 136 #[.val (.int p1), .val (.int p2), .val (.int p3), .val (.int p4), .val (.int p5), .val (.int p6), .val (.ref b231), .val (.int u68), .val (.int u77), .val (.int u83), .val (.int u244), .val (.ref a282)] [(.double (FP.i2d p2)), (.int (1 : Int32)), (.ref a282)]))) (fun _ k => XS.i2dS X295.here hx rfl (hb hby at_135) rfl rfl k) ?_
    obtain ⟨T308, h312, X309, e310, W313, st311⟩ := oStD X295 hx hZ e296 F305 (by decide) (by decide) (g := mkF m 136 #[.val (.int p1), .val (.int p2), .val (.int p3), .val (.int p4), .val (.int p5), .val (.int p6), .val (.ref b231), .val (.int u68), .val (.int u77), .val (.int u83), .val (.int u244), .val (.ref a282)] [(.double (FP.i2d p2)), (.int (1 : Int32)), (.ref a282)]) rfl rfl (hb hby at_136)
    have N314 := Fr.snoc X309 N300 ab293
    have F315 := F301.wr W313
    have F316 := F302.other W313 (Or.inl (Nat.ne_of_lt lt285))
    have F317 := F303.other W313 (Or.inl (Nat.ne_of_lt lt285))
    have F318 := F304.other W313 (Nat.ne_of_lt lt286)
    have F319 : OArr Z h312 a282 .double (4 : Int32) (fun i => if i = ((1 : Int32)).toNatClampNeg then (.double (FP.i2d p2)) else (fun i => if i = ((0 : Int32)).toNatClampNeg then (.double (FP.i2d p1)) else (fun _ => .double 0 : Nat → Value) i : Nat → Value) i : Nat → Value) := F305.set W313
    have F320 := F306.wr W313
    have Z321 : n0 ≤ h312.size := Nat.le_trans Z307 (Keep.of_wr W313).1
    refine OGoal.mp (S' := (T308.setTop (mkF m 137 #[.val (.int p1), .val (.int p2), .val (.int p3), .val (.int p4), .val (.int p5), .val (.int p6), .val (.ref b231), .val (.int u68), .val (.int u77), .val (.int u83), .val (.int u244), .val (.ref a282)] []))) (fun _ k => st311 _ k) ?_
    refine OGoal.mp (S' := (T308.setTop (mkF m 139 #[.val (.int p1), .val (.int p2), .val (.int p3), .val (.int p4), .val (.int p5), .val (.int p6), .val (.ref b231), .val (.int u68), .val (.int u77), .val (.int u83), .val (.int u244), .val (.ref a282)] [(.ref a282)]))) (fun _ k => XS.aload X309.here hx rfl (hb hby at_137) rfl rfl k) ?_
    refine OGoal.mp (S' := (T308.setTop (mkF m 140 #[.val (.int p1), .val (.int p2), .val (.int p3), .val (.int p4), .val (.int p5), .val (.int p6), .val (.ref b231), .val (.int u68), .val (.int u77), .val (.int u83), .val (.int u244), .val (.ref a282)] [(.int (2 : Int32)), (.ref a282)]))) (fun _ k => XS.iconst X309.here hx rfl (hb hby at_139) k) ?_
    refine OGoal.mp (S' := (T308.setTop (mkF m 141 #[.val (.int p1), .val (.int p2), .val (.int p3), .val (.int p4), .val (.int p5), .val (.int p6), .val (.ref b231), .val (.int u68), .val (.int u77), .val (.int u83), .val (.int u244), .val (.ref a282)] [(.int p3), (.int (2 : Int32)), (.ref a282)]))) (fun _ k => XS.iloadN X309.here hx rfl (hb hby at_140) rfl k) ?_
    refine OGoal.mp (S' := (T308.setTop (mkF m 142 #[.val (.int p1), .val (.int p2), .val (.int p3), .val (.int p4), .val (.int p5), .val (.int p6), .val (.ref b231), .val (.int u68), .val (.int u77), .val (.int u83), .val (.int u244), .val (.ref a282)] [(.double (FP.i2d p3)), (.int (2 : Int32)), (.ref a282)]))) (fun _ k => XS.i2dS X309.here hx rfl (hb hby at_141) rfl rfl k) ?_
    obtain ⟨T322, h326, X323, e324, W327, st325⟩ := oStD X309 hx hZ e310 F319 (by decide) (by decide) (g := mkF m 142 #[.val (.int p1), .val (.int p2), .val (.int p3), .val (.int p4), .val (.int p5), .val (.int p6), .val (.ref b231), .val (.int u68), .val (.int u77), .val (.int u83), .val (.int u244), .val (.ref a282)] [(.double (FP.i2d p3)), (.int (2 : Int32)), (.ref a282)]) rfl rfl (hb hby at_142)
    have N328 := Fr.snoc X323 N314 ab293
    have F329 := F315.wr W327
    have F330 := F316.other W327 (Or.inl (Nat.ne_of_lt lt285))
    have F331 := F317.other W327 (Or.inl (Nat.ne_of_lt lt285))
    have F332 := F318.other W327 (Nat.ne_of_lt lt286)
    have F333 : OArr Z h326 a282 .double (4 : Int32) (fun i => if i = ((2 : Int32)).toNatClampNeg then (.double (FP.i2d p3)) else (fun i => if i = ((1 : Int32)).toNatClampNeg then (.double (FP.i2d p2)) else (fun i => if i = ((0 : Int32)).toNatClampNeg then (.double (FP.i2d p1)) else (fun _ => .double 0 : Nat → Value) i : Nat → Value) i : Nat → Value) i : Nat → Value) := F319.set W327
    have F334 := F320.wr W327
    have Z335 : n0 ≤ h326.size := Nat.le_trans Z321 (Keep.of_wr W327).1
    refine OGoal.mp (S' := (T322.setTop (mkF m 143 #[.val (.int p1), .val (.int p2), .val (.int p3), .val (.int p4), .val (.int p5), .val (.int p6), .val (.ref b231), .val (.int u68), .val (.int u77), .val (.int u83), .val (.int u244), .val (.ref a282)] []))) (fun _ k => st325 _ k) ?_
    refine OGoal.mp (S' := (T322.setTop (mkF m 145 #[.val (.int p1), .val (.int p2), .val (.int p3), .val (.int p4), .val (.int p5), .val (.int p6), .val (.ref b231), .val (.int u68), .val (.int u77), .val (.int u83), .val (.int u244), .val (.ref a282)] [(.ref a282)]))) (fun _ k => XS.aload X323.here hx rfl (hb hby at_143) rfl rfl k) ?_
    refine OGoal.mp (S' := (T322.setTop (mkF m 146 #[.val (.int p1), .val (.int p2), .val (.int p3), .val (.int p4), .val (.int p5), .val (.int p6), .val (.ref b231), .val (.int u68), .val (.int u77), .val (.int u83), .val (.int u244), .val (.ref a282)] [(.int (3 : Int32)), (.ref a282)]))) (fun _ k => XS.iconst X323.here hx rfl (hb hby at_145) k) ?_
    refine OGoal.mp (S' := (T322.setTop (mkF m 147 #[.val (.int p1), .val (.int p2), .val (.int p3), .val (.int p4), .val (.int p5), .val (.int p6), .val (.ref b231), .val (.int u68), .val (.int u77), .val (.int u83), .val (.int u244), .val (.ref a282)] [(.int p4), (.int (3 : Int32)), (.ref a282)]))) (fun _ k => XS.iloadN X323.here hx rfl (hb hby at_146) rfl k) ?_
    refine OGoal.mp (S' := (T322.setTop (mkF m 148 #[.val (.int p1), .val (.int p2), .val (.int p3), .val (.int p4), .val (.int p5), .val (.int p6), .val (.ref b231), .val (.int u68), .val (.int u77), .val (.int u83), .val (.int u244), .val (.ref a282)] [(.double (FP.i2d p4)), (.int (3 : Int32)), (.ref a282)]))) (fun _ k => XS.i2dS X323.here hx rfl (hb hby at_147) rfl rfl k) ?_
    obtain ⟨T336, h340, X337, e338, W341, st339⟩ := oStD X323 hx hZ e324 F333 (by decide) (by decide) (g := mkF m 148 #[.val (.int p1), .val (.int p2), .val (.int p3), .val (.int p4), .val (.int p5), .val (.int p6), .val (.ref b231), .val (.int u68), .val (.int u77), .val (.int u83), .val (.int u244), .val (.ref a282)] [(.double (FP.i2d p4)), (.int (3 : Int32)), (.ref a282)]) rfl rfl (hb hby at_148)
    have N342 := Fr.snoc X337 N328 ab293
    have F343 := F329.wr W341
    have F344 := F330.other W341 (Or.inl (Nat.ne_of_lt lt285))
    have F345 := F331.other W341 (Or.inl (Nat.ne_of_lt lt285))
    have F346 := F332.other W341 (Nat.ne_of_lt lt286)
    have F347 : OArr Z h340 a282 .double (4 : Int32) (fun i => if i = ((3 : Int32)).toNatClampNeg then (.double (FP.i2d p4)) else (fun i => if i = ((2 : Int32)).toNatClampNeg then (.double (FP.i2d p3)) else (fun i => if i = ((1 : Int32)).toNatClampNeg then (.double (FP.i2d p2)) else (fun i => if i = ((0 : Int32)).toNatClampNeg then (.double (FP.i2d p1)) else (fun _ => .double 0 : Nat → Value) i : Nat → Value) i : Nat → Value) i : Nat → Value) i : Nat → Value) := F333.set W341
    have F348 := F334.wr W341
    have Z349 : n0 ≤ h340.size := Nat.le_trans Z335 (Keep.of_wr W341).1
    refine OGoal.mp (S' := (T336.setTop (mkF m 149 #[.val (.int p1), .val (.int p2), .val (.int p3), .val (.int p4), .val (.int p5), .val (.int p6), .val (.ref b231), .val (.int u68), .val (.int u77), .val (.int u83), .val (.int u244), .val (.ref a282)] []))) (fun _ k => st339 _ k) ?_
    refine OGoal.mp (S' := (T336.setTop (mkF m 151 #[.val (.int p1), .val (.int p2), .val (.int p3), .val (.int p4), .val (.int p5), .val (.int p6), .val (.ref b231), .val (.int u68), .val (.int u77), .val (.int u83), .val (.int u244), .val (.ref a282)] [(.ref b231)]))) (fun _ k => XS.aload X337.here hx rfl (hb hby at_149) rfl rfl k) ?_
    refine OGoal.mp (S' := (T336.setTop (mkF m 153 #[.val (.int p1), .val (.int p2), .val (.int p3), .val (.int p4), .val (.int p5), .val (.int p6), .val (.ref b231), .val (.int u68), .val (.int u77), .val (.int u83), .val (.int u244), .val (.ref a282)] [(.int u244), (.ref b231)]))) (fun _ k => XS.iload X337.here hx rfl (hb hby at_151) rfl k) ?_
    have ti := c_iadd (0 : Int32) u244
    have tr := rng32 ((0 : Int32) + u244)
    have hxv : (own_sh (fun i => if i = 3 then (FP.i2d p4) else (fun i => if i = 2 then (FP.i2d p3) else (fun i => if i = 1 then (FP.i2d p2) else (fun i => if i = 0 then (FP.i2d p1) else (fun _ => 0) i) i) i) i) u68.toInt.toNat) ((0 : Int32) + u244).toNatClampNeg = (own_K p1 p2 p3 p4 (u68.toInt.toNat + u244.toInt.toNat)) := by
      have e1 : ((0 : Int32) + u244).toNatClampNeg = u244.toInt.toNat := by show ((0 : Int32) + u244).toInt.toNat = _; omega
      rw [e1]; unfold own_sh; rw [if_pos (by omega)]; rfl
    refine oCallV (y := (⟨"com/example/stepwise_medians/stepwisemedians/engine/EntryDeque", "key", "(I)D"⟩ : MethodName)) (z := (⟨"com/example/stepwise_medians/stepwisemedians/engine/EntryDeque", "key", "(I)D"⟩ : MethodName)) X337 hx hZ hown (hw _ (List.mem_of_getElem? (i := 80) rfl)) (hw _ (List.mem_of_getElem? (i := 81) rfl)) (hw _ (List.mem_of_getElem? (i := 83) rfl)) (hw _ (List.mem_of_getElem? (i := 82) rfl)) (hw _ (List.mem_of_getElem? (i := 2) rfl)) (hw _ (List.mem_of_getElem? (i := 84) rfl)) (by decide) (rmKey l Z a0 hw b231 u244 h340 n0 Z349 k247 (0 : Int32) (own_sh (fun i => if i = 3 then (FP.i2d p4) else (fun i => if i = 2 then (FP.i2d p3) else (fun i => if i = 1 then (FP.i2d p2) else (fun i => if i = 0 then (FP.i2d p1) else (fun _ => 0) i) i) i) i) u68.toInt.toNat) (own_K p1 p2 p3 p4 (u68.toInt.toNat + u244.toInt.toNat)) F344 F345 F346 (by omega) (by omega) hxv) e338 F343 [(.int u244)] [] rfl rfl (by rw [hml]; rfl) (notFace_of_selects (args := #[]) (mvT hZ (hw _ (List.mem_of_getElem? (i := 83) rfl)))) (lenOf own_pd__I_D rfl) 0 (Nat.le_of_eq rfl) (by decide) (by decide) (by decide) (by decide) (hb hby at_153) ?_
    intro v350 T351 L352 X353 q354
    obtain ⟨rfl, N355, e356⟩ := q354
    have N357 := Fr.app N342 N355
    show OGoal p e below s _ _ _ (T351.setTop (mkF m 156 #[.val (.int p1), .val (.int p2), .val (.int p3), .val (.int p4), .val (.int p5), .val (.int p6), .val (.ref b231), .val (.int u68), .val (.int u77), .val (.int u83), .val (.int u244), .val (.ref a282)] [(.double (own_K p1 p2 p3 p4 (u68.toInt.toNat + u244.toInt.toNat)))]))
    refine OGoal.mp (S' := (T351.setTop (mkF m 158 #[.val (.int p1), .val (.int p2), .val (.int p3), .val (.int p4), .val (.int p5), .val (.int p6), .val (.ref b231), .val (.int u68), .val (.int u77), .val (.int u83), .val (.int u244), .val (.ref a282)] [(.ref a282), (.double (own_K p1 p2 p3 p4 (u68.toInt.toNat + u244.toInt.toNat)))]))) (fun _ k => XS.aload X353.here hx rfl (hb hby at_156) rfl rfl k) ?_
    refine OGoal.mp (S' := (T351.setTop (mkF m 160 #[.val (.int p1), .val (.int p2), .val (.int p3), .val (.int p4), .val (.int p5), .val (.int p6), .val (.ref b231), .val (.int u68), .val (.int u77), .val (.int u83), .val (.int u244), .val (.ref a282)] [(.int u68), (.ref a282), (.double (own_K p1 p2 p3 p4 (u68.toInt.toNat + u244.toInt.toNat)))]))) (fun _ k => XS.iload X353.here hx rfl (hb hby at_158) rfl k) ?_
    refine OGoal.mp (S' := (T351.setTop (mkF m 162 #[.val (.int p1), .val (.int p2), .val (.int p3), .val (.int p4), .val (.int p5), .val (.int p6), .val (.ref b231), .val (.int u68), .val (.int u77), .val (.int u83), .val (.int u244), .val (.ref a282)] [(.int u244), (.int u68), (.ref a282), (.double (own_K p1 p2 p3 p4 (u68.toInt.toNat + u244.toInt.toNat)))]))) (fun _ k => XS.iload X353.here hx rfl (hb hby at_160) rfl k) ?_
    refine OGoal.mp (S' := (T351.setTop (mkF m 163 #[.val (.int p1), .val (.int p2), .val (.int p3), .val (.int p4), .val (.int p5), .val (.int p6), .val (.ref b231), .val (.int u68), .val (.int u77), .val (.int u83), .val (.int u244), .val (.ref a282)] [(.int (u68 + u244)), (.ref a282), (.double (own_K p1 p2 p3 p4 (u68.toInt.toNat + u244.toInt.toNat)))]))) (fun _ k => XS.iadd X353.here hx rfl (hb hby at_162) rfl k) ?_
    obtain ⟨u358, hu358⟩ : ∃ z : Int32, z = (u68 + u244) := ⟨_, rfl⟩
    rw [← hu358]
    have t359 : (u358.toInt - ((u68).toInt + (u244).toInt)) % 4294967296 = 0 := by rw [hu358]; exact c_iadd u68 u244
    have r360 := rng32 u358
    have hA : ∀ i, i < 4 → (fun i => if i = ((3 : Int32)).toNatClampNeg then (.double (FP.i2d p4)) else (fun i => if i = ((2 : Int32)).toNatClampNeg then (.double (FP.i2d p3)) else (fun i => if i = ((1 : Int32)).toNatClampNeg then (.double (FP.i2d p2)) else (fun i => if i = ((0 : Int32)).toNatClampNeg then (.double (FP.i2d p1)) else (fun _ => .double 0 : Nat → Value) i : Nat → Value) i : Nat → Value) i : Nat → Value) i : Nat → Value) i = .double (own_K p1 p2 p3 p4 i) := fun i hi => match i, hi with
      | 0, _ => rfl
      | 1, _ => rfl
      | 2, _ => rfl
      | 3, _ => rfl
    have ej : u358.toNatClampNeg = (u68.toInt.toNat + u244.toInt.toNat) := by show u358.toInt.toNat = _; omega
    refine OGoal.mp (S' := (T351.setTop (mkF m 164 #[.val (.int p1), .val (.int p2), .val (.int p3), .val (.int p4), .val (.int p5), .val (.int p6), .val (.ref b231), .val (.int u68), .val (.int u77), .val (.int u83), .val (.int u244), .val (.ref a282)] [(.double (own_K p1 p2 p3 p4 (u68.toInt.toNat + u244.toInt.toNat))), (.double (own_K p1 p2 p3 p4 (u68.toInt.toNat + u244.toInt.toNat)))]))) (fun _ k => oLdD X353 hx hZ e356 F347 (by omega) (by omega) (by rw [ej]; exact hA _ (by omega)) (g := mkF m 163 #[.val (.int p1), .val (.int p2), .val (.int p3), .val (.int p4), .val (.int p5), .val (.int p6), .val (.ref b231), .val (.int u68), .val (.int u77), .val (.int u83), .val (.int u244), .val (.ref a282)] [(.int u358), (.ref a282), (.double (own_K p1 p2 p3 p4 (u68.toInt.toNat + u244.toInt.toNat)))]) rfl rfl (hb hby at_163) k) ?_
    refine OGoal.mp (S' := (T351.setTop (mkF m 165 #[.val (.int p1), .val (.int p2), .val (.int p3), .val (.int p4), .val (.int p5), .val (.int p6), .val (.ref b231), .val (.int u68), .val (.int u77), .val (.int u83), .val (.int u244), .val (.ref a282)] [(.int (0 : Int32))]))) (fun _ k => XS.dcmpS (g := mkF m 164 #[.val (.int p1), .val (.int p2), .val (.int p3), .val (.int p4), .val (.int p5), .val (.int p6), .val (.ref b231), .val (.int u68), .val (.int u77), .val (.int u83), .val (.int u244), .val (.ref a282)] [(.double (own_K p1 p2 p3 p4 (u68.toInt.toNat + u244.toInt.toNat))), (.double (own_K p1 p2 p3 p4 (u68.toInt.toNat + u244.toInt.toNat)))]) (o := .l) (x := (own_K p1 p2 p3 p4 (u68.toInt.toNat + u244.toInt.toNat))) (y := (own_K p1 p2 p3 p4 (u68.toInt.toNat + u244.toInt.toNat))) (v := (0 : Int32)) (rest := []) X353.here hx rfl (hb hby at_164) rfl (dcmpV_self (own_Kn _ _ _ _ _) _) k) ?_
    have hd361 : (0 : Int32) = 0 := mEq (by omega)
    refine OGoal.mp (S' := (T351.setTop (mkF m 168 #[.val (.int p1), .val (.int p2), .val (.int p3), .val (.int p4), .val (.int p5), .val (.int p6), .val (.ref b231), .val (.int u68), .val (.int u77), .val (.int u83), .val (.int u244), .val (.ref a282)] []))) (fun _ k => XS.ifNo X353.here hx rfl (hb hby at_165) rfl (XT.i0_ne_f hd361) k) ?_
    refine OGoal.mp (S' := (T351.setTop (mkF m 169 #[.val (.int p1), .val (.int p2), .val (.int p3), .val (.int p4), .val (.int p5), .val (.int p6), .val (.ref b231), .val (.int u68), .val (.int u77), .val (.int u83), .val (.int u244), .val (.ref a282)] [(.int (1 : Int32))]))) (fun _ k => XS.iconst X353.here hx rfl (hb hby at_168) k) ?_
    refine OGoal.mp (S' := (T351.setTop (mkF m 173 #[.val (.int p1), .val (.int p2), .val (.int p3), .val (.int p4), .val (.int p5), .val (.int p6), .val (.ref b231), .val (.int u68), .val (.int u77), .val (.int u83), .val (.int u244), .val (.ref a282)] [(.int (1 : Int32))]))) (fun _ k => XS.goto X353.here hx rfl (pc0 := 169) (pc' := 173) rfl (hb hby at_169) (by decide) (by decide) k) ?_
    refine oRetZ X353 hx hlk hret (Or.inr rfl) (hb hby at_173) ?_ (by decide) (by decide)
    exact ⟨rfl, N357⟩
set_option maxRecDepth 65536 in
set_option maxHeartbeats 40000000 in
theorem comes_1 {Post : Tables → Env → Array Value → State → Outcome → State → Prop} (hpost : ∀ tb e args s v u, (limb_1_1.after args s (.returned v) u = true ∧ limb_1_2.after args s (.returned v) u = true ∧ True) → FrameEnd s (.returned v) u (Jvm.fieldLocs frame_1_writes args s ++ Jvm.arrayLocs frame_1_arrays args s ++ Jvm.staticLocs frame_1_statics s) 32 192 → Post tb e args s (.returned v) u) :
    ArmFor flags0 classFile x code maxLocals ret World_1 tables_1 room_1 Calls_1 rest_1 Pre_1 Post := by
  intro l hfl _ _ p e ha hc hk s m args below hf hA hF happ hP
  obtain ⟨hcalls, hrest, hpre⟩ := hP
  obtain ⟨-, -, -, hnamed, -, -, -, hat⟩ := (Spec.applies_iff hf).mp happ
  obtain ⟨hg, hn⟩ := and_e (Cond.before_iff.mp (show (Jvm.Cond.and given_1 narrow_1).before args s = true from hpre))
  obtain ⟨hcnt, hg⟩ := and_e hg
  obtain ⟨w0, w1, w2, w3, w4, w5, rfl⟩ : ∃ w0 w1 w2 w3 w4 w5 : Value, args = #[w0, w1, w2, w3, w4, w5] := by
    have hs : args.size = 6 := by simpa [Cond.value, given_1] using hcnt
    obtain ⟨L⟩ := args
    match L, hs with
    | [w0, w1, w2, w3, w4, w5], _ => exact ⟨w0, w1, w2, w3, w4, w5, rfl⟩
  have hw := fun d (hd : d ∈ tables_1) => atoms_spec (ws := Jvm.Cond.code x code maxLocals ret :: tables_1) hat d (List.mem_cons_of_mem _ hd)
  have hfit : Fit s := fun {y c} hc i hi => by
    obtain ⟨ha, rfl⟩ := Array.getElem?_eq_some_iff.mp hc
    have q := List.all_eq_true.mp ((Array.all_eq_true_iff_forall_mem.mp hF) _ (Array.getElem_mem ha)) i (List.mem_range.mpr hi)
    simpa [Array.getElem?_eq_getElem hi] using q
  obtain ⟨hg0, hg⟩ := and_e hg
  obtain ⟨i0, ei0⟩ := is_v hg0
  obtain rfl : w0 = (.int i0) := Option.some.inj ei0
  obtain ⟨hg1, hg⟩ := and_e hg
  obtain ⟨i1, ei1⟩ := is_v hg1
  obtain rfl : w1 = (.int i1) := Option.some.inj ei1
  obtain ⟨hg2, hg⟩ := and_e hg
  obtain ⟨i2, ei2⟩ := is_v hg2
  obtain rfl : w2 = (.int i2) := Option.some.inj ei2
  obtain ⟨hg3, hg⟩ := and_e hg
  obtain ⟨i3, ei3⟩ := is_v hg3
  obtain rfl : w3 = (.int i3) := Option.some.inj ei3
  obtain ⟨hg4, hg⟩ := and_e hg
  obtain ⟨i4, ei4⟩ := is_v hg4
  obtain rfl : w4 = (.int i4) := Option.some.inj ei4
  obtain ⟨i5, ei5⟩ := is_v hg
  obtain rfl : w5 = (.int i5) := Option.some.inj ei5
  obtain ⟨n, o, h1, h2, h3, _, L, rfl, ⟨rfl, N⟩, hq⟩ := rm0 l s _ hw i0 i1 i2 i3 i4 i5 s.heap s.heap.size (Nat.le_refl _)  tables_1 p e ha hc hk s m _ below hf ((Spec.applies_iff_loose hf).mp happ).1 ⟨rfl, State.Warmed39.refl s, rfl⟩ trivial
  refine ⟨n, _, h1, h2, h3, hpost _ _ _ _ _ _ ⟨Cond.after_iff.mpr rfl, Cond.after_iff.mpr (eq_i res_at (Term.int_eval (1)) rfl), trivial⟩ ⟨hq.1, hq.2.1, (hq.2.2.sift fun y hy => Or.inr (N y hy)).mono (by decide) (by decide)⟩⟩
theorem main_1_1 : Claimed_1_1 := comes_1 fun _ _ _ _ _ _ h hF => ⟨h.1, hF⟩
theorem main_1_2 : Claimed_1_2 := comes_1 fun _ _ _ _ _ _ h hF => ⟨h.2.1, hF⟩
end Jvm.Pilot.@@N@@
namespace Jvm.Pilot.@@N@@
open Jvm Jvm.ClassFile Sem Op Lib Jvm.Free Jvm.Stand Jvm.Pilot.@@N@@.Jvm.D
/-! MADE BY PROGRAM (witnessworld.py) out of the Statement's table words and the real class files: 14 classes; the members and pool entries that the words name. The judged class is class 1, her method 1. -/
namespace start1
open Jvm.ClassFile
def u (s : String) : CpInfo := .utf8 (stringToUtf16 s)
/-- a pool by its gaps: so many unusable entries, then the entry; so many at the end -/
def gap : Nat → List CpInfo → List CpInfo
  | 0, r => r
  | n + 1, r => .unusable :: gap n r
def poolList (es : List (Nat × CpInfo)) (last : Nat) : List CpInfo := es.foldr (fun e r => gap e.1 (e.2 :: r)) (gap last [])
def pool (es : List (Nat × CpInfo)) (last : Nat) : Array CpInfo := ⟨poolList es last⟩
def fileOf (pool : Array CpInfo) (this : Nat) (attrs : Array Attribute := #[]) (ms : Array MethodInfo := #[]) (fl : Nat := 33) (sup : Nat := 0) (ifs : Array Nat := #[]) (fds : Array FieldInfo := #[]) : ClassFile where
  minorVersion := 0
  majorVersion := 65
  constantPool := pool
  accessFlags := fl
  thisClass := this
  superClass := sup
  interfaces := ifs
  fields := fds
  methods := ms
  attributes := attrs
def plain (name : String) (sup : Option ClassId) : Class where
  name := name
  kind := .ordinary
  loader := none
  accessFlags := 33
  super := sup
  interfaces := #[]
  cf := none
  fields := #[]
  methods := #[]
  instanceTypes := #[]
  staticTypes := #[]
  resolved := #[]
  callSites := []
  init := .initialized
  statics := none
  mirror := none

def pool0 : Array CpInfo := pool [(5, u "<init>"), (0, u "()V"), (1, .class_ 10), (1, u "java/lang/Object"), (85, u "clone"), (0, u "()Ljava/lang/Object;")] 26

def k0c0 : Code := { maxStack := 0, maxLocals := 1, code := object_method_1_code, exceptionTable := #[], attributes := #[] }
def k0m0 : Method := { name := "<init>", desc := "()V", sig := { parameters := [], returnType := none }, accessFlags := 1, code := some k0c0 }
def k0m1 : Method := { name := "clone", desc := "()Ljava/lang/Object;", sig := { parameters := [], returnType := some (.object "java/lang/Object") }, accessFlags := 260, code := none }
/-- java/lang/Object -/
def k0 : Class := { plain "java/lang/Object" none with
  accessFlags := 33
  interfaces := #[]
  cf := some (fileOf pool0 8 #[] #[{ accessFlags := 1, nameIndex := 5, descriptorIndex := 6, attributes := #[] }, { accessFlags := 260, nameIndex := 96, descriptorIndex := 97, attributes := #[] }] 33 0 #[] #[])
  fields := #[]
  methods := #[k0m0, k0m1]
  instanceTypes := #[]
  staticTypes := #[]
  resolved := Array.replicate 124 none
  statics := none }

def pool1 : Array CpInfo := pool [(2, .class_ 4), (0, .nameAndType 5 6), (0, u "java/lang/Object"), (0, u "<init>"), (0, u "()V"), (0, .class_ 8), (0, u "com/example/stepwise_medians/stepwisemedians/engine/EntryDeque"), (0, .methodref 7 3), (0, .methodref 7 11), (0, .nameAndType 12 13), (0, u "addLast"), (0, u "(DDI)V"), (0, .methodref 7 15), (0, .nameAndType 16 17), (0, u "dropFirst"), (0, u "(I)V"), (0, .methodref 7 19), (0, .nameAndType 20 17), (0, u "dropLast"), (0, .methodref 7 22), (0, .nameAndType 23 24), (0, u "copy"), (0, u "()Lcom/example/stepwise_medians/stepwisemedians/engine/EntryDeque;"), (0, .methodref 7 26), (0, .nameAndType 27 28), (0, u "key"), (0, u "(I)D"), (0, .class_ 30), (0, u "com/example/stepwise_medians/stepwisemedians/engine/EntryDequeKeyPinLaw"), (2, u "law"), (0, u "(IIIIII)Z")] 5

def k1m0 : Method := { name := "<init>", desc := "()V", sig := { parameters := [], returnType := none }, accessFlags := 1, code := none }
def k1c1 : Code := { maxStack := 6, maxLocals := 12, code := code, exceptionTable := #[], attributes := #[] }
def k1m1 : Method := { name := "law", desc := "(IIIIII)Z", sig := { parameters := [.int, .int, .int, .int, .int, .int], returnType := some .boolean }, accessFlags := 9, code := some k1c1 }
/-- com/example/stepwise_medians/stepwisemedians/engine/EntryDequeKeyPinLaw -/
def k1 : Class := { plain "com/example/stepwise_medians/stepwisemedians/engine/EntryDequeKeyPinLaw" (some 0) with
  accessFlags := 49
  interfaces := #[]
  cf := some (fileOf pool1 29 #[] #[{ accessFlags := 1, nameIndex := 5, descriptorIndex := 6, attributes := #[] }, { accessFlags := 9, nameIndex := 33, descriptorIndex := 34, attributes := #[] }] 49 2 #[] #[])
  fields := #[]
  methods := #[k1m0, k1m1]
  instanceTypes := #[]
  staticTypes := #[]
  resolved := Array.replicate 40 none
  statics := none }

def pool2 : Array CpInfo := pool [(1, .methodref 2 3), (0, .class_ 4), (0, .nameAndType 5 6), (0, u "java/lang/Object"), (0, u "<init>"), (0, u "()V"), (0, .class_ 8), (0, u "com/example/stepwise_medians/stepwisemedians/engine/EntryDeque"), (0, .fieldref 7 10), (0, .nameAndType 11 12), (0, u "keys"), (0, u "[D"), (0, .fieldref 7 14), (0, .nameAndType 15 12), (0, u "values"), (0, .fieldref 7 17), (0, .nameAndType 18 19), (0, u "payloads"), (0, u "[I"), (0, .fieldref 7 21), (0, .nameAndType 22 23), (0, u "first"), (0, u "I"), (0, .fieldref 7 25), (0, .nameAndType 26 23), (0, u "end"), (0, .methodref 7 28), (0, .nameAndType 29 30), (0, u "size"), (0, u "()I"), (0, .methodref 32 33), (0, .class_ 34), (0, .nameAndType 35 36), (0, u "java/lang/Math"), (0, u "max"), (0, u "(II)I"), (0, .methodref 7 38), (0, .nameAndType 39 40), (0, u "moveEntriesTo"), (0, u "(I)V"), (0, .methodref 7 42), (0, .nameAndType 5 43), (0, u "(Lcom/example/stepwise_medians/stepwisemedians/engine/EntryDeque;)V"), (9, .methodref 54 55), (0, .class_ 56), (0, .nameAndType 57 58), (0, u "java/util/Arrays"), (0, u "copyOfRange"), (0, u "([DII)[D"), (0, .methodref 54 60), (0, .nameAndType 57 61), (0, u "([III)[I"), (0, u "INITIAL_CAPACITY"), (4, u "copy"), (0, u "()Lcom/example/stepwise_medians/stepwisemedians/engine/EntryDeque;"), (0, u "key"), (0, u "(I)D"), (3, u "addLast"), (0, u "(DDI)V"), (1, u "dropFirst"), (0, u "dropLast")] 2

def k2c0 : Code := { maxStack := 2, maxLocals := 1, code := prog_7_method_1_code, exceptionTable := #[], attributes := #[] }
def k2m0 : Method := { name := "<init>", desc := "()V", sig := { parameters := [], returnType := none }, accessFlags := 0, code := some k2c0 }
def k2c1 : Code := { maxStack := 3, maxLocals := 2, code := prog_7_method_2_code, exceptionTable := #[], attributes := #[] }
def k2m1 : Method := { name := "<init>", desc := "(Lcom/example/stepwise_medians/stepwisemedians/engine/EntryDeque;)V", sig := { parameters := [(.object "com/example/stepwise_medians/stepwisemedians/engine/EntryDeque")], returnType := none }, accessFlags := 2, code := some k2c1 }
def k2c2 : Code := { maxStack := 3, maxLocals := 1, code := prog_7_method_3_code, exceptionTable := #[], attributes := #[] }
def k2m2 : Method := { name := "copy", desc := "()Lcom/example/stepwise_medians/stepwisemedians/engine/EntryDeque;", sig := { parameters := [], returnType := some (.object "com/example/stepwise_medians/stepwisemedians/engine/EntryDeque") }, accessFlags := 0, code := some k2c2 }
def k2c3 : Code := { maxStack := 2, maxLocals := 1, code := prog_7_method_4_code, exceptionTable := #[], attributes := #[] }
def k2m3 : Method := { name := "size", desc := "()I", sig := { parameters := [], returnType := some .int }, accessFlags := 0, code := some k2c3 }
def k2c4 : Code := { maxStack := 3, maxLocals := 2, code := prog_7_method_5_code, exceptionTable := #[], attributes := #[] }
def k2m4 : Method := { name := "key", desc := "(I)D", sig := { parameters := [.int], returnType := some .double }, accessFlags := 0, code := some k2c4 }
def k2c5 : Code := { maxStack := 4, maxLocals := 6, code := prog_7_method_8_code, exceptionTable := #[], attributes := #[] }
def k2m5 : Method := { name := "addLast", desc := "(DDI)V", sig := { parameters := [.double, .double, .int], returnType := none }, accessFlags := 0, code := some k2c5 }
def k2c6 : Code := { maxStack := 3, maxLocals := 2, code := prog_7_method_9_code, exceptionTable := #[], attributes := #[] }
def k2m6 : Method := { name := "dropFirst", desc := "(I)V", sig := { parameters := [.int], returnType := none }, accessFlags := 0, code := some k2c6 }
def k2c7 : Code := { maxStack := 3, maxLocals := 2, code := prog_7_method_10_code, exceptionTable := #[], attributes := #[] }
def k2m7 : Method := { name := "dropLast", desc := "(I)V", sig := { parameters := [.int], returnType := none }, accessFlags := 0, code := some k2c7 }
def k2c8 : Code := { maxStack := 5, maxLocals := 3, code := prog_7_method_12_code, exceptionTable := #[], attributes := #[] }
def k2m8 : Method := { name := "moveEntriesTo", desc := "(I)V", sig := { parameters := [.int], returnType := none }, accessFlags := 2, code := some k2c8 }
/-- com/example/stepwise_medians/stepwisemedians/engine/EntryDeque -/
def k2 : Class := { plain "com/example/stepwise_medians/stepwisemedians/engine/EntryDeque" (some 0) with
  accessFlags := 48
  interfaces := #[]
  cf := some (fileOf pool2 7 #[] #[{ accessFlags := 0, nameIndex := 5, descriptorIndex := 6, attributes := #[] }, { accessFlags := 2, nameIndex := 5, descriptorIndex := 43, attributes := #[] }, { accessFlags := 0, nameIndex := 67, descriptorIndex := 68, attributes := #[] }, { accessFlags := 0, nameIndex := 29, descriptorIndex := 30, attributes := #[] }, { accessFlags := 0, nameIndex := 69, descriptorIndex := 70, attributes := #[] }, { accessFlags := 0, nameIndex := 74, descriptorIndex := 75, attributes := #[] }, { accessFlags := 0, nameIndex := 77, descriptorIndex := 40, attributes := #[] }, { accessFlags := 0, nameIndex := 78, descriptorIndex := 40, attributes := #[] }, { accessFlags := 2, nameIndex := 39, descriptorIndex := 40, attributes := #[] }] 48 2 #[] #[{ accessFlags := 26, nameIndex := 62, descriptorIndex := 23, attributes := #[] }, { accessFlags := 2, nameIndex := 11, descriptorIndex := 12, attributes := #[] }, { accessFlags := 2, nameIndex := 15, descriptorIndex := 12, attributes := #[] }, { accessFlags := 2, nameIndex := 18, descriptorIndex := 19, attributes := #[] }, { accessFlags := 2, nameIndex := 22, descriptorIndex := 23, attributes := #[] }, { accessFlags := 2, nameIndex := 26, descriptorIndex := 23, attributes := #[] }])
  fields := #[{ name := "INITIAL_CAPACITY", type := .int, accessFlags := 26, slot := 0, constantValue := 0 }, { name := "keys", type := (.array .double), accessFlags := 2, slot := 0, constantValue := 0 }, { name := "values", type := (.array .double), accessFlags := 2, slot := 1, constantValue := 0 }, { name := "payloads", type := (.array .int), accessFlags := 2, slot := 2, constantValue := 0 }, { name := "first", type := .int, accessFlags := 2, slot := 3, constantValue := 0 }, { name := "end", type := .int, accessFlags := 2, slot := 4, constantValue := 0 }]
  methods := #[k2m0, k2m1, k2m2, k2m3, k2m4, k2m5, k2m6, k2m7, k2m8]
  instanceTypes := #[(.array .double), (.array .double), (.array .int), .int, .int]
  staticTypes := #[.int]
  resolved := Array.replicate 81 none
  statics := none }

def pool3 : Array CpInfo := pool [(1, .class_ 2), (0, u "java/lang/Math"), (1, .class_ 6), (1, u "java/lang/Object"), (0, u "<init>"), (0, u "()V"), (89, .class_ 100), (1, u "java/lang/Math$RandomNumberGeneratorHolder"), (71, u "negativeZeroFloatBits"), (0, u "J"), (2, u "negativeZeroDoubleBits"), (21, u "max"), (2, u "min"), (43, u "$assertionsDisabled"), (0, u "Z"), (88, u "(II)I"), (2, u "twoToTheDoubleScaleDown"), (0, u "D"), (4, u "twoToTheDoubleScaleUp"), (9, u "E"), (3, u "PI"), (2, u "TAU"), (2, u "DEGREES_TO_RADIANS"), (0, u "RADIANS_TO_DEGREES")] 94

def k3m0 : Method := { name := "<init>", desc := "()V", sig := { parameters := [], returnType := none }, accessFlags := 2, code := none }
def k3c1 : Code := { maxStack := 2, maxLocals := 2, code := jdk_29_method_65_code, exceptionTable := #[], attributes := #[] }
def k3m1 : Method := { name := "max", desc := "(II)I", sig := { parameters := [.int, .int], returnType := some .int }, accessFlags := 9, code := some k3c1 }
def k3c2 : Code := { maxStack := 2, maxLocals := 2, code := jdk_29_method_69_code, exceptionTable := #[], attributes := #[] }
def k3m2 : Method := { name := "min", desc := "(II)I", sig := { parameters := [.int, .int], returnType := some .int }, accessFlags := 9, code := some k3c2 }
/-- java/lang/Math -/
def k3 : Class := { plain "java/lang/Math" (some 0) with
  accessFlags := 49
  interfaces := #[]
  cf := some (fileOf pool3 1 #[.nestMembers #[98]] #[{ accessFlags := 2, nameIndex := 7, descriptorIndex := 8, attributes := #[] }, { accessFlags := 9, nameIndex := 198, descriptorIndex := 335, attributes := #[] }, { accessFlags := 9, nameIndex := 201, descriptorIndex := 335, attributes := #[] }] 49 4 #[] #[{ accessFlags := 25, nameIndex := 354, descriptorIndex := 339, attributes := #[] }, { accessFlags := 25, nameIndex := 358, descriptorIndex := 339, attributes := #[] }, { accessFlags := 25, nameIndex := 361, descriptorIndex := 339, attributes := #[] }, { accessFlags := 26, nameIndex := 364, descriptorIndex := 339, attributes := #[] }, { accessFlags := 26, nameIndex := 365, descriptorIndex := 339, attributes := #[] }, { accessFlags := 26, nameIndex := 172, descriptorIndex := 173, attributes := #[] }, { accessFlags := 26, nameIndex := 176, descriptorIndex := 173, attributes := #[] }, { accessFlags := 8, nameIndex := 344, descriptorIndex := 339, attributes := #[] }, { accessFlags := 8, nameIndex := 338, descriptorIndex := 339, attributes := #[] }, { accessFlags := 4120, nameIndex := 245, descriptorIndex := 246, attributes := #[] }])
  fields := #[{ name := "E", type := .double, accessFlags := 25, slot := 0, constantValue := 0 }, { name := "PI", type := .double, accessFlags := 25, slot := 1, constantValue := 0 }, { name := "TAU", type := .double, accessFlags := 25, slot := 2, constantValue := 0 }, { name := "DEGREES_TO_RADIANS", type := .double, accessFlags := 26, slot := 3, constantValue := 0 }, { name := "RADIANS_TO_DEGREES", type := .double, accessFlags := 26, slot := 4, constantValue := 0 }, { name := "negativeZeroFloatBits", type := .long, accessFlags := 26, slot := 5, constantValue := 0 }, { name := "negativeZeroDoubleBits", type := .long, accessFlags := 26, slot := 6, constantValue := 0 }, { name := "twoToTheDoubleScaleUp", type := .double, accessFlags := 8, slot := 7, constantValue := 0 }, { name := "twoToTheDoubleScaleDown", type := .double, accessFlags := 8, slot := 8, constantValue := 0 }, { name := "$assertionsDisabled", type := .boolean, accessFlags := 4120, slot := 9, constantValue := 0 }]
  methods := #[k3m0, k3m1, k3m2]
  instanceTypes := #[]
  staticTypes := #[.double, .double, .double, .double, .double, .long, .long, .double, .double, .boolean]
  resolved := Array.replicate 460 none
  statics := none }

def pool4 : Array CpInfo := pool [(2, .class_ 4), (1, u "java/lang/Object"), (0, u "<init>"), (0, u "()V"), (7, .class_ 16), (1, u "java/util/Arrays"), (57, .class_ 76), (1, u "java/util/Arrays$NaturalOrder"), (32, u "()Ljava/lang/Object;"), (3, .class_ 115), (1, u "java/util/Arrays$LegacyMergeSort"), (1, u "Z"), (10, .nameAndType 129 109), (0, u "clone"), (9, u "copyOfRange"), (10, .methodref 151 152), (0, .class_ 153), (0, .nameAndType 154 155), (0, u "java/lang/System"), (0, u "arraycopy"), (0, u "(Ljava/lang/Object;ILjava/lang/Object;II)V"), (148, .methodref 305 306), (0, .class_ 307), (0, .nameAndType 308 309), (0, u "java/lang/Math"), (0, u "min"), (0, u "(II)I"), (6, .methodref 317 128), (0, .class_ 318), (0, u "[I"), (9, .methodref 329 128), (0, .class_ 330), (0, u "[D"), (12, .methodref 14 344), (0, .nameAndType 345 346), (0, u "checkLength"), (0, u "(II)V"), (4, .methodref 14 352), (0, .nameAndType 353 354), (0, u "copyOfRangeInt"), (0, u "([III)[I"), (12, .methodref 14 368), (0, .nameAndType 369 370), (0, u "copyOfRangeDouble"), (0, u "([DII)[D"), (4, .class_ 376), (0, u "java/util/Arrays$ArrayList"), (68, u "$assertionsDisabled"), (269, u "MIN_ARRAY_SORT_GRAN"), (0, u "I"), (2, u "INSERTIONSORT_THRESHOLD"), (255, .class_ 976), (0, u "java/util/Arrays$ArrayItr")] 52

def k4m0 : Method := { name := "<init>", desc := "()V", sig := { parameters := [], returnType := none }, accessFlags := 2, code := none }
def k4c1 : Code := { maxStack := 4, maxLocals := 2, code := jdk_65_method_131_code, exceptionTable := #[], attributes := #[] }
def k4m1 : Method := { name := "checkLength", desc := "(II)V", sig := { parameters := [.int, .int], returnType := none }, accessFlags := 10, code := some k4c1 }
def k4c2 : Code := { maxStack := 3, maxLocals := 3, code := jdk_65_method_136_code, exceptionTable := #[], attributes := #[] }
def k4m2 : Method := { name := "copyOfRange", desc := "([III)[I", sig := { parameters := [(.array .int), .int, .int], returnType := some (.array .int) }, accessFlags := 9, code := some k4c2 }
def k4c3 : Code := { maxStack := 6, maxLocals := 5, code := jdk_65_method_137_code, exceptionTable := #[], attributes := #[] }
def k4m3 : Method := { name := "copyOfRangeInt", desc := "([III)[I", sig := { parameters := [(.array .int), .int, .int], returnType := some (.array .int) }, accessFlags := 10, code := some k4c3 }
def k4c4 : Code := { maxStack := 3, maxLocals := 3, code := jdk_65_method_144_code, exceptionTable := #[], attributes := #[] }
def k4m4 : Method := { name := "copyOfRange", desc := "([DII)[D", sig := { parameters := [(.array .double), .int, .int], returnType := some (.array .double) }, accessFlags := 9, code := some k4c4 }
def k4c5 : Code := { maxStack := 6, maxLocals := 5, code := jdk_65_method_145_code, exceptionTable := #[], attributes := #[] }
def k4m5 : Method := { name := "copyOfRangeDouble", desc := "([DII)[D", sig := { parameters := [(.array .double), .int, .int], returnType := some (.array .double) }, accessFlags := 10, code := some k4c5 }
/-- java/util/Arrays -/
def k4 : Class := { plain "java/util/Arrays" (some 0) with
  accessFlags := 49
  interfaces := #[]
  cf := some (fileOf pool4 14 #[.nestMembers #[975, 375, 113, 74]] #[{ accessFlags := 2, nameIndex := 5, descriptorIndex := 6, attributes := #[] }, { accessFlags := 10, nameIndex := 345, descriptorIndex := 346, attributes := #[] }, { accessFlags := 9, nameIndex := 139, descriptorIndex := 354, attributes := #[] }, { accessFlags := 10, nameIndex := 353, descriptorIndex := 354, attributes := #[] }, { accessFlags := 9, nameIndex := 139, descriptorIndex := 370, attributes := #[] }, { accessFlags := 10, nameIndex := 369, descriptorIndex := 370, attributes := #[] }] 49 2 #[] #[{ accessFlags := 26, nameIndex := 715, descriptorIndex := 716, attributes := #[] }, { accessFlags := 26, nameIndex := 719, descriptorIndex := 716, attributes := #[] }, { accessFlags := 4120, nameIndex := 445, descriptorIndex := 117, attributes := #[] }])
  fields := #[{ name := "MIN_ARRAY_SORT_GRAN", type := .int, accessFlags := 26, slot := 0, constantValue := 0 }, { name := "INSERTIONSORT_THRESHOLD", type := .int, accessFlags := 26, slot := 1, constantValue := 0 }, { name := "$assertionsDisabled", type := .boolean, accessFlags := 4120, slot := 2, constantValue := 0 }]
  methods := #[k4m0, k4m1, k4m2, k4m3, k4m4, k4m5]
  instanceTypes := #[]
  staticTypes := #[.int, .int, .boolean]
  resolved := Array.replicate 1029 none
  statics := none }

def pool5 : Array CpInfo := pool [(1, .class_ 2), (0, u "java/lang/Cloneable"), (0, .class_ 4), (0, u "java/lang/Object")] 2

/-- java/lang/Cloneable -/
def k5 : Class := { plain "java/lang/Cloneable" (some 0) with
  accessFlags := 1537
  interfaces := #[]
  cf := some (fileOf pool5 1 #[] #[] 1537 3 #[] #[])
  fields := #[]
  methods := #[]
  instanceTypes := #[]
  staticTypes := #[]
  resolved := Array.replicate 7 none
  statics := none }

def pool6 : Array CpInfo := pool [(2, .class_ 4), (1, u "java/lang/Object"), (0, u "<init>"), (0, u "()V"), (1, .class_ 10), (1, u "java/lang/System"), (0, u "allowSecurityManager"), (0, u "I"), (16, u "cons"), (0, u "Ljava/io/Console;"), (77, .class_ 110), (1, u "java/lang/System$CallersHolder"), (43, u "initialErrStream"), (0, u "Ljava/io/PrintStream;"), (19, u "security"), (0, u "Ljava/lang/SecurityManager;"), (31, .class_ 209), (0, u "java/lang/System$1"), (7, u "props"), (0, u "Ljava/util/Properties;"), (2, u "lineSeparator"), (0, u "Ljava/lang/String;"), (96, .class_ 321), (1, u "java/lang/System$LoggerFinder"), (5, .class_ 328), (0, u "java/lang/System$Logger"), (67, u "err"), (2, u "out"), (91, u "notSupportedJnuEncoding"), (15, u "in"), (17, u "initialIn"), (0, u "Ljava/io/InputStream;"), (35, u "bootLayer"), (0, u "Ljava/lang/ModuleLayer;"), (99, .class_ 664), (0, u "java/lang/System$2"), (9, u "NEVER"), (2, u "MAYBE"), (49, u "arraycopy"), (0, u "(Ljava/lang/Object;ILjava/lang/Object;II)V"), (72, .class_ 802), (0, u "java/lang/System$Logger$Level")] 31

def k6m0 : Method := { name := "<init>", desc := "()V", sig := { parameters := [], returnType := none }, accessFlags := 2, code := none }
def k6m1 : Method := { name := "arraycopy", desc := "(Ljava/lang/Object;ILjava/lang/Object;II)V", sig := { parameters := [(.object "java/lang/Object"), .int, (.object "java/lang/Object"), .int, .int], returnType := none }, accessFlags := 265, code := none }
/-- java/lang/System -/
def k6 : Class := { plain "java/lang/System" (some 0) with
  accessFlags := 49
  interfaces := #[]
  cf := some (fileOf pool6 8 #[.nestMembers #[319, 327, 801, 108, 663, 208]] #[{ accessFlags := 2, nameIndex := 5, descriptorIndex := 6, attributes := #[] }, { accessFlags := 265, nameIndex := 727, descriptorIndex := 728, attributes := #[] }] 49 2 #[] #[{ accessFlags := 25, nameIndex := 507, descriptorIndex := 526, attributes := #[] }, { accessFlags := 25, nameIndex := 399, descriptorIndex := 155, attributes := #[] }, { accessFlags := 25, nameIndex := 396, descriptorIndex := 155, attributes := #[] }, { accessFlags := 10, nameIndex := 525, descriptorIndex := 526, attributes := #[] }, { accessFlags := 26, nameIndex := 674, descriptorIndex := 12, attributes := #[] }, { accessFlags := 26, nameIndex := 677, descriptorIndex := 12, attributes := #[] }, { accessFlags := 10, nameIndex := 11, descriptorIndex := 12, attributes := #[] }, { accessFlags := 74, nameIndex := 175, descriptorIndex := 176, attributes := #[] }, { accessFlags := 10, nameIndex := 491, descriptorIndex := 222, attributes := #[] }, { accessFlags := 74, nameIndex := 29, descriptorIndex := 30, attributes := #[] }, { accessFlags := 74, nameIndex := 154, descriptorIndex := 155, attributes := #[] }, { accessFlags := 10, nameIndex := 217, descriptorIndex := 218, attributes := #[] }, { accessFlags := 10, nameIndex := 221, descriptorIndex := 222, attributes := #[] }, { accessFlags := 8, nameIndex := 562, descriptorIndex := 563, attributes := #[] }])
  fields := #[{ name := "in", type := (.object "java/io/InputStream"), accessFlags := 25, slot := 0, constantValue := 0 }, { name := "out", type := (.object "java/io/PrintStream"), accessFlags := 25, slot := 1, constantValue := 0 }, { name := "err", type := (.object "java/io/PrintStream"), accessFlags := 25, slot := 2, constantValue := 0 }, { name := "initialIn", type := (.object "java/io/InputStream"), accessFlags := 10, slot := 3, constantValue := 0 }, { name := "NEVER", type := .int, accessFlags := 26, slot := 4, constantValue := 0 }, { name := "MAYBE", type := .int, accessFlags := 26, slot := 5, constantValue := 0 }, { name := "allowSecurityManager", type := .int, accessFlags := 10, slot := 6, constantValue := 0 }, { name := "security", type := (.object "java/lang/SecurityManager"), accessFlags := 74, slot := 7, constantValue := 0 }, { name := "notSupportedJnuEncoding", type := (.object "java/lang/String"), accessFlags := 10, slot := 8, constantValue := 0 }, { name := "cons", type := (.object "java/io/Console"), accessFlags := 74, slot := 9, constantValue := 0 }, { name := "initialErrStream", type := (.object "java/io/PrintStream"), accessFlags := 74, slot := 10, constantValue := 0 }, { name := "props", type := (.object "java/util/Properties"), accessFlags := 10, slot := 11, constantValue := 0 }, { name := "lineSeparator", type := (.object "java/lang/String"), accessFlags := 10, slot := 12, constantValue := 0 }, { name := "bootLayer", type := (.object "java/lang/ModuleLayer"), accessFlags := 8, slot := 13, constantValue := 0 }]
  methods := #[k6m0, k6m1]
  instanceTypes := #[]
  staticTypes := #[(.object "java/io/InputStream"), (.object "java/io/PrintStream"), (.object "java/io/PrintStream"), (.object "java/io/InputStream"), .int, .int, .int, (.object "java/lang/SecurityManager"), (.object "java/lang/String"), (.object "java/io/Console"), (.object "java/io/PrintStream"), (.object "java/util/Properties"), (.object "java/lang/String"), (.object "java/lang/ModuleLayer")]
  resolved := Array.replicate 834 none
  statics := none }

def pool7 : Array CpInfo := pool [(1, u "java/io/Serializable"), (0, .class_ 1), (0, u "java/lang/Object"), (0, .class_ 3)] 3

/-- java/io/Serializable -/
def k7 : Class := { plain "java/io/Serializable" (some 0) with
  accessFlags := 1537
  interfaces := #[]
  cf := some (fileOf pool7 2 #[] #[] 1537 4 #[] #[])
  fields := #[]
  methods := #[]
  instanceTypes := #[]
  staticTypes := #[]
  resolved := Array.replicate 8 none
  statics := none }

/-- the primitive byte -/
def k8 : Class := { plain "byte" none with kind := .primitive 'B', accessFlags := 0x411 }
/-- [B -/
def k9 : Class := { plain "[B" (some 0) with kind := .array 8 .byte, interfaces := #[5, 7], accessFlags := 1041 }

/-- the primitive double -/
def k10 : Class := { plain "double" none with kind := .primitive 'D', accessFlags := 0x411 }
/-- [D -/
def k11 : Class := { plain "[D" (some 0) with kind := .array 10 .double, interfaces := #[5, 7], accessFlags := 1041 }

/-- the primitive int -/
def k12 : Class := { plain "int" none with kind := .primitive 'I', accessFlags := 0x411 }
/-- [I -/
def k13 : Class := { plain "[I" (some 0) with kind := .array 12 .int, interfaces := #[5, 7], accessFlags := 1041 }

def heap : Heap := #[]
def classes : Array Class := #[k0, k1, k2, k3, k4, k5, k6, k7, k8, k9, k10, k11, k12, k13]
def interned : List (Array UInt16 × Addr) := []
def slotsUsed : Nat := 0
def theMethod : MethodId := ⟨1, 1⟩
def args0 : Array Value := #[.int 1, .int 2, .int 3, .int 4, .int 5, .int 1]
def aboutOver (below : List Frame) : State where
  vm := { classes := classes, interned := interned.toArray }
  heap := heap
  slotsUsed := slotsUsed
  threads := #[{ frames := .invoking theMethod args0 :: below }]
def below0 : List Frame := [.native { method := ⟨0, 0⟩, args := #[] }]
def about1 : State := aboutOver below0
def p0 : Program := .bare "" "" ""
def e0 : Env := launch0.env 0 0 0
theorem w_frames : about1.frames = Frame.invoking theMethod args0 :: below0 := rfl
set_option maxRecDepth 65536 in
theorem w_args : argsFit about1.vm theMethod args0 = true := by decide +kernel
set_option maxRecDepth 65536 in
theorem w_heap : heapFits about1 = true := by decide +kernel
set_option maxRecDepth 65536 in
theorem w_runnable : about1.curStatus? = some .runnable := by decide +kernel
set_option maxRecDepth 65536 in
theorem w_alone : about1.alone = true := by decide +kernel
set_option maxRecDepth 65536 in
theorem w_named : about1.methodNamed? x = some theMethod := by decide +kernel
set_option maxRecDepth 65536 in
theorem w_hears : about1.hears theMethod below0 = true := by decide +kernel
set_option maxRecDepth 65536 in
theorem w_ripe : about1.ripe theMethod args0 below0 = true := by decide +kernel
theorem w_running : about1.status = .running := rfl
set_option maxRecDepth 65536 in
theorem w_room : about1.hasRoom e0.platform room_1 = true :=
  launch0.hasRoom_least _ room_1 (by decide +kernel) (by decide +kernel) (by decide +kernel) (by decide +kernel) (by decide +kernel) (by decide +kernel)
theorem allAtoms_all (ts : List Jvm.Cond) (a : Array Jvm.Value) (st : Jvm.State) : (allAtoms ts).before a st = ts.all (fun c => c.before a st) := by
  induction ts with
  | nil => rfl
  | cons c t ih =>
    show (Jvm.Cond.and c (allAtoms t)).before a st = _
    rw [Jvm.Cond.before_and, ih, List.all_cons]
def words1 : List Jvm.Cond := Jvm.Cond.code x code maxLocals ret :: tables_1
/-- a 'code' word, met by the world's own term for the bytes: nothing is compared byte by byte -/
theorem code_word {y : MethodName} {bytes : ByteArray} {mx : Nat} {rt : Option FieldType} {a : Array Value} {s : State} {m : MethodId} {meth : Method} {c : Code} (h1 : s.methodNamed? y = some m) (h2 : s.vm.method? m = some meth) (h3 : meth.code = some c) (h4 : c.code = bytes)
    (h5 : (c.maxLocals == mx && c.exceptionTable.isEmpty && decide (c.maxStack ≤ mostOperands) && decide (meth.sig.returnType = rt) && !meth.locks && decide (parseMethodDescriptor y.desc = some meth.sig)) = true) : (Jvm.Cond.code y bytes mx rt).before a s = true := by
  simp only [Bool.and_eq_true, beq_iff_eq, Bool.not_eq_true', decide_eq_true_eq] at h5
  obtain ⟨⟨⟨⟨⟨g1, g2⟩, g3⟩, g4⟩, g5⟩, g6⟩ := h5
  simp [Cond.before, Cond.holds, Cond.value, h1, h2, h3, h4, g1, g2, g3, g4, g5, g6]
def isCode : Jvm.Cond → Bool
  | .code _ _ _ _ => true
  | _ => false
theorem all_split {L : List Jvm.Cond} {P : Jvm.Cond → Bool} (h1 : L.all (fun c => isCode c || P c) = true) (h2 : ∀ c ∈ L.filter isCode, P c = true) : L.all P = true := by
  refine List.all_eq_true.mpr fun c hc => ?_
  have h := List.all_eq_true.mp h1 c hc
  rcases Bool.eq_false_or_eq_true (isCode c) with hi | hi
  · exact h2 c (List.mem_filter.mpr ⟨hc, hi⟩)
  · simpa [hi] using h
set_option maxRecDepth 65536 in
theorem w_c0 : (Jvm.Cond.code x code maxLocals ret).before args0 about1 = true := code_word (m := ⟨1, 1⟩) (meth := k1m1) (c := k1c1) (by decide +kernel) rfl rfl rfl (by decide +kernel)
set_option maxRecDepth 65536 in
theorem w_c1 : (Jvm.Cond.code ({ cls := "com/example/stepwise_medians/stepwisemedians/engine/EntryDeque", name := "<init>", desc := "()V" } : Jvm.MethodName) prog_7_method_1_code (1 : Nat) (Option.none : Option Jvm.ClassFile.FieldType)).before args0 about1 = true := code_word (m := ⟨2, 0⟩) (meth := k2m0) (c := k2c0) (by decide +kernel) rfl rfl rfl (by decide +kernel)
set_option maxRecDepth 65536 in
theorem w_c2 : (Jvm.Cond.code ({ cls := "java/lang/Object", name := "<init>", desc := "()V" } : Jvm.MethodName) object_method_1_code (1 : Nat) (Option.none : Option Jvm.ClassFile.FieldType)).before args0 about1 = true := code_word (m := ⟨0, 0⟩) (meth := k0m0) (c := k0c0) (by decide +kernel) rfl rfl rfl (by decide +kernel)
set_option maxRecDepth 65536 in
theorem w_c3 : (Jvm.Cond.code ({ cls := "com/example/stepwise_medians/stepwisemedians/engine/EntryDeque", name := "addLast", desc := "(DDI)V" } : Jvm.MethodName) prog_7_method_8_code (6 : Nat) (Option.none : Option Jvm.ClassFile.FieldType)).before args0 about1 = true := code_word (m := ⟨2, 5⟩) (meth := k2m5) (c := k2c5) (by decide +kernel) rfl rfl rfl (by decide +kernel)
set_option maxRecDepth 65536 in
theorem w_c4 : (Jvm.Cond.code ({ cls := "com/example/stepwise_medians/stepwisemedians/engine/EntryDeque", name := "dropFirst", desc := "(I)V" } : Jvm.MethodName) prog_7_method_9_code (2 : Nat) (Option.none : Option Jvm.ClassFile.FieldType)).before args0 about1 = true := code_word (m := ⟨2, 6⟩) (meth := k2m6) (c := k2c6) (by decide +kernel) rfl rfl rfl (by decide +kernel)
set_option maxRecDepth 65536 in
theorem w_c5 : (Jvm.Cond.code ({ cls := "com/example/stepwise_medians/stepwisemedians/engine/EntryDeque", name := "dropLast", desc := "(I)V" } : Jvm.MethodName) prog_7_method_10_code (2 : Nat) (Option.none : Option Jvm.ClassFile.FieldType)).before args0 about1 = true := code_word (m := ⟨2, 7⟩) (meth := k2m7) (c := k2c7) (by decide +kernel) rfl rfl rfl (by decide +kernel)
set_option maxRecDepth 65536 in
theorem w_c6 : (Jvm.Cond.code ({ cls := "com/example/stepwise_medians/stepwisemedians/engine/EntryDeque", name := "copy", desc := "()Lcom/example/stepwise_medians/stepwisemedians/engine/EntryDeque;" } : Jvm.MethodName) prog_7_method_3_code (1 : Nat) (Option.some (Jvm.ClassFile.FieldType.object "com/example/stepwise_medians/stepwisemedians/engine/EntryDeque"))).before args0 about1 = true := code_word (m := ⟨2, 2⟩) (meth := k2m2) (c := k2c2) (by decide +kernel) rfl rfl rfl (by decide +kernel)
set_option maxRecDepth 65536 in
theorem w_c7 : (Jvm.Cond.code ({ cls := "com/example/stepwise_medians/stepwisemedians/engine/EntryDeque", name := "<init>", desc := "(Lcom/example/stepwise_medians/stepwisemedians/engine/EntryDeque;)V" } : Jvm.MethodName) prog_7_method_2_code (2 : Nat) (Option.none : Option Jvm.ClassFile.FieldType)).before args0 about1 = true := code_word (m := ⟨2, 1⟩) (meth := k2m1) (c := k2c1) (by decide +kernel) rfl rfl rfl (by decide +kernel)
set_option maxRecDepth 65536 in
theorem w_c8 : (Jvm.Cond.code ({ cls := "com/example/stepwise_medians/stepwisemedians/engine/EntryDeque", name := "size", desc := "()I" } : Jvm.MethodName) prog_7_method_4_code (1 : Nat) (Option.some Jvm.ClassFile.FieldType.int)).before args0 about1 = true := code_word (m := ⟨2, 3⟩) (meth := k2m3) (c := k2c3) (by decide +kernel) rfl rfl rfl (by decide +kernel)
set_option maxRecDepth 65536 in
theorem w_c9 : (Jvm.Cond.code ({ cls := "java/lang/Math", name := "max", desc := "(II)I" } : Jvm.MethodName) jdk_29_method_65_code (2 : Nat) (Option.some Jvm.ClassFile.FieldType.int)).before args0 about1 = true := code_word (m := ⟨3, 1⟩) (meth := k3m1) (c := k3c1) (by decide +kernel) rfl rfl rfl (by decide +kernel)
set_option maxRecDepth 65536 in
theorem w_c10 : (Jvm.Cond.code ({ cls := "com/example/stepwise_medians/stepwisemedians/engine/EntryDeque", name := "moveEntriesTo", desc := "(I)V" } : Jvm.MethodName) prog_7_method_12_code (3 : Nat) (Option.none : Option Jvm.ClassFile.FieldType)).before args0 about1 = true := code_word (m := ⟨2, 8⟩) (meth := k2m8) (c := k2c8) (by decide +kernel) rfl rfl rfl (by decide +kernel)
set_option maxRecDepth 65536 in
theorem w_c11 : (Jvm.Cond.code ({ cls := "java/util/Arrays", name := "copyOfRange", desc := "([DII)[D" } : Jvm.MethodName) jdk_65_method_144_code (3 : Nat) (Option.some (Jvm.ClassFile.FieldType.array Jvm.ClassFile.FieldType.double))).before args0 about1 = true := code_word (m := ⟨4, 4⟩) (meth := k4m4) (c := k4c4) (by decide +kernel) rfl rfl rfl (by decide +kernel)
set_option maxRecDepth 65536 in
theorem w_c12 : (Jvm.Cond.code ({ cls := "java/util/Arrays", name := "copyOfRange", desc := "([III)[I" } : Jvm.MethodName) jdk_65_method_136_code (3 : Nat) (Option.some (Jvm.ClassFile.FieldType.array Jvm.ClassFile.FieldType.int))).before args0 about1 = true := code_word (m := ⟨4, 2⟩) (meth := k4m2) (c := k4c2) (by decide +kernel) rfl rfl rfl (by decide +kernel)
set_option maxRecDepth 65536 in
theorem w_c13 : (Jvm.Cond.code ({ cls := "com/example/stepwise_medians/stepwisemedians/engine/EntryDeque", name := "key", desc := "(I)D" } : Jvm.MethodName) prog_7_method_5_code (2 : Nat) (Option.some Jvm.ClassFile.FieldType.double)).before args0 about1 = true := code_word (m := ⟨2, 4⟩) (meth := k2m4) (c := k2c4) (by decide +kernel) rfl rfl rfl (by decide +kernel)
set_option maxRecDepth 65536 in
theorem w_c14 : (Jvm.Cond.code ({ cls := "java/util/Arrays", name := "copyOfRangeDouble", desc := "([DII)[D" } : Jvm.MethodName) jdk_65_method_145_code (5 : Nat) (Option.some (Jvm.ClassFile.FieldType.array Jvm.ClassFile.FieldType.double))).before args0 about1 = true := code_word (m := ⟨4, 5⟩) (meth := k4m5) (c := k4c5) (by decide +kernel) rfl rfl rfl (by decide +kernel)
set_option maxRecDepth 65536 in
theorem w_c15 : (Jvm.Cond.code ({ cls := "java/util/Arrays", name := "checkLength", desc := "(II)V" } : Jvm.MethodName) jdk_65_method_131_code (2 : Nat) (Option.none : Option Jvm.ClassFile.FieldType)).before args0 about1 = true := code_word (m := ⟨4, 1⟩) (meth := k4m1) (c := k4c1) (by decide +kernel) rfl rfl rfl (by decide +kernel)
set_option maxRecDepth 65536 in
theorem w_c16 : (Jvm.Cond.code ({ cls := "java/lang/Math", name := "min", desc := "(II)I" } : Jvm.MethodName) jdk_29_method_69_code (2 : Nat) (Option.some Jvm.ClassFile.FieldType.int)).before args0 about1 = true := code_word (m := ⟨3, 2⟩) (meth := k3m2) (c := k3c2) (by decide +kernel) rfl rfl rfl (by decide +kernel)
set_option maxRecDepth 65536 in
theorem w_c17 : (Jvm.Cond.code ({ cls := "java/util/Arrays", name := "copyOfRangeInt", desc := "([III)[I" } : Jvm.MethodName) jdk_65_method_137_code (5 : Nat) (Option.some (Jvm.ClassFile.FieldType.array Jvm.ClassFile.FieldType.int))).before args0 about1 = true := code_word (m := ⟨4, 3⟩) (meth := k4m3) (c := k4c3) (by decide +kernel) rfl rfl rfl (by decide +kernel)
def codes1 : List Jvm.Cond := [Jvm.Cond.code x code maxLocals ret, Jvm.Cond.code ({ cls := "com/example/stepwise_medians/stepwisemedians/engine/EntryDeque", name := "<init>", desc := "()V" } : Jvm.MethodName) prog_7_method_1_code (1 : Nat) (Option.none : Option Jvm.ClassFile.FieldType), Jvm.Cond.code ({ cls := "java/lang/Object", name := "<init>", desc := "()V" } : Jvm.MethodName) object_method_1_code (1 : Nat) (Option.none : Option Jvm.ClassFile.FieldType), Jvm.Cond.code ({ cls := "com/example/stepwise_medians/stepwisemedians/engine/EntryDeque", name := "addLast", desc := "(DDI)V" } : Jvm.MethodName) prog_7_method_8_code (6 : Nat) (Option.none : Option Jvm.ClassFile.FieldType), Jvm.Cond.code ({ cls := "com/example/stepwise_medians/stepwisemedians/engine/EntryDeque", name := "dropFirst", desc := "(I)V" } : Jvm.MethodName) prog_7_method_9_code (2 : Nat) (Option.none : Option Jvm.ClassFile.FieldType), Jvm.Cond.code ({ cls := "com/example/stepwise_medians/stepwisemedians/engine/EntryDeque", name := "dropLast", desc := "(I)V" } : Jvm.MethodName) prog_7_method_10_code (2 : Nat) (Option.none : Option Jvm.ClassFile.FieldType), Jvm.Cond.code ({ cls := "com/example/stepwise_medians/stepwisemedians/engine/EntryDeque", name := "copy", desc := "()Lcom/example/stepwise_medians/stepwisemedians/engine/EntryDeque;" } : Jvm.MethodName) prog_7_method_3_code (1 : Nat) (Option.some (Jvm.ClassFile.FieldType.object "com/example/stepwise_medians/stepwisemedians/engine/EntryDeque")), Jvm.Cond.code ({ cls := "com/example/stepwise_medians/stepwisemedians/engine/EntryDeque", name := "<init>", desc := "(Lcom/example/stepwise_medians/stepwisemedians/engine/EntryDeque;)V" } : Jvm.MethodName) prog_7_method_2_code (2 : Nat) (Option.none : Option Jvm.ClassFile.FieldType), Jvm.Cond.code ({ cls := "com/example/stepwise_medians/stepwisemedians/engine/EntryDeque", name := "size", desc := "()I" } : Jvm.MethodName) prog_7_method_4_code (1 : Nat) (Option.some Jvm.ClassFile.FieldType.int), Jvm.Cond.code ({ cls := "java/lang/Math", name := "max", desc := "(II)I" } : Jvm.MethodName) jdk_29_method_65_code (2 : Nat) (Option.some Jvm.ClassFile.FieldType.int), Jvm.Cond.code ({ cls := "com/example/stepwise_medians/stepwisemedians/engine/EntryDeque", name := "moveEntriesTo", desc := "(I)V" } : Jvm.MethodName) prog_7_method_12_code (3 : Nat) (Option.none : Option Jvm.ClassFile.FieldType), Jvm.Cond.code ({ cls := "java/util/Arrays", name := "copyOfRange", desc := "([DII)[D" } : Jvm.MethodName) jdk_65_method_144_code (3 : Nat) (Option.some (Jvm.ClassFile.FieldType.array Jvm.ClassFile.FieldType.double)), Jvm.Cond.code ({ cls := "java/util/Arrays", name := "copyOfRange", desc := "([III)[I" } : Jvm.MethodName) jdk_65_method_136_code (3 : Nat) (Option.some (Jvm.ClassFile.FieldType.array Jvm.ClassFile.FieldType.int)), Jvm.Cond.code ({ cls := "com/example/stepwise_medians/stepwisemedians/engine/EntryDeque", name := "key", desc := "(I)D" } : Jvm.MethodName) prog_7_method_5_code (2 : Nat) (Option.some Jvm.ClassFile.FieldType.double), Jvm.Cond.code ({ cls := "java/util/Arrays", name := "copyOfRangeDouble", desc := "([DII)[D" } : Jvm.MethodName) jdk_65_method_145_code (5 : Nat) (Option.some (Jvm.ClassFile.FieldType.array Jvm.ClassFile.FieldType.double)), Jvm.Cond.code ({ cls := "java/util/Arrays", name := "checkLength", desc := "(II)V" } : Jvm.MethodName) jdk_65_method_131_code (2 : Nat) (Option.none : Option Jvm.ClassFile.FieldType), Jvm.Cond.code ({ cls := "java/lang/Math", name := "min", desc := "(II)I" } : Jvm.MethodName) jdk_29_method_69_code (2 : Nat) (Option.some Jvm.ClassFile.FieldType.int), Jvm.Cond.code ({ cls := "java/util/Arrays", name := "copyOfRangeInt", desc := "([III)[I" } : Jvm.MethodName) jdk_65_method_137_code (5 : Nat) (Option.some (Jvm.ClassFile.FieldType.array Jvm.ClassFile.FieldType.int))]
set_option maxRecDepth 65536 in
theorem codes_eq : words1.filter isCode = codes1 := rfl
theorem w_codes : ∀ c ∈ words1.filter isCode, c.before args0 about1 = true := by
  rw [codes_eq]
  intro c hc
  simp only [codes1, List.mem_cons, List.not_mem_nil, or_false] at hc
  rcases hc with rfl | rfl | rfl | rfl | rfl | rfl | rfl | rfl | rfl | rfl | rfl | rfl | rfl | rfl | rfl | rfl | rfl | rfl
  · exact w_c0
  · exact w_c1
  · exact w_c2
  · exact w_c3
  · exact w_c4
  · exact w_c5
  · exact w_c6
  · exact w_c7
  · exact w_c8
  · exact w_c9
  · exact w_c10
  · exact w_c11
  · exact w_c12
  · exact w_c13
  · exact w_c14
  · exact w_c15
  · exact w_c16
  · exact w_c17
set_option maxRecDepth 65536 in
theorem w_t1 : (words1.take 24).all (fun c => isCode c || c.before args0 about1) = true := by decide +kernel
set_option maxRecDepth 65536 in
theorem w_t2 : ((words1.drop 24).take 24).all (fun c => isCode c || c.before args0 about1) = true := by decide +kernel
set_option maxRecDepth 65536 in
theorem w_t3 : (((words1.drop 24).drop 24).take 24).all (fun c => isCode c || c.before args0 about1) = true := by decide +kernel
set_option maxRecDepth 65536 in
theorem w_t4 : ((((words1.drop 24).drop 24).drop 24).take 24).all (fun c => isCode c || c.before args0 about1) = true := by decide +kernel
set_option maxRecDepth 65536 in
theorem w_t5 : ((((words1.drop 24).drop 24).drop 24).drop 24).all (fun c => isCode c || c.before args0 about1) = true := by decide +kernel
theorem w_tables : (allAtoms (Jvm.Cond.code x code maxLocals ret :: tables_1)).before args0 about1 = true := by
  rw [allAtoms_all]
  show words1.all (fun c => c.before args0 about1) = true
  refine all_split ?_ w_codes
  rw [← List.take_append_drop 24 words1, List.all_append, w_t1, ← List.take_append_drop 24 (words1.drop 24), List.all_append, w_t2, ← List.take_append_drop 24 ((words1.drop 24).drop 24), List.all_append, w_t3, ← List.take_append_drop 24 (((words1.drop 24).drop 24).drop 24), List.all_append, w_t4, w_t5]
  rfl
set_option maxRecDepth 65536 in
theorem w_case : (Jvm.Cond.and given_1 narrow_1).before args0 about1 = true := by decide +kernel
theorem w_applies : (headSpec (Jvm.Cond.code x code maxLocals ret :: tables_1) room_1).applies x e0.platform about1 = true :=
  (Spec.applies_iff w_frames).mpr ⟨w_running, w_runnable, w_alone, w_named, w_hears, w_ripe, w_room, w_tables⟩
theorem atStart : AtStart classFile x code maxLocals ret World_1 tables_1 room_1 Calls_1 rest_1 Pre_1 launch0 p0 e0 about1 theMethod args0 below0 :=
  ⟨lists_1, trivial, launch0.admits_env _ _ _, launch0.least_env, fairChoices_fair.cas, fairChoices_fair.clock, w_frames, w_args, w_heap, w_applies, trivial, trivial, w_case⟩
end start1
theorem witness_1 : WitnessClaimed_1 := ⟨start1.p0, start1.e0, start1.about1, start1.theMethod, start1.args0, start1.below0, start1.atStart⟩
end Jvm.Pilot.@@N@@
