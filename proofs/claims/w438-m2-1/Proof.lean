import JvmDerived
import JvmDerived.Pilot.@@N@@Statement
import JvmDerived.Pilot.@@N@@Code
set_option linter.unusedVariables false
set_option linter.unusedSimpArgs false
namespace Jvm.Pilot.@@N@@
open Jvm Jvm.ClassFile Sem Op Lib Jvm.Free Jvm.Stand Jvm.LawKit Jvm.RoadKit Bundle Jvm.Pilot.@@N@@.Jvm.D
/-! own helpers: the goal of a walk as one predicate, its steps, its calls -/
section OwnKit
variable {p : Program} {l : Launch} {e : Env} {R : Room} {s : State} {m : MethodId} {args : Array Value} {below : List Frame} {meth : Method} {c : Code} {T : State} {locs : List Loc} {cells slots : Nat} {Z : State} {a0 : Array Value} {h : Heap} {Q : Option Value → Heap → List Loc → Prop} {kc ks : Nat}
/-- from S the run ends, returns, and Q holds of what it returns, of the heap and of the places written -/
def OGoal (p : Program) (e : Env) (below : List Frame) (s : State) (Q : Option Value → Heap → List Loc → Prop) (kc ks : Nat) (S : State) : Prop :=
  ∃ s₂ o, Steps p.tables e below S s₂ ∧ s₂.status = .running ∧ Ended s₂ below o ∧ ∃ v L, o = .returned v ∧ Q v s₂.heap L ∧ FrameEnd s o s₂ L kc ks
theorem OGoal.mp {S S' : State} (k : ∀ t, Steps p.tables e below S' t → Steps p.tables e below S t) (g : OGoal p e below s Q kc ks S') : OGoal p e below s Q kc ks S := by
  obtain ⟨s₂, o, h1, h2⟩ := g
  exact ⟨s₂, o, k _ h1, h2⟩
theorem oRet (X : Stand p l e R s m args below meth c T locs cells slots) (hx : p.tables.exec = Jvm.exec) (hlk : meth.locks = false) {pc : Nat} {Ls : Array Slot} {w : Value} {t : FieldType} {i : Instr} {rest : List Value} (hret : meth.sig.returnType = some t) (hn : narrow t w = w)
    (hi : (i = .ireturn ∧ (t = .int ∨ t = .boolean ∨ t = .byte ∨ t = .char ∨ t = .short) ∧ ∃ z, w = .int z) ∨ (i = .lreturn ∧ t = .long ∧ ∃ z, w = .long z) ∨ (i = .dreturn ∧ t = .double ∧ ∃ z, w = .double z) ∨ (i = .freturn ∧ t = .float ∧ ∃ z, w = .float z) ∨ (i = .areturn ∧ t.isReference = true ∧ w.isRef = true))
    (hd : decode c.code pc = .ok (i, 1)) (hQ : Q (some w) T.heap locs) (hc : cells ≤ kc) (hs : slots ≤ ks) : OGoal p e below s Q kc ks (T.setTop (mkF m pc Ls (w :: rest))) := by
  obtain ⟨fs, hr, hrun, hended, hW, hsame⟩ := X.leave (v := some w) (fun q => by rw [hret] at q; cases q) hlk
  exact ⟨_, _, retOut X hx hret hn hi hd hr, hrun, hended, _, _, rfl, hQ, ⟨_, rfl⟩, hW, hsame.mono hc hs⟩
theorem oRetI (X : Stand p l e R s m args below meth c T locs cells slots) (hx : p.tables.exec = Jvm.exec) (hlk : meth.locks = false) {pc : Nat} {Ls : Array Slot} {z : Int32} {rest : List Value} (hret : meth.sig.returnType = some .int)
    (hd : decode c.code pc = .ok (.ireturn, 1)) (hQ : Q (some (.int z)) T.heap locs) (hc : cells ≤ kc) (hs : slots ≤ ks) : OGoal p e below s Q kc ks (T.setTop (mkF m pc Ls (.int z :: rest))) :=
  oRet X hx hlk hret rfl (Or.inl ⟨rfl, Or.inl rfl, _, rfl⟩) hd hQ hc hs
theorem oRetZ (X : Stand p l e R s m args below meth c T locs cells slots) (hx : p.tables.exec = Jvm.exec) (hlk : meth.locks = false) {pc : Nat} {Ls : Array Slot} {z : Int32} {rest : List Value} (hret : meth.sig.returnType = some .boolean) (hz : z = 0 ∨ z = 1)
    (hd : decode c.code pc = .ok (.ireturn, 1)) (hQ : Q (some (.int z)) T.heap locs) (hc : cells ≤ kc) (hs : slots ≤ ks) : OGoal p e below s Q kc ks (T.setTop (mkF m pc Ls (.int z :: rest))) :=
  oRet X hx hlk hret (by rcases hz with rfl | rfl <;> rfl) (Or.inl ⟨rfl, Or.inr (Or.inl rfl), _, rfl⟩) hd hQ hc hs
theorem oRetJ (X : Stand p l e R s m args below meth c T locs cells slots) (hx : p.tables.exec = Jvm.exec) (hlk : meth.locks = false) {pc : Nat} {Ls : Array Slot} {z : Int64} {rest : List Value} (hret : meth.sig.returnType = some .long)
    (hd : decode c.code pc = .ok (.lreturn, 1)) (hQ : Q (some (.long z)) T.heap locs) (hc : cells ≤ kc) (hs : slots ≤ ks) : OGoal p e below s Q kc ks (T.setTop (mkF m pc Ls (.long z :: rest))) :=
  oRet X hx hlk hret rfl (Or.inr (Or.inl ⟨rfl, rfl, _, rfl⟩)) hd hQ hc hs
theorem oRetD (X : Stand p l e R s m args below meth c T locs cells slots) (hx : p.tables.exec = Jvm.exec) (hlk : meth.locks = false) {pc : Nat} {Ls : Array Slot} {z : UInt64} {rest : List Value} (hret : meth.sig.returnType = some .double)
    (hd : decode c.code pc = .ok (.dreturn, 1)) (hQ : Q (some (.double z)) T.heap locs) (hc : cells ≤ kc) (hs : slots ≤ ks) : OGoal p e below s Q kc ks (T.setTop (mkF m pc Ls (.double z :: rest))) :=
  oRet X hx hlk hret rfl (Or.inr (Or.inr (Or.inl ⟨rfl, rfl, _, rfl⟩))) hd hQ hc hs
theorem oNarC {x : Int32} (h : 0 ≤ x.toInt ∧ x.toInt < 65536) : x.toUInt32.toUInt16.toUInt32.toInt32 = x := Int32.toInt_inj.mp (by have q := c_i2c x; omega)
theorem oNarB {x : Int32} (h : -128 ≤ x.toInt ∧ x.toInt < 128) : x.toInt8.toInt32 = x := Int32.toInt_inj.mp (by have q := c_i2b x; omega)
theorem oNarBB (x : Int32) : nar .byte x.toInt8.toInt32 = x.toInt8.toInt32 := oNarB ⟨(c_i2b x).2.1, (c_i2b x).2.2⟩
theorem oRetC (X : Stand p l e R s m args below meth c T locs cells slots) (hx : p.tables.exec = Jvm.exec) (hlk : meth.locks = false) {pc : Nat} {Ls : Array Slot} {z : Int32} {rest : List Value} (hret : meth.sig.returnType = some .char) (hz : 0 ≤ z.toInt ∧ z.toInt < 65536)
    (hd : decode c.code pc = .ok (.ireturn, 1)) (hQ : Q (some (.int z)) T.heap locs) (hc : cells ≤ kc) (hs : slots ≤ ks) : OGoal p e below s Q kc ks (T.setTop (mkF m pc Ls (.int z :: rest))) :=
  oRet X hx hlk hret (congrArg Value.int (oNarC hz)) (Or.inl ⟨rfl, Or.inr (Or.inr (Or.inr (Or.inl rfl))), _, rfl⟩) hd hQ hc hs
theorem oRetB (X : Stand p l e R s m args below meth c T locs cells slots) (hx : p.tables.exec = Jvm.exec) (hlk : meth.locks = false) {pc : Nat} {Ls : Array Slot} {z : Int32} {rest : List Value} (hret : meth.sig.returnType = some .byte) (hz : -128 ≤ z.toInt ∧ z.toInt < 128)
    (hd : decode c.code pc = .ok (.ireturn, 1)) (hQ : Q (some (.int z)) T.heap locs) (hc : cells ≤ kc) (hs : slots ≤ ks) : OGoal p e below s Q kc ks (T.setTop (mkF m pc Ls (.int z :: rest))) :=
  oRet X hx hlk hret (congrArg Value.int (oNarB hz)) (Or.inl ⟨rfl, Or.inr (Or.inr (Or.inl rfl)), _, rfl⟩) hd hQ hc hs
theorem oRetA (X : Stand p l e R s m args below meth c T locs cells slots) (hx : p.tables.exec = Jvm.exec) (hlk : meth.locks = false) {pc : Nat} {Ls : Array Slot} {w : Value} {t : FieldType} {rest : List Value} (hret : meth.sig.returnType = some t) (ht : t.isReference = true) (hw : w.isRef = true)
    (hd : decode c.code pc = .ok (.areturn, 1)) (hQ : Q (some w) T.heap locs) (hc : cells ≤ kc) (hs : slots ≤ ks) : OGoal p e below s Q kc ks (T.setTop (mkF m pc Ls (w :: rest))) :=
  oRet X hx hlk hret (by cases t <;> cases w <;> first | rfl | (cases ht; done) | (cases hw; done)) (Or.inr (Or.inr (Or.inr (Or.inr ⟨rfl, ht, hw⟩)))) hd hQ hc hs
theorem oRetV (X : Stand p l e R s m args below meth c T locs cells slots) (hx : p.tables.exec = Jvm.exec) (hlk : meth.locks = false) {pc : Nat} {Ls : Array Slot} (hret : meth.sig.returnType = none)
    (hd : decode c.code pc = .ok (.return_, 1)) (hQ : Q none T.heap locs) (hc : cells ≤ kc) (hs : slots ≤ ks) : OGoal p e below s Q kc ks (T.setTop (mkF m pc Ls [])) := by
  obtain ⟨fs, hr, hrun, hended, hW, hsame⟩ := X.leave (v := none) (fun _ => rfl) hlk
  exact ⟨_, _, X.returnOut hx hret hd hr, hrun, hended, _, _, rfl, hQ, ⟨_, rfl⟩, hW, hsame.mono hc hs⟩
/-- the contract of a method: called with as' over the heap h it returns, and Q holds; kc cells and ks slots are made at the most -/
def OConK (l : Launch) (Z : State) (y : MethodName) (bytes : ByteArray) (maxL : Nat) (ret : Option FieldType) (rm : Room) (kc ks : Nat) (as' : Array Value) (h : Heap) (Q : Option Value → Heap → List Loc → Prop) : Prop :=
  ∀ ws : List Jvm.Cond, MetFree l y (head1 (Jvm.Cond.code y bytes maxL ret :: ws) rm) (fun a U => a = as' ∧ Z.Warmed39 U.vm ∧ U.heap = h) (fun _ _ _ _ _ => True) (fun _ U o U' => ∃ v L, o = .returned v ∧ Q v U'.heap L ∧ FrameEnd U o U' L kc ks)
abbrev OCon (l : Launch) (Z : State) (y : MethodName) (bytes : ByteArray) (maxL : Nat) (ret : Option FieldType) (rm : Room) (as' : Array Value) (h : Heap) (Q : Option Value → Heap → List Loc → Prop) : Prop := OConK l Z y bytes maxL ret rm rm.cells rm.slots as' h Q
theorem OConK.intro {y : MethodName} {bytes : ByteArray} {maxL : Nat} {ret : Option FieldType} {rm : Room} {as' : Array Value} {Ls : Array Slot} (hpf : plainFor y = true) (ef : ∀ m, entryFrame m as' maxL = mkF m 0 Ls [])
    (H : ∀ p e s m below meth c s₁, p.tables.exec = Jvm.exec → c.code = bytes → c.maxLocals = maxL → s.vm.findClass y.cls = some m.cls → meth.name = y.name → meth.sig.returnType = ret → meth.locks = false → Z.Warmed39 s.vm →
      Stand p l e rm s m as' below meth c s₁ [] 0 0 → s₁.heap = h → OGoal p e below s Q kc ks (s₁.setTop (mkF m 0 Ls []))) : OConK l Z y bytes maxL ret rm kc ks as' h Q := by
  intro ws
  refine MetFree.of_bodySF hpf hisR ?_
  intro p e s m args below meth c s₁ Bd hml hP hK
  obtain ⟨rfl, hZ, hh⟩ := hP
  obtain ⟨s₂, o, h1, h2, h3, h4⟩ := H p e s m below meth c s₁ Bd.exec Bd.bytes hml (findClass_of_methodNamed Bd.named) (name_of_methodNamed Bd.named Bd.method).1 Bd.returns (BodyLoose.notSynchronized Bd) hZ (Stand.of_body Bd) (by rw [← hh, Bd.state]; rfl)
  exact ⟨s₂, o, castTop (ef m) h1, h2, h3, h4⟩
/-- weaker promise -/
theorem OConK.imp {y : MethodName} {bytes : ByteArray} {maxL : Nat} {ret : Option FieldType} {rm : Room} {as' : Array Value} {Q' : Option Value → Heap → List Loc → Prop} (H : OConK l Z y bytes maxL ret rm kc ks as' h Q) (k : ∀ v h' L, Q v h' L → Q' v h' L) : OConK l Z y bytes maxL ret rm kc ks as' h Q' := by
  intro ws p e ha hc hk s m args below hf happ hP hK
  obtain ⟨n, o, h1, h2, h3, v, L, h4, h5, h6⟩ := H ws p e ha hc hk s m args below hf happ hP hK
  exact ⟨n, o, h1, h2, h3, v, L, h4, k _ _ _ h5, h6⟩
theorem oCallS (X : Stand p l e R s m args below meth c T locs cells slots) (hx : p.tables.exec = Jvm.exec) (hZ : Z.Warmed39 s.vm) {own : String} {index : Nat} {y : MethodName} {bytes : ByteArray} {maxL : Nat} {ret : Option FieldType} {rm : Room} {as' : Array Value} {Qc : Option Value → Heap → List Loc → Prop}
    (hown : s.vm.findClass own = some m.cls) (w1 : (Jvm.Cond.methodLink own index y).before a0 Z = true) (w2 : (Jvm.Cond.static y).before a0 Z = true) (w3 : (Jvm.Cond.initialized y.cls).before a0 Z = true) (w4 : (Jvm.Cond.code y bytes maxL ret).before a0 Z = true)
    (hy : y.cls ≠ "java/lang/invoke/MethodHandle" ∧ y.cls ≠ "java/lang/invoke/VarHandle") (hM : OCon l Z y bytes maxL ret rm as' h Qc) (eT : T.heap = h) {pc : Nat} {Ls : Array Slot} {st : List Value} (argsL rest : List Value) (hst : st = argsL.reverse ++ rest) (has : argsL.toArray = as') (hsize : Ls.size = c.maxLocals)
    (hlen : ∀ sig, parseMethodDescriptor y.desc = some sig → argsL.length = sig.parameters.length) (W : Nat) (hW : (rest.map fun v => v.category).sum ≤ W) (hfr : rm.frames + 1 ≤ R.frames) (hlo : W + (maxL + 11) + rm.locals ≤ R.locals) (hce : cells + rm.cells ≤ R.cells) (hsl : slots + rm.slots ≤ R.slots)
    (hd : decode c.code pc = .ok (.invokestatic index, 3))
    (k : ∀ v T' Lc, Stand p l e R s m args below meth c T' (locs ++ Lc) (cells + rm.cells) (slots + rm.slots) → Qc v T'.heap Lc → OGoal p e below s Q kc ks (T'.setTop (mkF m (pc + 3) Ls (v.toList ++ rest)))) :
    OGoal p e below s Q kc ks (T.setTop (mkF m pc Ls st)) := by
  subst hst has
  obtain ⟨v, _, ⟨T', L', k', n'⟩, -, X', ⟨Lc, hQ, l', y', z'⟩, st⟩ := Jvm.LawKit.callS X hx (y := y) hown (mvT hZ w1) (mvT hZ w2) (mvT hZ w3) (mvT hZ w4) hy (backOf (W := W) (hM []) hZ w4 w3 hfr hlo) (g := mkF m pc Ls (argsL.reverse ++ rest)) rfl hsize (argsL := argsL) (rest := rest) hlen rfl (by show 2 * 0 + _ ≤ _; omega) hd (fun _ _ => ⟨rfl, eT, hce, hsl⟩)
  dsimp only [Pt.U, Pt.locs, Pt.cells, Pt.slots] at X' l' y' z' st hQ
  subst l' y' z'
  exact OGoal.mp st (k v T' Lc X' hQ)
theorem oCallV (X : Stand p l e R s m args below meth c T locs cells slots) (hx : p.tables.exec = Jvm.exec) (hZ : Z.Warmed39 s.vm) {own C : String} {index : Nat} {y z : MethodName} {bytes : ByteArray} {maxL : Nat} {ret : Option FieldType} {rm : Room} {as' : Array Value} {Qc : Option Value → Heap → List Loc → Prop}
    (hown : s.vm.findClass own = some m.cls) (w1 : (Jvm.Cond.methodLink own index y).before a0 Z = true) (w2 : (Jvm.Cond.declares y).before a0 Z = true) (w5 : (Jvm.Cond.selects C y z).before a0 Z = true) (w6 : (Jvm.Cond.instanceMethod z).before a0 Z = true) (w3 : (Jvm.Cond.initialized z.cls).before a0 Z = true) (w4 : (Jvm.Cond.code z bytes maxL ret).before a0 Z = true)
    (hy : y.cls ≠ "java/lang/invoke/MethodHandle" ∧ y.cls ≠ "java/lang/invoke/VarHandle") (hM : OCon l Z z bytes maxL ret rm as' h Qc) (eT : T.heap = h) {a : Addr} (E : Exa Z h a C) {pc : Nat} {Ls : Array Slot} {st : List Value} (argsL rest : List Value) (hst : st = argsL.reverse ++ .ref a :: rest) (has : (.ref a :: argsL).toArray = as') (hsize : Ls.size = c.maxLocals)
    (hnf : NotFace s y) (hlen : ∀ sig, parseMethodDescriptor y.desc = some sig → argsL.length = sig.parameters.length) (W : Nat) (hW : (rest.map fun v => v.category).sum ≤ W) (hfr : rm.frames + 1 ≤ R.frames) (hlo : W + (maxL + 11) + rm.locals ≤ R.locals) (hce : cells + rm.cells ≤ R.cells) (hsl : slots + rm.slots ≤ R.slots)
    (hd : decode c.code pc = .ok (.invokevirtual index, 3))
    (k : ∀ v T' Lc, Stand p l e R s m args below meth c T' (locs ++ Lc) (cells + rm.cells) (slots + rm.slots) → Qc v T'.heap Lc → OGoal p e below s Q kc ks (T'.setTop (mkF m (pc + 3) Ls (v.toList ++ rest)))) :
    OGoal p e below s Q kc ks (T.setTop (mkF m pc Ls st)) := by
  subst hst has
  obtain ⟨cq, kq, qa, qb, qc⟩ := isOf hZ eT E
  obtain ⟨v, _, ⟨T', L', k', n'⟩, -, X', ⟨Lc, hQ, l', y', z'⟩, st⟩ := X.virtualBack hx (y := y) (z := z) hown (mvT hZ w1) (mvT hZ w2) hnf (mvT hZ w5) (mvT hZ w6) hy (backOf (W := W) (hM []) hZ w4 w3 hfr hlo) qa qc (g := mkF m pc Ls (argsL.reverse ++ .ref a :: rest)) rfl hsize (Steps.refl _) (argsL := argsL) (rest := rest) hlen rfl (by show 2 * 0 + _ ≤ _; omega) hd (fun _ _ => ⟨rfl, eT, hce, hsl⟩)
  dsimp only [Pt.U, Pt.locs, Pt.cells, Pt.slots] at X' l' y' z' st hQ
  subst l' y' z'
  exact OGoal.mp (fun t q => st.trans q) (k v T' Lc X' hQ)
theorem oCallN (X : Stand p l e R s m args below meth c T locs cells slots) (hx : p.tables.exec = Jvm.exec) (hZ : Z.Warmed39 s.vm) {own : String} {index : Nat} {y : MethodName} {bytes : ByteArray} {maxL : Nat} {rm : Room} {as' : Array Value} {Qc : Option Value → Heap → List Loc → Prop}
    (hy1 : y.name = "<init>") (hown : s.vm.findClass own = some m.cls) (w1 : (Jvm.Cond.methodLink own index y).before a0 Z = true) (w6 : (Jvm.Cond.instanceMethod y).before a0 Z = true) (w3 : (Jvm.Cond.initialized y.cls).before a0 Z = true) (w4 : (Jvm.Cond.code y bytes maxL none).before a0 Z = true)
    (hy : y.cls ≠ "java/lang/invoke/MethodHandle" ∧ y.cls ≠ "java/lang/invoke/VarHandle") (hM : OCon l Z y bytes maxL none rm as' h Qc) (eT : T.heap = h) {a : Addr} {pc : Nat} {Ls : Array Slot} {st : List Value} (argsL rest : List Value) (hst : st = argsL.reverse ++ .ref a :: rest) (has : (.ref a :: argsL).toArray = as') (hsize : Ls.size = c.maxLocals)
    (hlen : ∀ sig, parseMethodDescriptor y.desc = some sig → argsL.length = sig.parameters.length) (W : Nat) (hW : (rest.map fun v => v.category).sum ≤ W) (hfr : rm.frames + 1 ≤ R.frames) (hlo : W + (maxL + 11) + rm.locals ≤ R.locals) (hce : cells + rm.cells ≤ R.cells) (hsl : slots + rm.slots ≤ R.slots)
    (hd : decode c.code pc = .ok (.invokespecial index, 3))
    (k : ∀ v T' Lc, Stand p l e R s m args below meth c T' (locs ++ Lc) (cells + rm.cells) (slots + rm.slots) → Qc v T'.heap Lc → OGoal p e below s Q kc ks (T'.setTop (mkF m (pc + 3) Ls (v.toList ++ rest)))) :
    OGoal p e below s Q kc ks (T.setTop (mkF m pc Ls st)) := by
  subst hst has
  obtain ⟨v, _, ⟨T', L', k', n'⟩, -, X', ⟨Lc, hQ, l', y', z'⟩, st⟩ := X.specialBack hx (y := y) hy1 hown (mvT hZ w1) (mvT hZ w6) (mvT hZ w4) hy (backOf (W := W) (hM []) hZ w4 w3 hfr hlo) (g := mkF m pc Ls (argsL.reverse ++ .ref a :: rest)) rfl hsize (Steps.refl _) (a := a) (argsL := argsL) (rest := rest) hlen rfl (by show 2 * 0 + _ ≤ _; omega) hd (fun _ _ => ⟨rfl, eT, hce, hsl⟩)
  dsimp only [Pt.U, Pt.locs, Pt.cells, Pt.slots] at X' l' y' z' st hQ
  subst l' y' z'
  exact OGoal.mp (fun t q => st.trans q) (k v T' Lc X' hQ)
theorem oNotFace {s : State} {C : String} {k : Nat} (h : (Jvm.Cond.instantiable C k).before args s = true) : ∃ c kc, s.vm.findClass C = some c ∧ s.vm.classes[c]? = some kc ∧ kc.isInterface = false := by
  obtain ⟨c, kc, h1, h2, -, h3, -, -⟩ := Cond.instantiable_spec h
  exact ⟨c, kc, h1, h2, (Bool.or_eq_false_iff.mp h3).1⟩
theorem oCallP (X : Stand p l e R s m args below meth c T locs cells slots) (hx : p.tables.exec = Jvm.exec) (hZ : Z.Warmed39 s.vm) {own C : String} {index : Nat} {y : MethodName} {bytes : ByteArray} {maxL : Nat} {ret : Option FieldType} {rm : Room} {as' : Array Value} {Qc : Option Value → Heap → List Loc → Prop}
    (hown : s.vm.findClass own = some m.cls) (w1 : (Jvm.Cond.methodLink own index y).before a0 Z = true) {kk : Nat} (w5 : (Jvm.Cond.instantiable y.cls kk).before a0 Z = true) (w6 : (Jvm.Cond.instanceMethod y).before a0 Z = true) (w7 : (Jvm.Cond.privateMethod y).before a0 Z = true) (w3 : (Jvm.Cond.initialized y.cls).before a0 Z = true) (w4 : (Jvm.Cond.code y bytes maxL ret).before a0 Z = true)
    (hy : y.cls ≠ "java/lang/invoke/MethodHandle" ∧ y.cls ≠ "java/lang/invoke/VarHandle") (hM : OCon l Z y bytes maxL ret rm as' h Qc) (eT : T.heap = h) {a : Addr} (E : Exa Z h a C) {pc : Nat} {Ls : Array Slot} {st : List Value} (argsL rest : List Value) (hst : st = argsL.reverse ++ .ref a :: rest) (has : (.ref a :: argsL).toArray = as') (hsize : Ls.size = c.maxLocals)
    (hlen : ∀ sig, parseMethodDescriptor y.desc = some sig → argsL.length = sig.parameters.length) (W : Nat) (hW : (rest.map fun v => v.category).sum ≤ W) (hfr : rm.frames + 1 ≤ R.frames) (hlo : W + (maxL + 11) + rm.locals ≤ R.locals) (hce : cells + rm.cells ≤ R.cells) (hsl : slots + rm.slots ≤ R.slots)
    (hd : decode c.code pc = .ok (.invokevirtual index, 3))
    (k : ∀ v T' Lc, Stand p l e R s m args below meth c T' (locs ++ Lc) (cells + rm.cells) (slots + rm.slots) → Qc v T'.heap Lc → OGoal p e below s Q kc ks (T'.setTop (mkF m (pc + 3) Ls (v.toList ++ rest)))) :
    OGoal p e below s Q kc ks (T.setTop (mkF m pc Ls st)) := by
  subst hst has
  obtain ⟨cq, q1, q2⟩ := E.cell
  obtain ⟨c1, k1, hc1, hk1, hi1⟩ := oNotFace (args := #[]) (mvT hZ w5)
  have hpr : s.PrivateAt y := Cond.privateMethod_at (mvP hZ w7 (args := #[]))
  have hse := selects_self_of_private (args := args) hc1 hk1 hi1 hpr (mvT hZ w6) hy
  obtain ⟨v, _, ⟨T', L', k', n'⟩, -, X', ⟨Lc, hQ, l', y', z'⟩, st⟩ := X.privateBack hx (y := y) hown (mvT hZ w1) (mvT hZ w6) hse hpr (mvT hZ w4) hy (backOf (W := W) (hM []) hZ w4 w3 hfr hlo) (g := mkF m pc Ls (argsL.reverse ++ .ref a :: rest)) rfl hsize (Steps.refl _) (a := a) (by rw [eT]; exact q1) q2 (argsL := argsL) (rest := rest) hlen rfl (by show 2 * 0 + _ ≤ _; omega) hd (fun _ _ => ⟨rfl, eT, hce, hsl⟩)
  dsimp only [Pt.U, Pt.locs, Pt.cells, Pt.slots] at X' l' y' z' st hQ
  subst l' y' z'
  exact OGoal.mp (fun t q => st.trans q) (k v T' Lc X' hQ)
theorem oLrem {g : JFrame} {target : State} (X : Stand p l e R s m args below meth c T locs cells slots) (hx : p.tables.exec = Jvm.exec) (hg : g.method = m) {x y : Int64} {rest : List Value} (hd : decode c.code g.pc = .ok (.lrem, 1)) (hs : g.stack = .long y :: .long x :: rest) (hy : y ≠ 0)
    (hr : Steps p.tables e below (T.setTop { g with pc := g.pc + 1, stack := .long (x % y) :: rest }) target) : Steps p.tables e below (T.setTop g) target := XT.lrem X.here hx hg hd hs hy (by rw [lrem_mod]; exact hr)
theorem oLt {x y : Int32} (h : x < y) : x.toInt < y.toInt := Int32.lt_iff_toInt_lt.mp h
theorem oNlt {x y : Int32} (h : ¬ x < y) : y.toInt ≤ x.toInt := Int.not_lt.mp fun q => h (Int32.lt_iff_toInt_lt.mpr q)
theorem oEq {x y : Int32} (h : x = y) : x.toInt = y.toInt := congrArg _ h
theorem oNe {x y : Int32} (h : ¬ x = y) : x.toInt ≠ y.toInt := fun q => h (Int32.toInt_inj.mp q)
theorem oLtL {x y : Int64} (h : x < y) : x.toInt < y.toInt := Int64.lt_iff_toInt_lt.mp h
theorem oNltL {x y : Int64} (h : ¬ x < y) : y.toInt ≤ x.toInt := Int.not_lt.mp fun q => h (Int64.lt_iff_toInt_lt.mpr q)
theorem oEqL {x y : Int64} (h : x = y) : x.toInt = y.toInt := congrArg _ h
theorem oNeL {x y : Int64} (h : ¬ x = y) : x.toInt ≠ y.toInt := fun q => h (Int64.toInt_inj.mp q)
theorem mLt {x y : Int32} (h : x.toInt < y.toInt) : x < y := Int32.lt_iff_toInt_lt.mpr h
theorem mNlt {x y : Int32} (h : y.toInt ≤ x.toInt) : ¬ x < y := fun q => absurd (oLt q) (Int.not_lt.mpr h)
theorem mEq {x y : Int32} (h : x.toInt = y.toInt) : x = y := Int32.toInt_inj.mp h
theorem mNe {x y : Int32} (h : x.toInt ≠ y.toInt) : ¬ x = y := fun q => h (congrArg _ q)
theorem mLtL {x y : Int64} (h : x.toInt < y.toInt) : x < y := Int64.lt_iff_toInt_lt.mpr h
theorem mNltL {x y : Int64} (h : y.toInt ≤ x.toInt) : ¬ x < y := fun q => absurd (oLtL q) (Int.not_lt.mpr h)
theorem mEqL {x y : Int64} (h : x.toInt = y.toInt) : x = y := Int64.toInt_inj.mp h
theorem mNeL {x y : Int64} (h : x.toInt ≠ y.toInt) : ¬ x = y := fun q => h (congrArg _ q)
theorem oRemL (x y : Int64) : 0 ≤ x.toInt → 0 < y.toInt → 0 ≤ (x % y).toInt ∧ (x % y).toInt < y.toInt := by
  intro h1 h2
  rw [Int64.toInt_mod, Int.tmod_eq_emod_of_nonneg h1]
  exact ⟨Int.emod_nonneg _ (by omega), Int.emod_lt_of_pos _ h2⟩
theorem oRemI (x y : Int32) : 0 ≤ x.toInt → 0 < y.toInt → 0 ≤ (x % y).toInt ∧ (x % y).toInt < y.toInt := by
  intro h1 h2
  rw [Int32.toInt_mod, Int.tmod_eq_emod_of_nonneg h1]
  exact ⟨Int.emod_nonneg _ (by omega), Int.emod_lt_of_pos _ h2⟩
/-- an array of kind ty, of length z, whose i-th component is f i -/
def OArr (Z : State) (h : Heap) (a : Addr) (ty : FieldType) (z : Int32) (f : Nat → Value) : Prop := ∃ c : Cell, Arr Z h a c ty ∧ c.slots.size = z.toNatClampNeg ∧ ¬ z < 0 ∧ ∀ i, i < c.slots.size → c.slots[i]? = some (f i)
section OArrs
variable {h' : Heap} {a b : Addr} {ty : FieldType} {z : Int32} {f : Nat → Value} {sl : Nat} {v : Value}
theorem OArr.lt (F : OArr Z h a ty z f) : a < h.size := by obtain ⟨c, A, -⟩ := F; exact A.lt
theorem OArr.ext (F : OArr Z h a ty z f) (E : Ext h h') : OArr Z h' a ty z f := by obtain ⟨c, A, r⟩ := F; exact ⟨c, A.ext E, r⟩
theorem OArr.other (F : OArr Z h b ty z f) (W : Wr h h' a sl v) (q : b ≠ a) : OArr Z h' b ty z f := by obtain ⟨c, A, r⟩ := F; exact ⟨c, A.other W q, r⟩
theorem OArr.keep {ws : List Addr} (F : OArr Z h a ty z f) (K : Keep h h' ws) (q : a ∉ ws) : OArr Z h' a ty z f := by obtain ⟨c, A, r⟩ := F; exact ⟨c, ⟨K.2.1 a c A.1 q, A.2⟩, r⟩
theorem OArr.imp {g : Nat → Value} (F : OArr Z h a ty z f) (k : ∀ i, i < z.toNatClampNeg → f i = g i) : OArr Z h a ty z g := by
  obtain ⟨c, A, S, r, G⟩ := F
  exact ⟨c, A, S, r, fun i hi => by rw [G i hi, k i (by rw [← S]; exact hi)]⟩
theorem OArr.new {k : ClassId} (A : Arr Z h a (newA k ty z) ty) (q : ¬ z < 0) : OArr Z h a ty z (fun _ => defaultValue ty) :=
  ⟨_, A, sz_new _ _ _, q, fun i hi => by simp only [newA, Array.size_replicate] at hi; simp [newA, hi]⟩
theorem OArr.set (F : OArr Z h a ty z f) (W : Wr h h' a sl v) : OArr Z h' a ty z (fun i => if i = sl then v else f i) := by
  obtain ⟨c, A, S, r, G⟩ := F
  refine ⟨_, A.same W, by rw [sz_set]; exact S, r, fun i hi => ?_⟩
  rw [sz_set] at hi
  show (c.setSlot sl v).slots[i]? = some (if i = sl then v else f i)
  by_cases q : i = sl
  · subst q; simp [Cell.setSlot, hi]
  · rw [if_neg q, ← G i hi]
    simp [Cell.setSlot, Array.getElem?_setIfInBounds, Ne.symm q]
theorem oNeA {C : String} {k : Nat} (E : Exa Z h a C) (wi : (Jvm.Cond.instantiable C k).before a0 Z = true) (F : OArr Z h b ty z f) : a ≠ b := by
  obtain ⟨c, A, -⟩ := F; exact ne_arr E wi A
theorem oIn {j : Int32} {n : Nat} (S : n = z.toNatClampNeg) (h1 : 0 ≤ j.toInt) (h2 : j.toInt < z.toInt) : ¬ (j < 0 ∨ n ≤ j.toNatClampNeg) := by
  intro q
  have e0 : (0 : Int32).toInt = 0 := by decide
  have e1 : j.toNatClampNeg = j.toInt.toNat := rfl
  have e2 : z.toNatClampNeg = z.toInt.toNat := rfl
  rcases q with q | q
  · have := oLt q; omega
  · rw [S, e1, e2] at q; omega
theorem oLen (X : Stand p l e R s m args below meth c T locs cells slots) (hx : p.tables.exec = Jvm.exec) (hZ : Z.Warmed39 s.vm) (eT : T.heap = h) (F : OArr Z h a ty z f) {g : JFrame} (hg : g.method = m) {rest : List Value} (hs : g.stack = .ref a :: rest) (hd : decode c.code g.pc = .ok (.arraylength, 1)) {target : State}
    (k : Steps p.tables e below (T.setTop { g with pc := g.pc + 1, stack := .int z :: rest }) target) : Steps p.tables e below (T.setTop g) target := by
  obtain ⟨cl, A, S, r, -⟩ := F
  refine X.arraylength hx (by rw [eT]; exact A.1) (State.isArrayOf_alike hZ.alike A.2.1) (g := g) hg hs hd _ ?_
  rw [len_of S r]; exact k
theorem oInd (F : OArr Z h a ty z f) {j : Int32} (h1 : 0 ≤ j.toInt) (h2 : j.toInt < z.toInt) : ∃ cl, Arr Z h a cl ty ∧ ¬ (j < 0 ∨ cl.slots.size ≤ j.toNatClampNeg) ∧ cl.slots[j.toNatClampNeg]? = some (f j.toNatClampNeg) := by
  obtain ⟨cl, A, S, r, G⟩ := F
  have q := oIn S h1 h2
  exact ⟨cl, A, q, G _ (Nat.lt_of_not_le fun w => q (Or.inr w))⟩
theorem oLdI (X : Stand p l e R s m args below meth c T locs cells slots) (hx : p.tables.exec = Jvm.exec) (hZ : Z.Warmed39 s.vm) (eT : T.heap = h) (F : OArr Z h a .int z f) {j x : Int32} (h1 : 0 ≤ j.toInt) (h2 : j.toInt < z.toInt) (hv : f j.toNatClampNeg = .int x) {g : JFrame} (hg : g.method = m) {rest : List Value} (hs : g.stack = .int j :: .ref a :: rest) (hd : decode c.code g.pc = .ok (.iaload, 1)) {target : State}
    (k : Steps p.tables e below (T.setTop { g with pc := g.pc + 1, stack := .int x :: rest }) target) : Steps p.tables e below (T.setTop g) target := by
  obtain ⟨cl, A, q, G⟩ := oInd F h1 h2
  rw [hv] at G
  exact X.iaload hx (j := j) (v := .int x) (by rw [eT]; exact A.1) (State.isArrayOf_alike hZ.alike A.2.1) A.2.2 q G (g := g) hg hs hd _ k
theorem oLdD (X : Stand p l e R s m args below meth c T locs cells slots) (hx : p.tables.exec = Jvm.exec) (hZ : Z.Warmed39 s.vm) (eT : T.heap = h) (F : OArr Z h a .double z f) {j : Int32} {x : UInt64} (h1 : 0 ≤ j.toInt) (h2 : j.toInt < z.toInt) (hv : f j.toNatClampNeg = .double x) {g : JFrame} (hg : g.method = m) {rest : List Value} (hs : g.stack = .int j :: .ref a :: rest) (hd : decode c.code g.pc = .ok (.daload, 1)) {target : State}
    (k : Steps p.tables e below (T.setTop { g with pc := g.pc + 1, stack := .double x :: rest }) target) : Steps p.tables e below (T.setTop g) target := by
  obtain ⟨cl, A, q, G⟩ := oInd F h1 h2
  rw [hv] at G
  exact X.daload hx (j := j) (v := .double x) (by rw [eT]; exact A.1) (State.isArrayOf_alike hZ.alike A.2.1) A.2.2 q G (g := g) hg hs hd _ k
theorem oLdR (X : Stand p l e R s m args below meth c T locs cells slots) (hx : p.tables.exec = Jvm.exec) (hZ : Z.Warmed39 s.vm) (eT : T.heap = h) (F : OArr Z h a ty z f) (hty : ty.isReference = true) {j : Int32} {x : Value} (h1 : 0 ≤ j.toInt) (h2 : j.toInt < z.toInt) (hv : f j.toNatClampNeg = x) {g : JFrame} (hg : g.method = m) {rest : List Value} (hs : g.stack = .int j :: .ref a :: rest) (hd : decode c.code g.pc = .ok (.aaload, 1)) {target : State}
    (k : Steps p.tables e below (T.setTop { g with pc := g.pc + 1, stack := x :: rest }) target) : Steps p.tables e below (T.setTop g) target := by
  obtain ⟨cl, A, q, G⟩ := oInd F h1 h2
  rw [hv] at G
  exact X.aaload hx (j := j) (v := x) (by rw [eT]; exact A.1) (State.isArrayOf_alike hZ.alike A.2.1) hty A.2.2 q G (g := g) hg hs hd _ k
theorem OArr.of_arv {kc : ClassId} {vs : List Value} {d : Value} (F : Arv Z h a kc ty z vs d) : OArr Z h a ty z (fun i => vs.getD i d) := by
  obtain ⟨c, A, -, S, r, H, -⟩ := F
  exact ⟨c, A, S, r, H⟩
theorem oKext (K : Keep h h' []) : Ext h h' := ⟨K.1, fun a c q => K.2.1 a c q (fun z => nomatch z)⟩
theorem oLdC (X : Stand p l e R s m args below meth c T locs cells slots) (hx : p.tables.exec = Jvm.exec) (hZ : Z.Warmed39 s.vm) (eT : T.heap = h) (F : OArr Z h a .char z f) {j x : Int32} (h1 : 0 ≤ j.toInt) (h2 : j.toInt < z.toInt) (hv : f j.toNatClampNeg = .int x) {g : JFrame} (hg : g.method = m) {rest : List Value} (hs : g.stack = .int j :: .ref a :: rest) (hd : decode c.code g.pc = .ok (.caload, 1)) {target : State}
    (k : Steps p.tables e below (T.setTop { g with pc := g.pc + 1, stack := .int x :: rest }) target) : Steps p.tables e below (T.setTop g) target := by
  obtain ⟨cl, A, q, G⟩ := oInd F h1 h2
  rw [hv] at G
  exact X.caload hx (j := j) (v := .int x) (by rw [eT]; exact A.1) (State.isArrayOf_alike hZ.alike A.2.1) A.2.2 q G (g := g) hg hs hd _ k
theorem oLdB (X : Stand p l e R s m args below meth c T locs cells slots) (hx : p.tables.exec = Jvm.exec) (hZ : Z.Warmed39 s.vm) (eT : T.heap = h) (F : OArr Z h a .byte z f) {j x : Int32} (h1 : 0 ≤ j.toInt) (h2 : j.toInt < z.toInt) (hv : f j.toNatClampNeg = .int x) {g : JFrame} (hg : g.method = m) {rest : List Value} (hs : g.stack = .int j :: .ref a :: rest) (hd : decode c.code g.pc = .ok (.baload, 1)) {target : State}
    (k : Steps p.tables e below (T.setTop { g with pc := g.pc + 1, stack := .int x :: rest }) target) : Steps p.tables e below (T.setTop g) target := by
  obtain ⟨cl, A, q, G⟩ := oInd F h1 h2
  rw [hv] at G
  exact X.baloadBytes hx (j := j) (v := .int x) (by rw [eT]; exact A.1) (State.isArrayOf_alike hZ.alike A.2.1) A.2.2 q G (g := g) hg hs hd _ k
theorem oLdZ (X : Stand p l e R s m args below meth c T locs cells slots) (hx : p.tables.exec = Jvm.exec) (hZ : Z.Warmed39 s.vm) (eT : T.heap = h) (F : OArr Z h a .boolean z f) {j x : Int32} (h1 : 0 ≤ j.toInt) (h2 : j.toInt < z.toInt) (hv : f j.toNatClampNeg = .int x) {g : JFrame} (hg : g.method = m) {rest : List Value} (hs : g.stack = .int j :: .ref a :: rest) (hd : decode c.code g.pc = .ok (.baload, 1)) {target : State}
    (k : Steps p.tables e below (T.setTop { g with pc := g.pc + 1, stack := .int x :: rest }) target) : Steps p.tables e below (T.setTop g) target := by
  obtain ⟨cl, A, q, G⟩ := oInd F h1 h2
  rw [hv] at G
  exact X.baloadBooleans hx (j := j) (v := .int x) (by rw [eT]; exact A.1) (State.isArrayOf_alike hZ.alike A.2.1) A.2.2 q G (g := g) hg hs hd _ k
theorem oStC (X : Stand p l e R s m args below meth c T locs cells slots) (hx : p.tables.exec = Jvm.exec) (hZ : Z.Warmed39 s.vm) (eT : T.heap = h) (F : OArr Z h a .char z f) {j x : Int32} (h1 : 0 ≤ j.toInt) (h2 : j.toInt < z.toInt) (hn : nar .char x = x) {g : JFrame} (hg : g.method = m) {rest : List Value} (hs : g.stack = .int x :: .int j :: .ref a :: rest) (hd : decode c.code g.pc = .ok (.castore, 1)) :
    ∃ T' h', Stand p l e R s m args below meth c T' (locs ++ [⟨a, j.toNatClampNeg⟩]) cells slots ∧ T'.heap = h' ∧ Wr h h' a j.toNatClampNeg (.int x) ∧ ∀ target, Steps p.tables e below (T'.setTop { g with pc := g.pc + 1, stack := rest }) target → Steps p.tables e below (T.setTop g) target := by
  obtain ⟨cl, A, q, G⟩ := oInd F h1 h2
  have r := stC X hx hZ eT A q hg hs hd
  rw [hn] at r; exact r
theorem oStB (X : Stand p l e R s m args below meth c T locs cells slots) (hx : p.tables.exec = Jvm.exec) (hZ : Z.Warmed39 s.vm) (eT : T.heap = h) (F : OArr Z h a .byte z f) {j x : Int32} (h1 : 0 ≤ j.toInt) (h2 : j.toInt < z.toInt) (hn : nar .byte x = x) {g : JFrame} (hg : g.method = m) {rest : List Value} (hs : g.stack = .int x :: .int j :: .ref a :: rest) (hd : decode c.code g.pc = .ok (.bastore, 1)) :
    ∃ T' h', Stand p l e R s m args below meth c T' (locs ++ [⟨a, j.toNatClampNeg⟩]) cells slots ∧ T'.heap = h' ∧ Wr h h' a j.toNatClampNeg (.int x) ∧ ∀ target, Steps p.tables e below (T'.setTop { g with pc := g.pc + 1, stack := rest }) target → Steps p.tables e below (T.setTop g) target := by
  obtain ⟨cl, A, q, G⟩ := oInd F h1 h2
  have r := stB X hx hZ eT A q hg hs hd
  rw [hn] at r; exact r
theorem oStZ (X : Stand p l e R s m args below meth c T locs cells slots) (hx : p.tables.exec = Jvm.exec) (hZ : Z.Warmed39 s.vm) (eT : T.heap = h) (F : OArr Z h a .boolean z f) {j x : Int32} (h1 : 0 ≤ j.toInt) (h2 : j.toInt < z.toInt) (hn : nar .boolean x = x) {g : JFrame} (hg : g.method = m) {rest : List Value} (hs : g.stack = .int x :: .int j :: .ref a :: rest) (hd : decode c.code g.pc = .ok (.bastore, 1)) :
    ∃ T' h', Stand p l e R s m args below meth c T' (locs ++ [⟨a, j.toNatClampNeg⟩]) cells slots ∧ T'.heap = h' ∧ Wr h h' a j.toNatClampNeg (.int x) ∧ ∀ target, Steps p.tables e below (T'.setTop { g with pc := g.pc + 1, stack := rest }) target → Steps p.tables e below (T.setTop g) target := by
  obtain ⟨cl, A, q, G⟩ := oInd F h1 h2
  have r := stZ X hx hZ eT A q hg hs hd
  rw [hn] at r; exact r
theorem oStI (X : Stand p l e R s m args below meth c T locs cells slots) (hx : p.tables.exec = Jvm.exec) (hZ : Z.Warmed39 s.vm) (eT : T.heap = h) (F : OArr Z h a .int z f) {j x : Int32} (h1 : 0 ≤ j.toInt) (h2 : j.toInt < z.toInt) {g : JFrame} (hg : g.method = m) {rest : List Value} (hs : g.stack = .int x :: .int j :: .ref a :: rest) (hd : decode c.code g.pc = .ok (.iastore, 1)) :
    ∃ T' h', Stand p l e R s m args below meth c T' (locs ++ [⟨a, j.toNatClampNeg⟩]) cells slots ∧ T'.heap = h' ∧ Wr h h' a j.toNatClampNeg (.int x) ∧ ∀ target, Steps p.tables e below (T'.setTop { g with pc := g.pc + 1, stack := rest }) target → Steps p.tables e below (T.setTop g) target := by
  obtain ⟨cl, A, q, G⟩ := oInd F h1 h2
  exact stI X hx hZ eT A q hg hs hd
theorem oStD (X : Stand p l e R s m args below meth c T locs cells slots) (hx : p.tables.exec = Jvm.exec) (hZ : Z.Warmed39 s.vm) (eT : T.heap = h) (F : OArr Z h a .double z f) {j : Int32} {x : UInt64} (h1 : 0 ≤ j.toInt) (h2 : j.toInt < z.toInt) {g : JFrame} (hg : g.method = m) {rest : List Value} (hs : g.stack = .double x :: .int j :: .ref a :: rest) (hd : decode c.code g.pc = .ok (.dastore, 1)) :
    ∃ T' h', Stand p l e R s m args below meth c T' (locs ++ [⟨a, j.toNatClampNeg⟩]) cells slots ∧ T'.heap = h' ∧ Wr h h' a j.toNatClampNeg (.double x) ∧ ∀ target, Steps p.tables e below (T'.setTop { g with pc := g.pc + 1, stack := rest }) target → Steps p.tables e below (T.setTop g) target := by
  obtain ⟨cl, A, q, G⟩ := oInd F h1 h2
  exact stD X hx hZ eT A q hg hs hd
theorem oClone (X : Stand p l e R s m args below meth c T locs cells slots) (hx : p.tables.exec = Jvm.exec) (hZ : Z.Warmed39 s.vm) {own ad : String} {index : Nat} (hown : s.vm.findClass own = some m.cls)
    (w1 : (Jvm.Cond.methodLink own index ⟨ad, "clone", "()Ljava/lang/Object;"⟩).before a0 Z = true) (w2 : (Jvm.Cond.sameMethod ad "java/lang/Object" "clone" "()Ljava/lang/Object;").before a0 Z = true) (w3 : (Jvm.Cond.native ⟨"java/lang/Object", "clone", "()Ljava/lang/Object;"⟩).before a0 Z = true)
    (w4 : (Jvm.Cond.instanceMethod ⟨"java/lang/Object", "clone", "()Ljava/lang/Object;"⟩).before a0 Z = true) (w5 : (Jvm.Cond.selects ad ⟨ad, "clone", "()Ljava/lang/Object;"⟩ ⟨"java/lang/Object", "clone", "()Ljava/lang/Object;"⟩).before a0 Z = true) (w6 : (Jvm.Cond.castable ad "java/lang/Cloneable").before a0 Z = true)
    (eT : T.heap = h) (F : OArr Z h a ty z f) (E : Exa Z h a ad) (hfit : ∀ i, i < z.toNatClampNeg → fits ty (f i) = true) {g : JFrame} (hg : g.method = m) (hsize : g.locals.size = c.maxLocals) {rest : List Value} (hst : g.stack = .ref a :: rest) (hd : decode c.code g.pc = .ok (.invokevirtual index, 3))
    (hf : 1 ≤ R.frames) {W cap : Nat} (hW : 2 * g.monitorRoom + (rest.map fun v => v.category).sum ≤ W) (hl : W + 14 ≤ R.locals) (hcap : z.toNatClampNeg ≤ cap) (hc : cells + 1 ≤ R.cells) (hsl : slots + cap ≤ R.slots) :
    ∃ T' h', Stand p l e R s m args below meth c T' locs (cells + 1) (slots + cap) ∧ T'.heap = h' ∧ Ext h h' ∧ OArr Z h' h.size ty z f ∧ Exa Z h' h.size ad ∧
      ∀ target, Steps p.tables e below (T'.setTop { g with pc := g.pc + 3, stack := .ref h.size :: rest }) target → Steps p.tables e below (T.setTop g) target := by
  obtain ⟨cl, A, S, r, G⟩ := F
  have FC : FitC Z cl := fitC_of A fun i hi v hv => by
    rw [G i hi] at hv; cases hv; exact hfit i (by rw [← S]; exact hi)
  obtain ⟨T', h', X', e', ex, A', E', st⟩ := cloneA X hx hZ hown w1 w2 w3 w4 w5 w6 eT A E FC hg hsize hst hd hf hW hl (by rw [S]; exact hcap) hc hsl
  exact ⟨T', h', X', e', ex, ⟨cloneOf cl, A', S, r, G⟩, E', st⟩
theorem oCopy (X : Stand p l e R s m args below meth c T locs cells slots) (hx : p.tables.exec = Jvm.exec) (hZ : Z.Warmed39 s.vm) {own : String} {index : Nat} (hown : s.vm.findClass own = some m.cls)
    (w1 : (Jvm.Cond.methodLink own index arraycopyName).before a0 Z = true) (w2 : (Jvm.Cond.native arraycopyName).before a0 Z = true) (w3 : (Jvm.Cond.static arraycopyName).before a0 Z = true) (w4 : (Jvm.Cond.initialized "java/lang/System").before a0 Z = true)
    (eT : T.heap = h) {za zb : Int32} {fb : Nat → Value} (Fa : OArr Z h a ty za f) (Fb : OArr Z h b ty zb fb) (hty : refKind ty = false) (hfit : ∀ i, i < za.toNatClampNeg → fits ty (f i) = true)
    {sp dp n : Int32} (h1 : 0 ≤ sp.toInt) (h2 : 0 ≤ dp.toInt) (h3 : 0 ≤ n.toInt) (h4 : sp.toInt + n.toInt ≤ za.toInt) (h5 : dp.toInt + n.toInt ≤ zb.toInt)
    {g : JFrame} (hg : g.method = m) (hsize : g.locals.size = c.maxLocals) {rest : List Value} (hst : g.stack = .int n :: .int dp :: .ref b :: .int sp :: .ref a :: rest) (hd : decode c.code g.pc = .ok (.invokestatic index, 3))
    (hf : 1 ≤ R.frames) (hl : 2 * g.monitorRoom + (rest.map fun v => v.category).sum + (nativeFrameWords "java/lang/System" "arraycopy" 5 + 11) ≤ R.locals) :
    ∃ T' h' L, Stand p l e R s m args below meth c T' (locs ++ L) cells slots ∧ T'.heap = h' ∧ Keep h h' [b] ∧ OArr Z h' b ty zb (fun i => if dp.toNatClampNeg ≤ i ∧ i < dp.toNatClampNeg + n.toNatClampNeg then f (sp.toNatClampNeg + (i - dp.toNatClampNeg)) else fb i) ∧ (∀ y ∈ L, y.base = b) ∧
      ∀ target, Steps p.tables e below (T'.setTop { g with pc := g.pc + 3, stack := rest }) target → Steps p.tables e below (T.setTop g) target := by
  obtain ⟨ca, Aa, Sa, ra, Ga⟩ := Fa
  obtain ⟨cb, Ab, Sb, rb, Gb⟩ := Fb
  subst eT
  obtain ⟨hsa, ka, hka, compa, hkinda⟩ := State.isArrayOf_alike hZ.alike Aa.2.1
  obtain ⟨hsb, kb, hkb, compb, hkindb⟩ := State.isArrayOf_alike hZ.alike Ab.2.1
  have e0 : (0 : Int32).toInt = 0 := by decide
  have ea : (ca.slots.size : Int) = za.toInt := by
    have := oNlt ra
    rw [Sa]; show (za.toInt.toNat : Int) = _; omega
  have eb : (cb.slots.size : Int) = zb.toInt := by
    have := oNlt rb
    rw [Sb]; show (zb.toInt.toNat : Int) = _; omega
  have es : (sp.toNatClampNeg : Int) = sp.toInt := by show (sp.toInt.toNat : Int) = _; omega
  have ed : (dp.toNatClampNeg : Int) = dp.toInt := by show (dp.toInt.toNat : Int) = _; omega
  have en : (n.toNatClampNeg : Int) = n.toInt := by show (n.toInt.toNat : Int) = _; omega
  have hv : ∀ i, i < n.toNatClampNeg → ca.slots.getD (sp.toNatClampNeg + i) .null = f (sp.toNatClampNeg + i) := fun i hi => by
    rw [Array.getD_eq_getD_getElem?, Ga _ (by omega)]; rfl
  obtain ⟨vm', X', st⟩ := X.arraycopy hx hown (mvT hZ w1) (mvT hZ w2) (mvT hZ w3) (mvT hZ w4) (src := a) (dst := b) (srcPos := sp) (destPos := dp) (n := n) Aa.1 Ab.1 hsa hsb Aa.2.2 Ab.2.2 hka hkb hkinda hkindb (by simp [hty]) (mNlt (by omega)) (mNlt (by omega)) (mNlt (by omega)) (by omega) (by omega)
    (fun vm₁ _ i hi => by
      have q := hfit (sp.toNatClampNeg + i) (by rw [← Sa]; omega)
      rw [hv i hi]
      refine ⟨q, ?_⟩
      cases hq : f (sp.toNatClampNeg + i) with
      | ref y => rw [hq] at q; cases ty <;> first | (cases hty; done) | (cases q; done)
      | _ => trivial) hg hsize hst hd hf hl
  obtain ⟨f1, f2, f3, -, -⟩ := Cell.storeRun_facts cb dp.toNatClampNeg (ca.stretch sp.toNatClampNeg n.toNatClampNeg)
  have hlen : (ca.stretch sp.toNatClampNeg n.toNatClampNeg).length = n.toNatClampNeg := Cell.stretch_length ..
  have hself : ((T.setVm vm').setCell b (copied ca cb sp dp n)).heap[b]? = some (copied ca cb sp dp n) := State.heap_setCell_self (show (T.setVm vm').heap[b]? = some cb from Ab.1)
  refine ⟨_, _, _, X', rfl, ⟨?_, ?_, ?_⟩, ⟨copied ca cb sp dp n, ⟨hself, ?_, ?_⟩, ?_, rb, ?_⟩, ?_, st⟩
  · exact Nat.le_of_eq (by simp [State.setCell, State.setVm])
  · intro x cx hx' hn
    rw [State.heap_setCell_other (fun q => hn (by rw [q]; exact List.mem_singleton.mpr rfl))]; exact hx'
  · intro x cx hx'
    by_cases q : b = x
    · subst q; rw [Ab.1] at hx'; cases hx'; exact ⟨_, hself, f1, f2, f3⟩
    · exact ⟨cx, by rw [State.heap_setCell_other q]; exact hx', rfl, rfl, rfl⟩
  · obtain ⟨u1, k1, u2, comp, u3⟩ := Ab.2.1
    exact ⟨fun k => by show (cb.storeRun _ _).vm ≠ _; rw [f2]; exact u1 k, k1, by show Z.vm.classes[(cb.storeRun _ _).cls]? = _; rw [f1]; exact u2, comp, u3⟩
  · show (cb.storeRun _ _).vm ≠ _
    rw [f2]; exact Ab.2.2
  · show (cb.storeRun _ _).slots.size = _
    rw [f3]; exact Sb
  · intro i hi
    have hi' : i < cb.slots.size := by
      have hi : i < (cb.storeRun dp.toNatClampNeg (ca.stretch sp.toNatClampNeg n.toNatClampNeg)).slots.size := hi
      rw [f3] at hi; exact hi
    show (cb.storeRun dp.toNatClampNeg (ca.stretch sp.toNatClampNeg n.toNatClampNeg)).slots[i]? = _
    rw [Cell.storeRun_get _ _ _ _ (by rw [hlen]; omega), hlen]
    dsimp only
    by_cases q : dp.toNatClampNeg ≤ i ∧ i < dp.toNatClampNeg + n.toNatClampNeg
    · rw [if_pos q, if_pos q, ← hv _ (by omega)]
      simp [Cell.stretch, show i - dp.toNatClampNeg < n.toNatClampNeg by omega]
    · rw [if_neg q, if_neg q]; exact Gb i hi'
  · intro y hy
    obtain ⟨q, _, rfl⟩ := List.mem_map.mp hy; rfl
end OArrs
/-- from a case's equation to the value -/
theorem oEqv {f s : State} {o : Option Outcome} {idx : List Nat} {a b : Term} (h : (Jvm.Cond.eq a b).value args f o s idx = some true) : ∃ x, a.eval args f o idx s = some x ∧ b.eval args f o idx s = some x := by
  obtain ⟨x, y, h1, h2, -, -⟩ := cmp_v (Or.inl h)
  cases x <;> cases y <;> simp [Cond.value, h1, h2] at h <;> first | (subst h; exact ⟨_, h1, h2⟩) | exact ⟨_, h1, h2⟩
theorem oFeq {s : State} {t u : Term} {x : Addr} {C n d : String} {w : Value} (ht : t.eval args s none [] s = some (.ref x)) (h : (Jvm.Cond.eq (.field t C n d) u).value args s none s [] = some true) (hu : u.eval args s none [] s = some w) : s.fieldOf? x C n d = some w := by
  obtain ⟨v, h1, h2⟩ := oEqv h
  rw [fld_at ht] at h1
  rw [h1, ← h2, hu]
theorem oNot {d : Jvm.Cond} {f s : State} {o : Option Outcome} {idx : List Nat} (h : (Jvm.Cond.not d).value args f o s idx = some true) (h2 : d.value args f o s idx = some true) : False := by
  rw [Cond.value, h2] at h
  cases h
end OwnKit
section OwnKitW
variable {p : Program} {l : Launch} {e : Env} {R : Room} {s : State} {m : MethodId} {args : Array Value} {below : List Frame} {meth : Method} {c : Code} {T : State} {locs : List Loc} {cells slots : Nat} {Z : State} {a0 : Array Value} {h : Heap} {Q : Option Value → Heap → List Loc → Prop} {kc ks : Nat} {vm0 : Vm} {k0 : Nat}
/-- as OGoal, but the tables may have gained interned strings -/
def OGoalW (p : Program) (e : Env) (below : List Frame) (s : State) (Q : Option Value → Heap → List Loc → Prop) (kc ks : Nat) (S : State) : Prop :=
  ∃ s₂ o, Steps p.tables e below S s₂ ∧ s₂.status = .running ∧ Ended s₂ below o ∧ ∃ v L, o = .returned v ∧ Q v s₂.heap L ∧ ReturnedEndW s o s₂ L kc ks
theorem OGoalW.mp {S S' : State} (k : ∀ t, Steps p.tables e below S' t → Steps p.tables e below S t) (g : OGoalW p e below s Q kc ks S') : OGoalW p e below s Q kc ks S := by
  obtain ⟨s₂, o, h1, h2⟩ := g
  exact ⟨s₂, o, k _ h1, h2⟩
theorem OGoal.wide {S : State} (g : OGoal p e below s Q kc ks S) : OGoalW p e below s Q kc ks S := by
  obtain ⟨s₂, o, h1, h2, h3, v, L, h4, h5, h6⟩ := g
  exact ⟨s₂, o, h1, h2, h3, v, L, h4, h5, ReturnedEndW.of_narrow h6.1 h6.2.1 h6.2.2⟩
theorem oRetW (X : Stand p l e R (s.setVm vm0) m args below meth c T locs cells slots) (hS : s.Since vm0 k0) (hk : k0 ≤ T.heap.size) (hx : p.tables.exec = Jvm.exec) (hlk : meth.locks = false) {pc : Nat} {Ls : Array Slot} {w : Value} {t : FieldType} {i : Instr} {rest : List Value} (hret : meth.sig.returnType = some t) (hn : narrow t w = w)
    (hi : (i = .ireturn ∧ (t = .int ∨ t = .boolean ∨ t = .byte ∨ t = .char ∨ t = .short) ∧ ∃ z, w = .int z) ∨ (i = .lreturn ∧ t = .long ∧ ∃ z, w = .long z) ∨ (i = .dreturn ∧ t = .double ∧ ∃ z, w = .double z) ∨ (i = .freturn ∧ t = .float ∧ ∃ z, w = .float z) ∨ (i = .areturn ∧ t.isReference = true ∧ w.isRef = true))
    (hd : decode c.code pc = .ok (i, 1)) (hQ : Q (some w) T.heap locs) (hc : cells ≤ kc) (hs : slots ≤ ks) : OGoalW p e below s Q kc ks (T.setTop (mkF m pc Ls (w :: rest))) := by
  obtain ⟨fs, hr, hrun, hended, h1, h2, h3, h4⟩ := X.leaveW hS hk (v := some w) (fun q => by rw [hret] at q; cases q) hlk
  exact ⟨_, _, retOut X hx hret hn hi hd hr, hrun, hended, _, _, rfl, hQ, h1, h2, h3, h4.mono hc hs⟩
theorem oRetZW (X : Stand p l e R (s.setVm vm0) m args below meth c T locs cells slots) (hS : s.Since vm0 k0) (hk : k0 ≤ T.heap.size) (hx : p.tables.exec = Jvm.exec) (hlk : meth.locks = false) {pc : Nat} {Ls : Array Slot} {z : Int32} {rest : List Value} (hret : meth.sig.returnType = some .boolean) (hz : z = 0 ∨ z = 1)
    (hd : decode c.code pc = .ok (.ireturn, 1)) (hQ : Q (some (.int z)) T.heap locs) (hc : cells ≤ kc) (hs : slots ≤ ks) : OGoalW p e below s Q kc ks (T.setTop (mkF m pc Ls (.int z :: rest))) :=
  oRetW X hS hk hx hlk hret (by rcases hz with rfl | rfl <;> rfl) (Or.inl ⟨rfl, Or.inr (Or.inl rfl), _, rfl⟩) hd hQ hc hs
theorem oRetAW (X : Stand p l e R (s.setVm vm0) m args below meth c T locs cells slots) (hS : s.Since vm0 k0) (hk : k0 ≤ T.heap.size) (hx : p.tables.exec = Jvm.exec) (hlk : meth.locks = false) {pc : Nat} {Ls : Array Slot} {w : Value} {t : FieldType} {rest : List Value} (hret : meth.sig.returnType = some t) (ht : t.isReference = true) (hw : w.isRef = true)
    (hd : decode c.code pc = .ok (.areturn, 1)) (hQ : Q (some w) T.heap locs) (hc : cells ≤ kc) (hs : slots ≤ ks) : OGoalW p e below s Q kc ks (T.setTop (mkF m pc Ls (w :: rest))) :=
  oRetW X hS hk hx hlk hret (by cases t <;> cases w <;> first | rfl | (cases ht; done) | (cases hw; done)) (Or.inr (Or.inr (Or.inr (Or.inr ⟨rfl, ht, hw⟩)))) hd hQ hc hs
theorem oRetVW (X : Stand p l e R (s.setVm vm0) m args below meth c T locs cells slots) (hS : s.Since vm0 k0) (hk : k0 ≤ T.heap.size) (hx : p.tables.exec = Jvm.exec) (hlk : meth.locks = false) {pc : Nat} {Ls : Array Slot} (hret : meth.sig.returnType = none)
    (hd : decode c.code pc = .ok (.return_, 1)) (hQ : Q none T.heap locs) (hc : cells ≤ kc) (hs : slots ≤ ks) : OGoalW p e below s Q kc ks (T.setTop (mkF m pc Ls [])) := by
  obtain ⟨fs, hr, hrun, hended, h1, h2, h3, h4⟩ := X.leaveW hS hk (v := none) (fun _ => rfl) hlk
  exact ⟨_, _, X.returnOut hx hret hd hr, hrun, hended, _, _, rfl, hQ, h1, h2, h3, h4.mono hc hs⟩
/-- the contract of a method that may intern; its start's intern table is Z's -/
def OConKW (l : Launch) (Z : State) (y : MethodName) (bytes : ByteArray) (maxL : Nat) (ret : Option FieldType) (rm : Room) (kc ks : Nat) (as' : Array Value) (h : Heap) (Q : Option Value → Heap → List Loc → Prop) : Prop :=
  ∀ ws : List Jvm.Cond, MetFree l y (head1 (Jvm.Cond.code y bytes maxL ret :: ws) rm) (fun a U => a = as' ∧ Z.Warmed39 U.vm ∧ U.vm.interned = Z.vm.interned ∧ U.heap = h) (fun _ _ _ _ _ => True) (fun _ U o U' => ∃ v L, o = .returned v ∧ Q v U'.heap L ∧ ReturnedEndW U o U' L kc ks)
abbrev OConW (l : Launch) (Z : State) (y : MethodName) (bytes : ByteArray) (maxL : Nat) (ret : Option FieldType) (rm : Room) (as' : Array Value) (h : Heap) (Q : Option Value → Heap → List Loc → Prop) : Prop := OConKW l Z y bytes maxL ret rm rm.cells rm.slots as' h Q
theorem OConKW.intro {y : MethodName} {bytes : ByteArray} {maxL : Nat} {ret : Option FieldType} {rm : Room} {as' : Array Value} {Ls : Array Slot} (hpf : plainFor y = true) (ef : ∀ m, entryFrame m as' maxL = mkF m 0 Ls [])
    (H : ∀ p e s m below meth c s₁, p.tables.exec = Jvm.exec → c.code = bytes → c.maxLocals = maxL → (s.setVm s.vm).vm.findClass y.cls = some m.cls → meth.name = y.name → meth.sig.returnType = ret → meth.locks = false → Z.Warmed39 (s.setVm s.vm).vm → s.vm.interned = Z.vm.interned → s.heap = h → s.Since s.vm s.heap.size →
      Stand p l e rm (s.setVm s.vm) m as' below meth c s₁ [] 0 0 → s₁.heap = h → OGoalW p e below s Q kc ks (s₁.setTop (mkF m 0 Ls []))) : OConKW l Z y bytes maxL ret rm kc ks as' h Q := by
  intro ws
  refine MetFree.of_bodySF hpf hisR ?_
  intro p e s m args below meth c s₁ Bd hml hP hK
  obtain ⟨rfl, hZ, hI, hh⟩ := hP
  obtain ⟨s₂, o, h1, h2, h3, h4⟩ := H p e s m below meth c s₁ Bd.exec Bd.bytes hml (findClass_of_methodNamed Bd.named) (name_of_methodNamed Bd.named Bd.method).1 Bd.returns (BodyLoose.notSynchronized Bd) hZ hI hh ((State.WarmedH.refl s).since _) (Stand.of_body Bd) (by rw [← hh, Bd.state]; rfl)
  exact ⟨s₂, o, castTop (ef m) h1, h2, h3, h4⟩
theorem oCallSW (X : Stand p l e R (s.setVm vm0) m args below meth c T locs cells slots) (hx : p.tables.exec = Jvm.exec) (hZ : Z.Warmed39 (s.setVm vm0).vm) {own : String} {index : Nat} {y : MethodName} {bytes : ByteArray} {maxL : Nat} {ret : Option FieldType} {rm : Room} {as' : Array Value} {Qc : Option Value → Heap → List Loc → Prop}
    (hown : (s.setVm vm0).vm.findClass own = some m.cls) (w1 : (Jvm.Cond.methodLink own index y).before a0 Z = true) (w2 : (Jvm.Cond.static y).before a0 Z = true) (w3 : (Jvm.Cond.initialized y.cls).before a0 Z = true) (w4 : (Jvm.Cond.code y bytes maxL ret).before a0 Z = true)
    (hy : y.cls ≠ "java/lang/invoke/MethodHandle" ∧ y.cls ≠ "java/lang/invoke/VarHandle") (hM : OCon l Z y bytes maxL ret rm as' h Qc) (eT : T.heap = h) {pc : Nat} {Ls : Array Slot} {st : List Value} (argsL rest : List Value) (hst : st = argsL.reverse ++ rest) (has : argsL.toArray = as') (hsize : Ls.size = c.maxLocals)
    (hlen : ∀ sig, parseMethodDescriptor y.desc = some sig → argsL.length = sig.parameters.length) (W : Nat) (hW : (rest.map fun v => v.category).sum ≤ W) (hfr : rm.frames + 1 ≤ R.frames) (hlo : W + (maxL + 11) + rm.locals ≤ R.locals) (hce : cells + rm.cells ≤ R.cells) (hsl : slots + rm.slots ≤ R.slots)
    (hd : decode c.code pc = .ok (.invokestatic index, 3))
    (k : ∀ v T' Lc, Stand p l e R (s.setVm vm0) m args below meth c T' (locs ++ Lc) (cells + rm.cells) (slots + rm.slots) → Qc v T'.heap Lc → OGoalW p e below s Q kc ks (T'.setTop (mkF m (pc + 3) Ls (v.toList ++ rest)))) :
    OGoalW p e below s Q kc ks (T.setTop (mkF m pc Ls st)) := by
  subst hst has
  obtain ⟨v, _, ⟨T', L', k', n'⟩, -, X', ⟨Lc, hQ, l', y', z'⟩, st⟩ := Jvm.LawKit.callS X hx (y := y) hown (mvT hZ w1) (mvT hZ w2) (mvT hZ w3) (mvT hZ w4) hy (backOf (W := W) (hM []) hZ w4 w3 hfr hlo) (g := mkF m pc Ls (argsL.reverse ++ rest)) rfl hsize (argsL := argsL) (rest := rest) hlen rfl (by show 2 * 0 + _ ≤ _; omega) hd (fun _ _ => ⟨rfl, eT, hce, hsl⟩)
  dsimp only [Pt.U, Pt.locs, Pt.cells, Pt.slots] at X' l' y' z' st hQ
  subst l' y' z'
  exact OGoalW.mp st (k v T' Lc X' hQ)
theorem oCallVW (X : Stand p l e R (s.setVm vm0) m args below meth c T locs cells slots) (hx : p.tables.exec = Jvm.exec) (hZ : Z.Warmed39 (s.setVm vm0).vm) {own C : String} {index : Nat} {y z : MethodName} {bytes : ByteArray} {maxL : Nat} {ret : Option FieldType} {rm : Room} {as' : Array Value} {Qc : Option Value → Heap → List Loc → Prop}
    (hown : (s.setVm vm0).vm.findClass own = some m.cls) (w1 : (Jvm.Cond.methodLink own index y).before a0 Z = true) (w2 : (Jvm.Cond.declares y).before a0 Z = true) (w5 : (Jvm.Cond.selects C y z).before a0 Z = true) (w6 : (Jvm.Cond.instanceMethod z).before a0 Z = true) (w3 : (Jvm.Cond.initialized z.cls).before a0 Z = true) (w4 : (Jvm.Cond.code z bytes maxL ret).before a0 Z = true)
    (hy : y.cls ≠ "java/lang/invoke/MethodHandle" ∧ y.cls ≠ "java/lang/invoke/VarHandle") (hM : OCon l Z z bytes maxL ret rm as' h Qc) (eT : T.heap = h) {a : Addr} (E : Exa Z h a C) {pc : Nat} {Ls : Array Slot} {st : List Value} (argsL rest : List Value) (hst : st = argsL.reverse ++ .ref a :: rest) (has : (.ref a :: argsL).toArray = as') (hsize : Ls.size = c.maxLocals)
    (hnf : NotFace (s.setVm vm0) y) (hlen : ∀ sig, parseMethodDescriptor y.desc = some sig → argsL.length = sig.parameters.length) (W : Nat) (hW : (rest.map fun v => v.category).sum ≤ W) (hfr : rm.frames + 1 ≤ R.frames) (hlo : W + (maxL + 11) + rm.locals ≤ R.locals) (hce : cells + rm.cells ≤ R.cells) (hsl : slots + rm.slots ≤ R.slots)
    (hd : decode c.code pc = .ok (.invokevirtual index, 3))
    (k : ∀ v T' Lc, Stand p l e R (s.setVm vm0) m args below meth c T' (locs ++ Lc) (cells + rm.cells) (slots + rm.slots) → Qc v T'.heap Lc → OGoalW p e below s Q kc ks (T'.setTop (mkF m (pc + 3) Ls (v.toList ++ rest)))) :
    OGoalW p e below s Q kc ks (T.setTop (mkF m pc Ls st)) := by
  subst hst has
  obtain ⟨cq, kq, qa, qb, qc⟩ := isOf hZ eT E
  obtain ⟨v, _, ⟨T', L', k', n'⟩, -, X', ⟨Lc, hQ, l', y', z'⟩, st⟩ := X.virtualBack hx (y := y) (z := z) hown (mvT hZ w1) (mvT hZ w2) hnf (mvT hZ w5) (mvT hZ w6) hy (backOf (W := W) (hM []) hZ w4 w3 hfr hlo) qa qc (g := mkF m pc Ls (argsL.reverse ++ .ref a :: rest)) rfl hsize (Steps.refl _) (argsL := argsL) (rest := rest) hlen rfl (by show 2 * 0 + _ ≤ _; omega) hd (fun _ _ => ⟨rfl, eT, hce, hsl⟩)
  dsimp only [Pt.U, Pt.locs, Pt.cells, Pt.slots] at X' l' y' z' st hQ
  subst l' y' z'
  exact OGoalW.mp (fun t q => st.trans q) (k v T' Lc X' hQ)
theorem oCallNW (X : Stand p l e R (s.setVm vm0) m args below meth c T locs cells slots) (hx : p.tables.exec = Jvm.exec) (hZ : Z.Warmed39 (s.setVm vm0).vm) {own : String} {index : Nat} {y : MethodName} {bytes : ByteArray} {maxL : Nat} {rm : Room} {as' : Array Value} {Qc : Option Value → Heap → List Loc → Prop}
    (hy1 : y.name = "<init>") (hown : (s.setVm vm0).vm.findClass own = some m.cls) (w1 : (Jvm.Cond.methodLink own index y).before a0 Z = true) (w6 : (Jvm.Cond.instanceMethod y).before a0 Z = true) (w3 : (Jvm.Cond.initialized y.cls).before a0 Z = true) (w4 : (Jvm.Cond.code y bytes maxL none).before a0 Z = true)
    (hy : y.cls ≠ "java/lang/invoke/MethodHandle" ∧ y.cls ≠ "java/lang/invoke/VarHandle") (hM : OCon l Z y bytes maxL none rm as' h Qc) (eT : T.heap = h) {a : Addr} {pc : Nat} {Ls : Array Slot} {st : List Value} (argsL rest : List Value) (hst : st = argsL.reverse ++ .ref a :: rest) (has : (.ref a :: argsL).toArray = as') (hsize : Ls.size = c.maxLocals)
    (hlen : ∀ sig, parseMethodDescriptor y.desc = some sig → argsL.length = sig.parameters.length) (W : Nat) (hW : (rest.map fun v => v.category).sum ≤ W) (hfr : rm.frames + 1 ≤ R.frames) (hlo : W + (maxL + 11) + rm.locals ≤ R.locals) (hce : cells + rm.cells ≤ R.cells) (hsl : slots + rm.slots ≤ R.slots)
    (hd : decode c.code pc = .ok (.invokespecial index, 3))
    (k : ∀ v T' Lc, Stand p l e R (s.setVm vm0) m args below meth c T' (locs ++ Lc) (cells + rm.cells) (slots + rm.slots) → Qc v T'.heap Lc → OGoalW p e below s Q kc ks (T'.setTop (mkF m (pc + 3) Ls (v.toList ++ rest)))) :
    OGoalW p e below s Q kc ks (T.setTop (mkF m pc Ls st)) := by
  subst hst has
  obtain ⟨v, _, ⟨T', L', k', n'⟩, -, X', ⟨Lc, hQ, l', y', z'⟩, st⟩ := X.specialBack hx (y := y) hy1 hown (mvT hZ w1) (mvT hZ w6) (mvT hZ w4) hy (backOf (W := W) (hM []) hZ w4 w3 hfr hlo) (g := mkF m pc Ls (argsL.reverse ++ .ref a :: rest)) rfl hsize (Steps.refl _) (a := a) (argsL := argsL) (rest := rest) hlen rfl (by show 2 * 0 + _ ≤ _; omega) hd (fun _ _ => ⟨rfl, eT, hce, hsl⟩)
  dsimp only [Pt.U, Pt.locs, Pt.cells, Pt.slots] at X' l' y' z' st hQ
  subst l' y' z'
  exact OGoalW.mp (fun t q => st.trans q) (k v T' Lc X' hQ)
theorem oCallPW (X : Stand p l e R (s.setVm vm0) m args below meth c T locs cells slots) (hx : p.tables.exec = Jvm.exec) (hZ : Z.Warmed39 (s.setVm vm0).vm) {own C : String} {index : Nat} {y : MethodName} {bytes : ByteArray} {maxL : Nat} {ret : Option FieldType} {rm : Room} {as' : Array Value} {Qc : Option Value → Heap → List Loc → Prop}
    (hown : (s.setVm vm0).vm.findClass own = some m.cls) (w1 : (Jvm.Cond.methodLink own index y).before a0 Z = true) {kk : Nat} (w5 : (Jvm.Cond.instantiable y.cls kk).before a0 Z = true) (w6 : (Jvm.Cond.instanceMethod y).before a0 Z = true) (w7 : (Jvm.Cond.privateMethod y).before a0 Z = true) (w3 : (Jvm.Cond.initialized y.cls).before a0 Z = true) (w4 : (Jvm.Cond.code y bytes maxL ret).before a0 Z = true)
    (hy : y.cls ≠ "java/lang/invoke/MethodHandle" ∧ y.cls ≠ "java/lang/invoke/VarHandle") (hM : OCon l Z y bytes maxL ret rm as' h Qc) (eT : T.heap = h) {a : Addr} (E : Exa Z h a C) {pc : Nat} {Ls : Array Slot} {st : List Value} (argsL rest : List Value) (hst : st = argsL.reverse ++ .ref a :: rest) (has : (.ref a :: argsL).toArray = as') (hsize : Ls.size = c.maxLocals)
    (hlen : ∀ sig, parseMethodDescriptor y.desc = some sig → argsL.length = sig.parameters.length) (W : Nat) (hW : (rest.map fun v => v.category).sum ≤ W) (hfr : rm.frames + 1 ≤ R.frames) (hlo : W + (maxL + 11) + rm.locals ≤ R.locals) (hce : cells + rm.cells ≤ R.cells) (hsl : slots + rm.slots ≤ R.slots)
    (hd : decode c.code pc = .ok (.invokevirtual index, 3))
    (k : ∀ v T' Lc, Stand p l e R (s.setVm vm0) m args below meth c T' (locs ++ Lc) (cells + rm.cells) (slots + rm.slots) → Qc v T'.heap Lc → OGoalW p e below s Q kc ks (T'.setTop (mkF m (pc + 3) Ls (v.toList ++ rest)))) :
    OGoalW p e below s Q kc ks (T.setTop (mkF m pc Ls st)) := by
  subst hst has
  obtain ⟨cq, q1, q2⟩ := E.cell
  obtain ⟨c1, k1, hc1, hk1, hi1⟩ := oNotFace (args := #[]) (mvT hZ w5)
  have hpr : (s.setVm vm0).PrivateAt y := Cond.privateMethod_at (mvP hZ w7 (args := #[]))
  have hse := selects_self_of_private (args := args) hc1 hk1 hi1 hpr (mvT hZ w6) hy
  obtain ⟨v, _, ⟨T', L', k', n'⟩, -, X', ⟨Lc, hQ, l', y', z'⟩, st⟩ := X.privateBack hx (y := y) hown (mvT hZ w1) (mvT hZ w6) hse hpr (mvT hZ w4) hy (backOf (W := W) (hM []) hZ w4 w3 hfr hlo) (g := mkF m pc Ls (argsL.reverse ++ .ref a :: rest)) rfl hsize (Steps.refl _) (a := a) (by rw [eT]; exact q1) q2 (argsL := argsL) (rest := rest) hlen rfl (by show 2 * 0 + _ ≤ _; omega) hd (fun _ _ => ⟨rfl, eT, hce, hsl⟩)
  dsimp only [Pt.U, Pt.locs, Pt.cells, Pt.slots] at X' l' y' z' st hQ
  subst l' y' z'
  exact OGoalW.mp (fun t q => st.trans q) (k v T' Lc X' hQ)
theorem oBackSW {y : MethodName} {bytes : ByteArray} {maxL : Nat} {ret : Option FieldType} {rm : Room} {len W : Nat} {as' : Array Value} {Qc : Option Value → Heap → List Loc → Prop} (hM : OConW l Z y bytes maxL ret rm as' h Qc)
    (hZ : Z.Warmed39 s.vm) (hI : s.vm.interned = Z.vm.interned) (wc : (Jvm.Cond.code y bytes maxL ret).before a0 Z = true) (wz : (Jvm.Cond.initialized y.cls).before a0 Z = true) (hf : rm.frames + 1 ≤ R.frames) (hl : W + (maxL + 11) + rm.locals ≤ R.locals) :
    BackS l R p e below s args y len W (fun A a => a = as' ∧ A.U.heap = h ∧ A.cells + rm.cells ≤ R.cells ∧ A.slots + rm.slots ≤ R.slots)
      (fun A _ v B => ∃ L, Qc v B.U.heap L ∧ B.locs = A.locs ++ L ∧ B.cells = A.cells + rm.cells ∧ B.slots = A.slots + rm.slots) :=
  BackS.of_freeW (bytes := bytes) (maxL := maxL) (ret := ret) (E := fun _ _ o t L k n => k = rm.cells ∧ n = rm.slots ∧ ∃ v, o = .returned v ∧ Qc v t.heap L) (hM []) hf hl
    (fun m meth c A a Y hp => have hU : Z.Warmed39 A.U.vm := wtrans hZ Y.warmed
      ⟨by show (Cond.and _ .tt).before a A.U = true; rw [Cond.before_and, mv hU wc]; rfl, mv hU wc, mv hU wz, hp.2.2.1, hp.2.2.2⟩)
    (fun m meth c A a g mk Y hp => ⟨hp.1, wtrans hZ Y.warmed, (Y.warmed.interned_eq).trans hI, hp.2.1⟩) (fun _ _ _ _ _ _ _ _ _ => trivial)
    (fun _ _ _ _ ⟨v, L, h1, h2, h3⟩ => ⟨L, _, _, h3, rfl, rfl, v, h1, h2⟩)
    (fun m meth c A a g mk v t L k n Y hp _ _ ⟨e1, e2, v', e3, e4⟩ => by cases e3; subst e1 e2; exact ⟨L, e4, rfl, rfl, rfl⟩)
theorem oCallSS (X : Stand p l e R (s.setVm vm0) m args below meth c T locs cells slots) (hx : p.tables.exec = Jvm.exec) (hS : s.Since vm0 k0) (hk : k0 ≤ T.heap.size) (hI : vm0.interned = Z.vm.interned) (hZ : Z.Warmed39 (s.setVm vm0).vm) {own : String} {index : Nat} {y : MethodName} {bytes : ByteArray} {maxL : Nat} {ret : Option FieldType} {rm : Room} {as' : Array Value} {Qc : Option Value → Heap → List Loc → Prop}
    (hown : (s.setVm vm0).vm.findClass own = some m.cls) (w1 : (Jvm.Cond.methodLink own index y).before a0 Z = true) (w2 : (Jvm.Cond.static y).before a0 Z = true) (w3 : (Jvm.Cond.initialized y.cls).before a0 Z = true) (w4 : (Jvm.Cond.code y bytes maxL ret).before a0 Z = true)
    (hy : y.cls ≠ "java/lang/invoke/MethodHandle" ∧ y.cls ≠ "java/lang/invoke/VarHandle") (hM : OConW l Z y bytes maxL ret rm as' h Qc) (eT : T.heap = h) {pc : Nat} {Ls : Array Slot} {st : List Value} (argsL rest : List Value) (hst : st = argsL.reverse ++ rest) (has : argsL.toArray = as') (hsize : Ls.size = c.maxLocals)
    (hlen : ∀ sig, parseMethodDescriptor y.desc = some sig → argsL.length = sig.parameters.length) (W : Nat) (hW : (rest.map fun v => v.category).sum ≤ W) (hfr : rm.frames + 1 ≤ R.frames) (hlo : W + (maxL + 11) + rm.locals ≤ R.locals) (hce : cells + rm.cells ≤ R.cells) (hsl : slots + rm.slots ≤ R.slots)
    (hd : decode c.code pc = .ok (.invokestatic index, 3))
    (k : ∀ v T' Lc, Stand p l e R (s.setVm T'.vm) m args below meth c T' (locs ++ Lc) (cells + rm.cells) (slots + rm.slots) → s.Since T'.vm T'.heap.size → T.heap.size ≤ T'.heap.size → Z.Warmed39 (s.setVm T'.vm).vm → (s.setVm T'.vm).vm.findClass own = some m.cls → Qc v T'.heap Lc → OGoalW p e below s Q kc ks (T'.setTop (mkF m (pc + 3) Ls (v.toList ++ rest)))) :
    OGoalW p e below s Q kc ks (T.setTop (mkF m pc Ls st)) := by
  subst hst has
  obtain ⟨v, _, ⟨T', L', k', n'⟩, -, X', hS2, hg2, ⟨Lc, hQ, l', y', z'⟩, st⟩ := callSS X hx (y := y) hown (mvT hZ w1) (mvT hZ w2) (mvT hZ w3) (mvT hZ w4) hy (oBackSW (W := W) hM hZ hI w4 w3 hfr hlo) (g := mkF m pc Ls (argsL.reverse ++ rest)) rfl hsize (argsL := argsL) (rest := rest) hlen rfl (by show 2 * 0 + _ ≤ _; omega) hd (fun _ _ => ⟨rfl, eT, hce, hsl⟩)
  dsimp only [Pt.U, Pt.locs, Pt.cells, Pt.slots] at X' l' y' z' st hQ hS2 hg2
  subst l' y' z'
  obtain ⟨X3, hS3, hZ3, ho3⟩ := rebS hS hk X' hS2 hg2 hZ hown
  exact OGoalW.mp (fun t q => st.trans q) (k v T' Lc X3 hS3 hg2 hZ3 ho3 hQ)
theorem oCallNS (X : Stand p l e R (s.setVm vm0) m args below meth c T locs cells slots) (hx : p.tables.exec = Jvm.exec) (hS : s.Since vm0 k0) (hk : k0 ≤ T.heap.size) (hI : vm0.interned = Z.vm.interned) (hZ : Z.Warmed39 (s.setVm vm0).vm) {own : String} {index : Nat} {y : MethodName} {bytes : ByteArray} {maxL : Nat} {rm : Room} {as' : Array Value} {Qc : Option Value → Heap → List Loc → Prop}
    (hy1 : y.name = "<init>") (hown : (s.setVm vm0).vm.findClass own = some m.cls) (w1 : (Jvm.Cond.methodLink own index y).before a0 Z = true) (w6 : (Jvm.Cond.instanceMethod y).before a0 Z = true) (w3 : (Jvm.Cond.initialized y.cls).before a0 Z = true) (w4 : (Jvm.Cond.code y bytes maxL none).before a0 Z = true)
    (hy : y.cls ≠ "java/lang/invoke/MethodHandle" ∧ y.cls ≠ "java/lang/invoke/VarHandle") (hM : OConW l Z y bytes maxL none rm as' h Qc) (eT : T.heap = h) {a : Addr} {pc : Nat} {Ls : Array Slot} {st : List Value} (argsL rest : List Value) (hst : st = argsL.reverse ++ .ref a :: rest) (has : (.ref a :: argsL).toArray = as') (hsize : Ls.size = c.maxLocals)
    (hlen : ∀ sig, parseMethodDescriptor y.desc = some sig → argsL.length = sig.parameters.length) (W : Nat) (hW : (rest.map fun v => v.category).sum ≤ W) (hfr : rm.frames + 1 ≤ R.frames) (hlo : W + (maxL + 11) + rm.locals ≤ R.locals) (hce : cells + rm.cells ≤ R.cells) (hsl : slots + rm.slots ≤ R.slots)
    (hd : decode c.code pc = .ok (.invokespecial index, 3))
    (k : ∀ v T' Lc, Stand p l e R (s.setVm T'.vm) m args below meth c T' (locs ++ Lc) (cells + rm.cells) (slots + rm.slots) → s.Since T'.vm T'.heap.size → T.heap.size ≤ T'.heap.size → Z.Warmed39 (s.setVm T'.vm).vm → (s.setVm T'.vm).vm.findClass own = some m.cls → Qc v T'.heap Lc → OGoalW p e below s Q kc ks (T'.setTop (mkF m (pc + 3) Ls (v.toList ++ rest)))) :
    OGoalW p e below s Q kc ks (T.setTop (mkF m pc Ls st)) := by
  subst hst has
  obtain ⟨v, _, ⟨T', L', k', n'⟩, -, X', hS2, hg2, ⟨Lc, hQ, l', y', z'⟩, st⟩ := X.specialBackS hx (y := y) hy1 hown (mvT hZ w1) (mvT hZ w6) (mvT hZ w4) hy (oBackSW (W := W) hM hZ hI w4 w3 hfr hlo) (g := mkF m pc Ls (argsL.reverse ++ .ref a :: rest)) rfl hsize (Steps.refl _) (a := a) (argsL := argsL) (rest := rest) hlen rfl (by show 2 * 0 + _ ≤ _; omega) hd (fun _ _ => ⟨rfl, eT, hce, hsl⟩)
  dsimp only [Pt.U, Pt.locs, Pt.cells, Pt.slots] at X' l' y' z' st hQ hS2 hg2
  subst l' y' z'
  obtain ⟨X3, hS3, hZ3, ho3⟩ := rebS hS hk X' hS2 hg2 hZ hown
  exact OGoalW.mp (fun t q => st.trans q) (k v T' Lc X3 hS3 hg2 hZ3 ho3 hQ)
end OwnKitW
def Stt (Z : State) (h : Heap) (cs : Int32) : Prop := Sta Z h "java/lang/String" "COMPACT_STRINGS" "Z" (.int cs)
theorem Stt.ext {Z : State} {h h' : Heap} {cs : Int32} (F : Stt Z h cs) (E : Ext h h') : Stt Z h' cs := Sta.ext E F
theorem Stt.wr {Z : State} {h h' : Heap} {cs : Int32} {a : Addr} {sl : Nat} {v : Value} (F : Stt Z h cs) (W : Wr h h' a sl v) : Stt Z h' cs := Sta.wr W F
def StrN (Z : State) (h : Heap) (a : Addr) (n : Int32) : Prop := ∃ (v : Addr) (gf : Nat → Value), Exa Z h a "java/lang/String" ∧ Fld Z h a "java/lang/String" "value" "[B" (.ref v) ∧ Fld Z h a "java/lang/String" "coder" "B" (.int 0) ∧ OArr Z h v .byte n gf
theorem StrN.exa {Z : State} {h : Heap} {a : Addr} {n : Int32} (S : StrN Z h a n) : Exa Z h a "java/lang/String" := by obtain ⟨v, gf, E, -⟩ := S; exact E
theorem StrN.lt {Z : State} {h : Heap} {a : Addr} {n : Int32} (S : StrN Z h a n) : a < h.size := S.exa.lt
theorem StrN.ext {Z : State} {h h' : Heap} {a : Addr} {n : Int32} (S : StrN Z h a n) (X : Ext h h') : StrN Z h' a n := by
  obtain ⟨v, gf, E, F, G, A⟩ := S
  exact ⟨v, gf, E.ext X, F.ext X, G.ext X, A.ext X⟩
theorem StrN.keep {Z : State} {h h' : Heap} {a b : Addr} {n : Int32} {C : String} {k : Nat} {a0 : Array Value} (S : StrN Z h a n) (K : Keep h h' [b]) (E' : Exa Z h b C) (w : (Jvm.Cond.instantiable C k).before a0 Z = true) (q : a ≠ b) : StrN Z h' a n := by
  obtain ⟨v, gf, E, F, G, A⟩ := S
  exact ⟨v, gf, E.keep K, F.keep K (ninS q nin0), G.keep K (ninS q nin0), A.keep K (ninS (oNeA E' w A).symm nin0)⟩
def own_ae (x n : Int32) : Int32 := if x = n then 1 else 0
theorem own_ae01 (x n : Int32) : own_ae x n = 0 ∨ own_ae x n = 1 := by unfold own_ae; split; exact Or.inr rfl; exact Or.inl rfl
def Lt (f : Nat → Int32) : Prop := ∀ k, 0 ≤ (f k).toInt ∧ (f k).toInt < 256
theorem Lt.n {f : Nat → Int32} (h : Lt f) (k : Nat) : ¬ (255 : Int32) < f k := mNlt (by have := (h k).2; rw [show (255 : Int32).toInt = 255 by decide]; omega)
def own_f (c0 c1 c2 : Int32) (k : Nat) : Int32 := if k = 0 then c0 else if k = 1 then c1 else c2
theorem own_d_jdk_42_method_152_code_0 : decode jdk_42_method_152_code 0 = .ok (.getstatic 38, 3) := by decide +kernel
theorem own_d_jdk_42_method_152_code_3 : decode jdk_42_method_152_code 3 = .ok (.ifCond .eq 10, 3) := by decide +kernel
theorem own_d_jdk_42_method_152_code_6 : decode jdk_42_method_152_code 6 = .ok (.aload_n 0, 1) := by decide +kernel
theorem own_d_jdk_42_method_152_code_7 : decode jdk_42_method_152_code 7 = .ok (.getfield 15, 3) := by decide +kernel
theorem own_d_jdk_42_method_152_code_10 : decode jdk_42_method_152_code 10 = .ok (.goto 4, 3) := by decide +kernel
theorem own_d_jdk_42_method_152_code_14 : decode jdk_42_method_152_code 14 = .ok (.ireturn, 1) := by decide +kernel
theorem own_pn_java_lang_String : plainName "java/lang/String" = true := by first | (simp [plainName, overriddenIn]; done) | decide +kernel
theorem own_ef_rmCo (x0 : Addr) (m : MethodId) : entryFrame m #[(.ref x0)] 1 = mkF m 0 #[.val (.ref x0)] [] := by first | (simp [entryFrame, mkF, argsToLocals, Value.category]; done) | rfl
set_option maxRecDepth 65536 in
set_option maxHeartbeats 40000000 in
theorem rmCo (l : Launch) (Z : State) (a0 : Array Value) (hw : ∀ d ∈ tables_1, d.before a0 Z = true) (a : Addr) (h0 : Heap) (n0 : Nat) (Z0 : n0 ≤ h0.size) (cs : Int32) (hcs : ¬ cs = 0) (St : Stt Z h0 cs) (v' : Addr) (E : Exa Z h0 a "java/lang/String") (Fv : Fld Z h0 a "java/lang/String" "value" "[B" (.ref v')) (Fc : Fld Z h0 a "java/lang/String" "coder" "B" (.int (0 : Int32)))  :
    OCon l Z (⟨"java/lang/String", "coder", "()B"⟩ : MethodName) jdk_42_method_152_code 1 (some .byte) ({ frames := 0, cells := 0, slots := 0, locals := 0 } : Room) #[(.ref a)] h0 (fun v h L => v = some (.int (0 : Int32)) ∧ Fr n0 L ∧ h = h0) := by
  refine OConK.intro (y := (⟨"java/lang/String", "coder", "()B"⟩ : MethodName)) (plainFor_of_name own_pn_java_lang_String) (own_ef_rmCo a) ?_
  intro p e s m below meth c s₁ hx hby hml hown hnm hret hlk hZ X0 e0
  show OGoal p e below s _ _ _ (s₁.setTop (mkF m 0 #[.val (.ref a)] []))
  obtain ⟨T1, X2, e3, st4⟩ := getS X0 hx hZ hown (host := "") (hw _ (List.mem_of_getElem? (i := 53) rfl)) Via.refl e0 St (g := mkF m 0 #[.val (.ref a)] []) rfl (hb hby own_d_jdk_42_method_152_code_0)
  refine OGoal.mp (S' := (T1.setTop (mkF m 3 #[.val (.ref a)] [(.int cs)]))) (fun _ k => st4 _ k) ?_
  refine OGoal.mp (S' := (T1.setTop (mkF m 6 #[.val (.ref a)] []))) (fun _ k => XS.ifNo X2.here hx rfl (hb hby own_d_jdk_42_method_152_code_3) rfl (XT.i0_eq_f hcs) k) ?_
  refine OGoal.mp (S' := (T1.setTop (mkF m 7 #[.val (.ref a)] [(.ref a)]))) (fun _ k => XS.aloadN X2.here hx rfl (hb hby own_d_jdk_42_method_152_code_6) rfl rfl k) ?_
  obtain ⟨T5, X6, e7, st8⟩ := getF X2 hx hZ hown (host := "") (Or.inl (hw _ (List.mem_of_getElem? (i := 25) rfl))) Via.refl e3 Fc (g := mkF m 7 #[.val (.ref a)] [(.ref a)]) rfl rfl (hb hby own_d_jdk_42_method_152_code_7)
  refine OGoal.mp (S' := (T5.setTop (mkF m 10 #[.val (.ref a)] [(.int (0 : Int32))]))) (fun _ k => st8 _ k) ?_
  refine OGoal.mp (S' := (T5.setTop (mkF m 14 #[.val (.ref a)] [(.int (0 : Int32))]))) (fun _ k => XS.goto X6.here hx rfl (pc0 := 10) (pc' := 14) rfl (hb hby own_d_jdk_42_method_152_code_10) (by decide) (by decide) k) ?_
  refine oRetB X6 hx hlk hret (by decide) (hb hby own_d_jdk_42_method_152_code_14) ?_ (by decide) (by decide)
  exact ⟨rfl, (Fr.nil n0), e7⟩
theorem own_d_jdk_42_method_54_code_0 : decode jdk_42_method_54_code 0 = .ok (.aload_n 0, 1) := by decide +kernel
theorem own_d_jdk_42_method_54_code_1 : decode jdk_42_method_54_code 1 = .ok (.getfield 9, 3) := by decide +kernel
theorem own_d_jdk_42_method_54_code_4 : decode jdk_42_method_54_code 4 = .ok (.arraylength, 1) := by decide +kernel
theorem own_d_jdk_42_method_54_code_5 : decode jdk_42_method_54_code 5 = .ok (.aload_n 0, 1) := by decide +kernel
theorem own_d_jdk_42_method_54_code_6 : decode jdk_42_method_54_code 6 = .ok (.invokevirtual 335, 3) := by decide +kernel
theorem own_pd___B : parseMethodDescriptor "()B" = some ⟨[], some .byte⟩ := by decide +kernel
theorem own_d_jdk_42_method_54_code_9 : decode jdk_42_method_54_code 9 = .ok (.ishr, 1) := by decide +kernel
theorem own_d_jdk_42_method_54_code_10 : decode jdk_42_method_54_code 10 = .ok (.ireturn, 1) := by decide +kernel
theorem own_ef_rmLn0 (x0 : Addr) (m : MethodId) : entryFrame m #[(.ref x0)] 1 = mkF m 0 #[.val (.ref x0)] [] := by first | (simp [entryFrame, mkF, argsToLocals, Value.category]; done) | rfl
set_option maxRecDepth 65536 in
set_option maxHeartbeats 40000000 in
theorem rmLn0 (l : Launch) (Z : State) (a0 : Array Value) (hw : ∀ d ∈ tables_1, d.before a0 Z = true) (a : Addr) (h0 : Heap) (n0 : Nat) (Z0 : n0 ≤ h0.size) (cs : Int32) (hcs : ¬ cs = 0) (St : Stt Z h0 cs) (v' : Addr) (E : Exa Z h0 a "java/lang/String") (Fv : Fld Z h0 a "java/lang/String" "value" "[B" (.ref v')) (Fc : Fld Z h0 a "java/lang/String" "coder" "B" (.int (0 : Int32))) (n1 : Int32) (gf : Nat → Value) (A : OArr Z h0 v' .byte n1 gf) :
    OCon l Z (⟨"java/lang/String", "length", "()I"⟩ : MethodName) jdk_42_method_54_code 1 (some .int) ({ frames := 1, cells := 0, slots := 0, locals := 13 } : Room) #[(.ref a)] h0 (fun v h L => v = some (.int n1) ∧ Fr n0 L ∧ h = h0) := by
  refine OConK.intro (y := (⟨"java/lang/String", "length", "()I"⟩ : MethodName)) (plainFor_of_name own_pn_java_lang_String) (own_ef_rmLn0 a) ?_
  intro p e s m below meth c s₁ hx hby hml hown hnm hret hlk hZ X0 e0
  show OGoal p e below s _ _ _ (s₁.setTop (mkF m 0 #[.val (.ref a)] []))
  refine OGoal.mp (S' := (s₁.setTop (mkF m 1 #[.val (.ref a)] [(.ref a)]))) (fun _ k => XS.aloadN X0.here hx rfl (hb hby own_d_jdk_42_method_54_code_0) rfl rfl k) ?_
  obtain ⟨T1, X2, e3, st4⟩ := getF X0 hx hZ hown (host := "") (Or.inl (hw _ (List.mem_of_getElem? (i := 24) rfl))) Via.refl e0 Fv (g := mkF m 1 #[.val (.ref a)] [(.ref a)]) rfl rfl (hb hby own_d_jdk_42_method_54_code_1)
  refine OGoal.mp (S' := (T1.setTop (mkF m 4 #[.val (.ref a)] [(.ref v')]))) (fun _ k => st4 _ k) ?_
  refine OGoal.mp (S' := (T1.setTop (mkF m 5 #[.val (.ref a)] [(.int n1)]))) (fun _ k => oLen X2 hx hZ e3 A (g := mkF m 4 #[.val (.ref a)] [(.ref v')]) rfl rfl (hb hby own_d_jdk_42_method_54_code_4) k) ?_
  refine OGoal.mp (S' := (T1.setTop (mkF m 6 #[.val (.ref a)] [(.ref a), (.int n1)]))) (fun _ k => XS.aloadN X2.here hx rfl (hb hby own_d_jdk_42_method_54_code_5) rfl rfl k) ?_
  refine oCallV (y := (⟨"java/lang/String", "coder", "()B"⟩ : MethodName)) (z := (⟨"java/lang/String", "coder", "()B"⟩ : MethodName)) X2 hx hZ hown (hw _ (List.mem_of_getElem? (i := 48) rfl)) (hw _ (List.mem_of_getElem? (i := 49) rfl)) (hw _ (List.mem_of_getElem? (i := 51) rfl)) (hw _ (List.mem_of_getElem? (i := 50) rfl)) (hw _ (List.mem_of_getElem? (i := 7) rfl)) (hw _ (List.mem_of_getElem? (i := 52) rfl)) (by decide) (rmCo l Z a0 hw a h0 n0 Z0 cs hcs St v' E Fv Fc) e3 E [] [(.int n1)] rfl rfl (by rw [hml]; rfl) (notFace_of_selects (args := #[]) (mvT hZ (hw _ (List.mem_of_getElem? (i := 51) rfl)))) (lenOf own_pd___B rfl) 1 (Nat.le_of_eq rfl) (by decide) (by decide) (by decide) (by decide) (hb hby own_d_jdk_42_method_54_code_6) ?_
  intro v5 T6 L7 X8 q9
  obtain ⟨rfl, N10, e11⟩ := q9
  have N12 := Fr.app (Fr.nil n0) N10
  show OGoal p e below s _ _ _ (T6.setTop (mkF m 9 #[.val (.ref a)] [(.int (0 : Int32)), (.int n1)]))
  refine OGoal.mp (S' := (T6.setTop (mkF m 10 #[.val (.ref a)] [(.int (n1 >>> ((0 : Int32) &&& 31)))]))) (fun _ k => XT.ishr X8.here hx rfl (hb hby own_d_jdk_42_method_54_code_9) rfl k) ?_
  rw [show (n1 >>> ((0 : Int32) &&& 31)) = n1 from Int32.toInt_inj.mp (by rw [c_ishr n1 0 0 (by decide)]; omega)]
  show OGoal p e below s _ _ _ (T6.setTop (mkF m 10 #[.val (.ref a)] [(.int n1)]))
  refine oRetI X8 hx hlk hret (hb hby own_d_jdk_42_method_54_code_10) ?_ (by decide) (by decide)
  exact ⟨rfl, N12, e11⟩
set_option maxRecDepth 65536 in
set_option maxHeartbeats 40000000 in
theorem rmLn (l : Launch) (Z : State) (a0 : Array Value) (hw : ∀ d ∈ tables_1, d.before a0 Z = true) (a : Addr) (h0 : Heap) (n0 : Nat) (Z0 : n0 ≤ h0.size) (cs : Int32) (hcs : ¬ cs = 0) (St : Stt Z h0 cs) (n1 : Int32) (hS : StrN Z h0 a n1) :
    OCon l Z (⟨"java/lang/String", "length", "()I"⟩ : MethodName) jdk_42_method_54_code 1 (some .int) ({ frames := 1, cells := 0, slots := 0, locals := 13 } : Room) #[(.ref a)] h0 (fun v h L => v = some (.int n1) ∧ Fr n0 L ∧ h = h0) := by
  obtain ⟨v', gf, E, Fv, Fc, A⟩ := hS
  exact rmLn0 l Z a0 hw a h0 n0 Z0 cs hcs St v' E Fv Fc n1 gf A
theorem own_d_jdk_42_method_149_code_0 : decode jdk_42_method_149_code 0 = .ok (.aload_n 0, 1) := by decide +kernel
theorem own_d_jdk_42_method_149_code_1 : decode jdk_42_method_149_code 1 = .ok (.invokespecial 1, 3) := by decide +kernel
theorem own_d_jdk_42_method_149_code_4 : decode jdk_42_method_149_code 4 = .ok (.iload_n 3, 1) := by decide +kernel
theorem own_d_jdk_42_method_149_code_5 : decode jdk_42_method_149_code 5 = .ok (.ifCond .ne 22, 3) := by decide +kernel
theorem own_d_jdk_42_method_149_code_8 : decode jdk_42_method_149_code 8 = .ok (.aload_n 0, 1) := by decide +kernel
theorem own_d_jdk_42_method_149_code_9 : decode jdk_42_method_149_code 9 = .ok (.ldc 7, 2) := by decide +kernel
theorem own_d_jdk_42_method_149_code_11 : decode jdk_42_method_149_code 11 = .ok (.getfield 9, 3) := by decide +kernel
theorem own_d_jdk_42_method_149_code_14 : decode jdk_42_method_149_code 14 = .ok (.putfield 9, 3) := by decide +kernel
theorem own_d_jdk_42_method_149_code_17 : decode jdk_42_method_149_code 17 = .ok (.aload_n 0, 1) := by decide +kernel
theorem own_d_jdk_42_method_149_code_18 : decode jdk_42_method_149_code 18 = .ok (.ldc 7, 2) := by decide +kernel
theorem own_d_jdk_42_method_149_code_20 : decode jdk_42_method_149_code 20 = .ok (.getfield 15, 3) := by decide +kernel
theorem own_d_jdk_42_method_149_code_23 : decode jdk_42_method_149_code 23 = .ok (.putfield 15, 3) := by decide +kernel
theorem own_d_jdk_42_method_149_code_26 : decode jdk_42_method_149_code 26 = .ok (.return_, 1) := by decide +kernel
theorem own_ef_rmSI_0 (x0 : Addr) (x1 : Addr) (x2 : Int32) (x3 : Int32) (m : MethodId) : entryFrame m #[(.ref x0), (.ref x1), (.int x2), (.int x3), .null] 6 = mkF m 0 #[.val (.ref x0), .val (.ref x1), .val (.int x2), .val (.int x3), .val .null, .unset] [] := by first | (simp [entryFrame, mkF, argsToLocals, Value.category]; done) | rfl
set_option maxRecDepth 65536 in
set_option maxHeartbeats 40000000 in
theorem rmSI_0 (l : Launch) (Z : State) (a0 : Array Value) (hw : ∀ d ∈ tables_1, d.before a0 Z = true) (a c' : Addr) (h0 : Heap) (n0 : Nat) (Z0 : n0 ≤ h0.size) (cs : Int32) (hcs : ¬ cs = 0) (St : Stt Z h0 cs) (Ac : OArr Z h0 c' .char (0 : Int32) (fun _ => .int 0)) (E : Exa Z h0 a "java/lang/String") (Fv : Fld Z h0 a "java/lang/String" "value" "[B" .null) (Fc : Fld Z h0 a "java/lang/String" "coder" "B" (.int (0 : Int32))) (ab : n0 ≤ a) (hkp : ∀ (b : Addr) (cl : Cell), Z.heap[b]? = some cl → h0[b]? = some cl) (hcw : Jvm.Lit.compactW.before a0 Z = true) (hch : Jvm.Lit.constHeld Z "java/lang/String" 7) :
    OConW l Z (⟨"java/lang/String", "<init>", "([CIILjava/lang/Void;)V"⟩ : MethodName) jdk_42_method_149_code 6 none ({ frames := 1, cells := 2, slots := 4, locals := 12 } : Room) #[(.ref a), (.ref c'), (.int (0 : Int32)), (.int (0 : Int32)), .null] h0 (fun v h L => v = none ∧ Fr n0 L ∧ Keep h0 h [a] ∧ Stt Z h cs ∧ StrN Z h a (0 : Int32)) := by
  refine OConKW.intro (y := (⟨"java/lang/String", "<init>", "([CIILjava/lang/Void;)V"⟩ : MethodName)) (plainFor_of_name own_pn_java_lang_String) (own_ef_rmSI_0 a c' (0 : Int32) (0 : Int32)) ?_
  intro p e s m below meth c s₁ hx hby hml hown hnm hret hlk hZ hI hsh hS0 X0 e0
  show OGoalW p e below s _ _ _ (s₁.setTop (mkF m 0 #[.val (.ref a), .val (.ref c'), .val (.int (0 : Int32)), .val (.int (0 : Int32)), .val .null, .unset] []))
  refine OGoalW.mp (S' := (s₁.setTop (mkF m 1 #[.val (.ref a), .val (.ref c'), .val (.int (0 : Int32)), .val (.int (0 : Int32)), .val .null, .unset] [(.ref a)]))) (fun _ k => XS.aloadN X0.here hx rfl (hb hby own_d_jdk_42_method_149_code_0) rfl rfl k) ?_
  obtain ⟨T1, X2, e3, st4⟩ := initO X0 hx hZ hown (hw _ (List.mem_of_getElem? (i := 15) rfl)) (hw _ (List.mem_of_getElem? (i := 16) rfl)) (hw _ (List.mem_of_getElem? (i := 17) rfl)) e0 (g := mkF m 1 #[.val (.ref a), .val (.ref c'), .val (.int (0 : Int32)), .val (.int (0 : Int32)), .val .null, .unset] [(.ref a)]) rfl (by rw [hml]; rfl) rfl (hb hby own_d_jdk_42_method_149_code_1) (by decide) (W := 0) (by show 2 * 0 + _ ≤ _; exact Nat.le_of_eq rfl) (by decide)
  refine OGoalW.mp (S' := (T1.setTop (mkF m 4 #[.val (.ref a), .val (.ref c'), .val (.int (0 : Int32)), .val (.int (0 : Int32)), .val .null, .unset] []))) (fun _ k => st4 _ k) ?_
  refine OGoalW.mp (S' := (T1.setTop (mkF m 5 #[.val (.ref a), .val (.ref c'), .val (.int (0 : Int32)), .val (.int (0 : Int32)), .val .null, .unset] [(.int (0 : Int32))]))) (fun _ k => XS.iloadN X2.here hx rfl (hb hby own_d_jdk_42_method_149_code_4) rfl k) ?_
  refine OGoalW.mp (S' := (T1.setTop (mkF m 8 #[.val (.ref a), .val (.ref c'), .val (.int (0 : Int32)), .val (.int (0 : Int32)), .val .null, .unset] []))) (fun _ k => XS.ifNo X2.here hx rfl (hb hby own_d_jdk_42_method_149_code_5) rfl (XT.i0_ne_f (by decide)) k) ?_
  refine OGoalW.mp (S' := (T1.setTop (mkF m 9 #[.val (.ref a), .val (.ref c'), .val (.int (0 : Int32)), .val (.int (0 : Int32)), .val .null, .unset] [(.ref a)]))) (fun _ k => XS.aloadN X2.here hx rfl (hb hby own_d_jdk_42_method_149_code_8) rfl rfl k) ?_
  obtain ⟨sa5, T6, h7, k8, sb9, kc10, X11, e12, E13, hS14, hk15, hZ, hown, E16, F17, F18, A19, la20, lb21, IB22, LT23, st24⟩ := ldcSVL X2 hx hZ hown (hw _ (List.mem_of_getElem? (i := 18) rfl)) (fun d hd => by simp only [Bundle.stringAtoms, List.mem_cons, List.not_mem_nil, or_false] at hd; rcases hd with rfl | rfl | rfl | rfl | rfl | rfl | rfl; exact hw _ (List.mem_of_getElem? (i := 7) rfl); exact hw _ (List.mem_of_getElem? (i := 6) rfl); exact hw _ (List.mem_of_getElem? (i := 19) rfl); exact hw _ (List.mem_of_getElem? (i := 20) rfl); exact hw _ (List.mem_of_getElem? (i := 21) rfl); exact hw _ (List.mem_of_getElem? (i := 22) rfl); exact hw _ (List.mem_of_getElem? (i := 23) rfl)) e3 hS0 (Nat.le_of_eq (congrArg Array.size hsh)) (fun y hy => nomatch hy) (fun b cl q => by rw [hsh]; exact hkp b cl q) (Ts := []) ⟨#[], by simp [hI], fun q hq => by simp at hq⟩ (by simp) hch hcw (vs := []) (z := 0) ⟨fun c hc => by simp at hc, rfl⟩ (by decide) (by decide) (g := mkF m 9 #[.val (.ref a), .val (.ref c'), .val (.int (0 : Int32)), .val (.int (0 : Int32)), .val .null, .unset] [(.ref a)]) rfl (hb hby own_d_jdk_42_method_149_code_9) (n := 0) (by decide) (by decide) (by decide) (by decide)
  have K25 : Keep h0 h7 [a] := (Keep.refl h0 [a]).ext E13
  have F26 := St.ext E13
  have F27 := E.ext E13
  have F28 := Fv.ext E13
  have F29 := Fc.ext E13
  have Z30 : n0 ≤ h7.size := Nat.le_trans Z0 E13.1
  have A31 := OArr.of_arv A19
  have nq32 := oNeA F27 (hw _ (List.mem_of_getElem? (i := 6) rfl)) A31
  refine OGoalW.mp (S' := (T6.setTop (mkF m 11 #[.val (.ref a), .val (.ref c'), .val (.int (0 : Int32)), .val (.int (0 : Int32)), .val .null, .unset] [(.ref sa5), (.ref a)]))) (fun _ k => st24 _ k) ?_
  obtain ⟨T33, X34, e35, st36⟩ := getF X11 hx hZ hown (host := "") (Or.inl (hw _ (List.mem_of_getElem? (i := 24) rfl))) Via.refl e12 F18 (g := mkF m 11 #[.val (.ref a), .val (.ref c'), .val (.int (0 : Int32)), .val (.int (0 : Int32)), .val .null, .unset] [(.ref sa5), (.ref a)]) rfl rfl (hb hby own_d_jdk_42_method_149_code_11)
  refine OGoalW.mp (S' := (T33.setTop (mkF m 14 #[.val (.ref a), .val (.ref c'), .val (.int (0 : Int32)), .val (.int (0 : Int32)), .val .null, .unset] [(.ref sb9), (.ref a)]))) (fun _ k => st36 _ k) ?_
  obtain ⟨T37, h41, X38, e39, W42, st40⟩ := putF X34 hx hZ hown (host := "") (Or.inl (hw _ (List.mem_of_getElem? (i := 24) rfl))) Via.refl e35 F28 F27 (Or.inr ⟨(hw _ (List.mem_of_getElem? (i := 20) rfl)), rfl, hnm⟩) (hw _ (List.mem_of_getElem? (i := 6) rfl)) (ty := (.array .byte)) (by decide) rfl rfl (g := mkF m 14 #[.val (.ref a), .val (.ref c'), .val (.int (0 : Int32)), .val (.int (0 : Int32)), .val .null, .unset] [(.ref sb9), (.ref a)]) rfl rfl (hb hby own_d_jdk_42_method_149_code_14)
  have N43 := Fr.snoc X38 (Fr.nil n0) ab
  have Z44 : n0 ≤ h41.size := Nat.le_trans Z30 (Keep.of_wr W42).1
  have F45 := F17.other W42 (Or.inr (slot_ne (a0 := a0) (C := "java/lang/String") (t := .byte) (t' := (.array .byte)) (Or.inr (hw _ (List.mem_of_getElem? (i := 21) rfl))) (Or.inr (hw _ (List.mem_of_getElem? (i := 20) rfl))) (by decide) (by decide) (by decide)))
  have K46 : Keep h0 h41 [a] := K25.wr W42 (Or.inl (by simp))
  have F47 := F26.wr W42
  have F48 := F27.wr W42
  have F49 := F28.same W42
  have F50 := F29.other W42 (Or.inr (slot_ne (a0 := a0) (C := "java/lang/String") (t := .byte) (t' := (.array .byte)) (Or.inr (hw _ (List.mem_of_getElem? (i := 21) rfl))) (Or.inr (hw _ (List.mem_of_getElem? (i := 20) rfl))) (by decide) (by decide) (by decide)))
  have F51 := A31.other W42 nq32.symm
  refine OGoalW.mp (S' := (T37.setTop (mkF m 17 #[.val (.ref a), .val (.ref c'), .val (.int (0 : Int32)), .val (.int (0 : Int32)), .val .null, .unset] []))) (fun _ k => st40 _ k) ?_
  refine OGoalW.mp (S' := (T37.setTop (mkF m 18 #[.val (.ref a), .val (.ref c'), .val (.int (0 : Int32)), .val (.int (0 : Int32)), .val .null, .unset] [(.ref a)]))) (fun _ k => XS.aloadN X38.here hx rfl (hb hby own_d_jdk_42_method_149_code_17) rfl rfl k) ?_
  refine OGoalW.mp (S' := (T37.setTop (mkF m 20 #[.val (.ref a), .val (.ref c'), .val (.int (0 : Int32)), .val (.int (0 : Int32)), .val .null, .unset] [(.ref sa5), (.ref a)]))) (fun _ k => ldcAgain X38 hx hZ hown (hw _ (List.mem_of_getElem? (i := 18) rfl)) LT23 (g := mkF m 18 #[.val (.ref a), .val (.ref c'), .val (.int (0 : Int32)), .val (.int (0 : Int32)), .val .null, .unset] [(.ref a)]) rfl (hb hby own_d_jdk_42_method_149_code_18) _ k) ?_
  obtain ⟨T52, X53, e54, st55⟩ := getF X38 hx hZ hown (host := "") (Or.inl (hw _ (List.mem_of_getElem? (i := 25) rfl))) Via.refl e39 F45 (g := mkF m 20 #[.val (.ref a), .val (.ref c'), .val (.int (0 : Int32)), .val (.int (0 : Int32)), .val .null, .unset] [(.ref sa5), (.ref a)]) rfl rfl (hb hby own_d_jdk_42_method_149_code_20)
  refine OGoalW.mp (S' := (T52.setTop (mkF m 23 #[.val (.ref a), .val (.ref c'), .val (.int (0 : Int32)), .val (.int (0 : Int32)), .val .null, .unset] [(.int (0 : Int32)), (.ref a)]))) (fun _ k => st55 _ k) ?_
  obtain ⟨T56, h60, X57, e58, W61, st59⟩ := putF X53 hx hZ hown (host := "") (Or.inl (hw _ (List.mem_of_getElem? (i := 25) rfl))) Via.refl e54 F50 F48 (Or.inr ⟨(hw _ (List.mem_of_getElem? (i := 21) rfl)), rfl, hnm⟩) (hw _ (List.mem_of_getElem? (i := 6) rfl)) (ty := .byte) (by decide) rfl rfl (g := mkF m 23 #[.val (.ref a), .val (.ref c'), .val (.int (0 : Int32)), .val (.int (0 : Int32)), .val .null, .unset] [(.int (0 : Int32)), (.ref a)]) rfl rfl (hb hby own_d_jdk_42_method_149_code_23)
  have N62 := Fr.snoc X57 N43 ab
  have Z63 : n0 ≤ h60.size := Nat.le_trans Z44 (Keep.of_wr W61).1
  have K64 : Keep h0 h60 [a] := K46.wr W61 (Or.inl (by simp))
  have F65 := F47.wr W61
  have F66 := F48.wr W61
  have F67 := F49.other W61 (Or.inr (slot_ne (a0 := a0) (C := "java/lang/String") (t := (.array .byte)) (t' := .byte) (Or.inr (hw _ (List.mem_of_getElem? (i := 20) rfl))) (Or.inr (hw _ (List.mem_of_getElem? (i := 21) rfl))) (by decide) (by decide) (by decide)))
  have F68 := F50.same W61
  have F69 := F51.other W61 nq32.symm
  refine OGoalW.mp (S' := (T56.setTop (mkF m 26 #[.val (.ref a), .val (.ref c'), .val (.int (0 : Int32)), .val (.int (0 : Int32)), .val .null, .unset] []))) (fun _ k => st59 _ k) ?_
  refine oRetVW X57 hS14 (Nat.le_trans (Nat.le_trans (Nat.le_trans hk15 (Keep.of_wr W42).1) (Keep.of_wr W61).1) (Nat.le_of_eq (congrArg Array.size e58).symm)) hx hlk hret (hb hby own_d_jdk_42_method_149_code_26) ?_ (by decide) (by decide)
  rw [e58]; exact ⟨rfl, N62, K64, F65, sb9, _, F66, F67, F68, F69⟩
theorem own_d_jdk_42_method_3_code_0 : decode jdk_42_method_3_code 0 = .ok (.aload_n 0, 1) := by decide +kernel
theorem own_d_jdk_42_method_3_code_1 : decode jdk_42_method_3_code 1 = .ok (.aload_n 1, 1) := by decide +kernel
theorem own_d_jdk_42_method_3_code_2 : decode jdk_42_method_3_code 2 = .ok (.iconst 0, 1) := by decide +kernel
theorem own_d_jdk_42_method_3_code_3 : decode jdk_42_method_3_code 3 = .ok (.aload_n 1, 1) := by decide +kernel
theorem own_d_jdk_42_method_3_code_4 : decode jdk_42_method_3_code 4 = .ok (.arraylength, 1) := by decide +kernel
theorem own_d_jdk_42_method_3_code_5 : decode jdk_42_method_3_code 5 = .ok (.aconst_null, 1) := by decide +kernel
theorem own_d_jdk_42_method_3_code_6 : decode jdk_42_method_3_code 6 = .ok (.invokespecial 27, 3) := by decide +kernel
theorem own_pd___CIILjava_lang_Void__V : parseMethodDescriptor "([CIILjava/lang/Void;)V" = some ⟨[(.array .char), .int, .int, (.object "java/lang/Void")], none⟩ := by decide +kernel
theorem own_d_jdk_42_method_3_code_9 : decode jdk_42_method_3_code 9 = .ok (.return_, 1) := by decide +kernel
theorem own_ef_rmS1_0 (x0 : Addr) (x1 : Addr) (m : MethodId) : entryFrame m #[(.ref x0), (.ref x1)] 2 = mkF m 0 #[.val (.ref x0), .val (.ref x1)] [] := by first | (simp [entryFrame, mkF, argsToLocals, Value.category]; done) | rfl
set_option maxRecDepth 65536 in
set_option maxHeartbeats 40000000 in
theorem rmS1_0 (l : Launch) (Z : State) (a0 : Array Value) (hw : ∀ d ∈ tables_1, d.before a0 Z = true) (a c' : Addr) (h0 : Heap) (n0 : Nat) (Z0 : n0 ≤ h0.size) (cs : Int32) (hcs : ¬ cs = 0) (St : Stt Z h0 cs) (Ac : OArr Z h0 c' .char (0 : Int32) (fun _ => .int 0)) (E : Exa Z h0 a "java/lang/String") (Fv : Fld Z h0 a "java/lang/String" "value" "[B" .null) (Fc : Fld Z h0 a "java/lang/String" "coder" "B" (.int (0 : Int32))) (ab : n0 ≤ a) (hkp : ∀ (b : Addr) (cl : Cell), Z.heap[b]? = some cl → h0[b]? = some cl) (hcw : Jvm.Lit.compactW.before a0 Z = true) (hch : Jvm.Lit.constHeld Z "java/lang/String" 7) :
    OConW l Z (⟨"java/lang/String", "<init>", "([C)V"⟩ : MethodName) jdk_42_method_3_code 2 none ({ frames := 2, cells := 2, slots := 4, locals := 29 } : Room) #[(.ref a), (.ref c')] h0 (fun v h L => v = none ∧ Fr n0 L ∧ Keep h0 h [a] ∧ Stt Z h cs ∧ StrN Z h a (0 : Int32)) := by
  refine OConKW.intro (y := (⟨"java/lang/String", "<init>", "([C)V"⟩ : MethodName)) (plainFor_of_name own_pn_java_lang_String) (own_ef_rmS1_0 a c') ?_
  intro p e s m below meth c s₁ hx hby hml hown hnm hret hlk hZ hI hsh hS0 X0 e0
  show OGoalW p e below s _ _ _ (s₁.setTop (mkF m 0 #[.val (.ref a), .val (.ref c')] []))
  refine OGoalW.mp (S' := (s₁.setTop (mkF m 1 #[.val (.ref a), .val (.ref c')] [(.ref a)]))) (fun _ k => XS.aloadN X0.here hx rfl (hb hby own_d_jdk_42_method_3_code_0) rfl rfl k) ?_
  refine OGoalW.mp (S' := (s₁.setTop (mkF m 2 #[.val (.ref a), .val (.ref c')] [(.ref c'), (.ref a)]))) (fun _ k => XS.aloadN X0.here hx rfl (hb hby own_d_jdk_42_method_3_code_1) rfl rfl k) ?_
  refine OGoalW.mp (S' := (s₁.setTop (mkF m 3 #[.val (.ref a), .val (.ref c')] [(.int (0 : Int32)), (.ref c'), (.ref a)]))) (fun _ k => XS.iconst X0.here hx rfl (hb hby own_d_jdk_42_method_3_code_2) k) ?_
  refine OGoalW.mp (S' := (s₁.setTop (mkF m 4 #[.val (.ref a), .val (.ref c')] [(.ref c'), (.int (0 : Int32)), (.ref c'), (.ref a)]))) (fun _ k => XS.aloadN X0.here hx rfl (hb hby own_d_jdk_42_method_3_code_3) rfl rfl k) ?_
  refine OGoalW.mp (S' := (s₁.setTop (mkF m 5 #[.val (.ref a), .val (.ref c')] [(.int (0 : Int32)), (.int (0 : Int32)), (.ref c'), (.ref a)]))) (fun _ k => oLen X0 hx hZ e0 Ac (g := mkF m 4 #[.val (.ref a), .val (.ref c')] [(.ref c'), (.int (0 : Int32)), (.ref c'), (.ref a)]) rfl rfl (hb hby own_d_jdk_42_method_3_code_4) k) ?_
  refine OGoalW.mp (S' := (s₁.setTop (mkF m 6 #[.val (.ref a), .val (.ref c')] [.null, (.int (0 : Int32)), (.int (0 : Int32)), (.ref c'), (.ref a)]))) (fun _ k => XS.aconstNull X0.here hx rfl (hb hby own_d_jdk_42_method_3_code_5) k) ?_
  refine oCallNS (y := (⟨"java/lang/String", "<init>", "([CIILjava/lang/Void;)V"⟩ : MethodName)) X0 hx hS0 (Nat.le_trans (Nat.le_of_eq (congrArg Array.size hsh)) (Nat.le_of_eq (congrArg Array.size e0).symm)) hI hZ rfl hown (hw _ (List.mem_of_getElem? (i := 11) rfl)) (hw _ (List.mem_of_getElem? (i := 12) rfl)) (hw _ (List.mem_of_getElem? (i := 7) rfl)) (hw _ (List.mem_of_getElem? (i := 14) rfl)) (by decide) (rmSI_0 l Z a0 hw a c' h0 n0 Z0 cs hcs St Ac E Fv Fc ab hkp hcw hch) e0 [(.ref c'), (.int (0 : Int32)), (.int (0 : Int32)), .null] [] rfl rfl (by rw [hml]; rfl) (lenOf own_pd___CIILjava_lang_Void__V rfl) 0 (Nat.le_of_eq rfl) (by decide) (by decide) (by decide) (by decide) (hb hby own_d_jdk_42_method_3_code_6) ?_
  intro v1 T2 L3 X4 hS6 hg7 hZ hown q5
  obtain ⟨rfl, N8, K9, S10, D11⟩ := q5
  have N12 := Fr.app (Fr.nil n0) N8
  show OGoalW p e below s _ _ _ (T2.setTop (mkF m 9 #[.val (.ref a), .val (.ref c')] []))
  refine oRetVW X4 hS6 (Nat.le_trans (Nat.le_refl _) (Nat.le_of_eq (congrArg Array.size rfl).symm)) hx hlk hret (hb hby own_d_jdk_42_method_3_code_9) ?_ (by decide) (by decide)
  exact ⟨rfl, N12, K9, S10, D11⟩
theorem own_d_jdk_52_method_21_code_0 : decode jdk_52_method_21_code 0 = .ok (.iconst 0, 1) := by decide +kernel
theorem own_d_jdk_52_method_21_code_1 : decode jdk_52_method_21_code 1 = .ok (.istore 5, 2) := by decide +kernel
theorem own_d_jdk_52_method_21_code_3 : decode jdk_52_method_21_code 3 = .ok (.iload 5, 2) := by decide +kernel
theorem own_d_jdk_52_method_21_code_5 : decode jdk_52_method_21_code 5 = .ok (.iload 4, 2) := by decide +kernel
theorem own_d_jdk_52_method_21_code_7 : decode jdk_52_method_21_code 7 = .ok (.if_icmp .ge 37, 3) := by decide +kernel
theorem own_d_jdk_52_method_21_code_10 : decode jdk_52_method_21_code 10 = .ok (.aload_n 0, 1) := by decide +kernel
theorem own_d_jdk_52_method_21_code_11 : decode jdk_52_method_21_code 11 = .ok (.iload_n 1, 1) := by decide +kernel
theorem own_d_jdk_52_method_21_code_12 : decode jdk_52_method_21_code 12 = .ok (.caload, 1) := by decide +kernel
theorem own_d_jdk_52_method_21_code_13 : decode jdk_52_method_21_code 13 = .ok (.istore 6, 2) := by decide +kernel
theorem own_d_jdk_52_method_21_code_15 : decode jdk_52_method_21_code 15 = .ok (.iload 6, 2) := by decide +kernel
theorem own_d_jdk_52_method_21_code_17 : decode jdk_52_method_21_code 17 = .ok (.sipush 255, 3) := by decide +kernel
theorem own_d_jdk_52_method_21_code_20 : decode jdk_52_method_21_code 20 = .ok (.if_icmp .le 6, 3) := by decide +kernel
theorem own_d_jdk_52_method_21_code_26 : decode jdk_52_method_21_code 26 = .ok (.aload_n 2, 1) := by decide +kernel
theorem own_d_jdk_52_method_21_code_27 : decode jdk_52_method_21_code 27 = .ok (.iload_n 3, 1) := by decide +kernel
theorem own_d_jdk_52_method_21_code_28 : decode jdk_52_method_21_code 28 = .ok (.iload 6, 2) := by decide +kernel
theorem own_d_jdk_52_method_21_code_30 : decode jdk_52_method_21_code 30 = .ok (.i2b, 1) := by decide +kernel
theorem own_d_jdk_52_method_21_code_31 : decode jdk_52_method_21_code 31 = .ok (.bastore, 1) := by decide +kernel
theorem own_d_jdk_52_method_21_code_32 : decode jdk_52_method_21_code 32 = .ok (.iinc 1 1, 3) := by decide +kernel
theorem own_d_jdk_52_method_21_code_35 : decode jdk_52_method_21_code 35 = .ok (.iinc 3 1, 3) := by decide +kernel
theorem own_d_jdk_52_method_21_code_38 : decode jdk_52_method_21_code 38 = .ok (.iinc 5 1, 3) := by decide +kernel
theorem own_d_jdk_52_method_21_code_41 : decode jdk_52_method_21_code 41 = .ok (.goto (-38), 3) := by decide +kernel
theorem own_d_jdk_52_method_21_code_44 : decode jdk_52_method_21_code 44 = .ok (.iload 4, 2) := by decide +kernel
theorem own_d_jdk_52_method_21_code_46 : decode jdk_52_method_21_code 46 = .ok (.ireturn, 1) := by decide +kernel
theorem own_pn_java_lang_StringUTF16 : plainName "java/lang/StringUTF16" = true := by first | (simp [plainName, overriddenIn]; done) | decide +kernel
theorem own_ef_rmC1_1 (x0 : Addr) (x1 : Int32) (x2 : Addr) (x3 : Int32) (x4 : Int32) (m : MethodId) : entryFrame m #[(.ref x0), (.int x1), (.ref x2), (.int x3), (.int x4)] 7 = mkF m 0 #[.val (.ref x0), .val (.int x1), .val (.ref x2), .val (.int x3), .val (.int x4), .unset, .unset] [] := by first | (simp [entryFrame, mkF, argsToLocals, Value.category]; done) | rfl
set_option maxRecDepth 65536 in
set_option maxHeartbeats 40000000 in
theorem rmC1_1 (l : Launch) (Z : State) (a0 : Array Value) (hw : ∀ d ∈ tables_1, d.before a0 Z = true) (c' d : Addr) (h0 : Heap) (n0 : Nat) (Z0 : n0 ≤ h0.size) (cs : Int32) (hcs : ¬ cs = 0) (St : Stt Z h0 cs) (f : Nat → Int32) (hL : Lt f) (Ac : OArr Z h0 c' .char (1 : Int32) (fun k => .int (f k))) (Ad : OArr Z h0 d .byte (1 : Int32) (fun _ => .int 0)) (ncd : c' ≠ d) (ab : n0 ≤ d) :
    OCon l Z (⟨"java/lang/StringUTF16", "compress", "([CI[BII)I"⟩ : MethodName) jdk_52_method_21_code 7 (some .int) ({ frames := 0, cells := 0, slots := 0, locals := 0 } : Room) #[(.ref c'), (.int (0 : Int32)), (.ref d), (.int (0 : Int32)), (.int (1 : Int32))] h0 (fun v h L => v = some (.int (1 : Int32)) ∧ Fr n0 L ∧ Keep h0 h [d] ∧ Stt Z h cs ∧ ∃ gf, OArr Z h d .byte (1 : Int32) gf) := by
  refine OConK.intro (y := (⟨"java/lang/StringUTF16", "compress", "([CI[BII)I"⟩ : MethodName)) (plainFor_of_name own_pn_java_lang_StringUTF16) (own_ef_rmC1_1 c' (0 : Int32) d (0 : Int32) (1 : Int32)) ?_
  intro p e s m below meth c s₁ hx hby hml hown hnm hret hlk hZ X0 e0
  show OGoal p e below s _ _ _ (s₁.setTop (mkF m 0 #[.val (.ref c'), .val (.int (0 : Int32)), .val (.ref d), .val (.int (0 : Int32)), .val (.int (1 : Int32)), .unset, .unset] []))
  refine OGoal.mp (S' := (s₁.setTop (mkF m 1 #[.val (.ref c'), .val (.int (0 : Int32)), .val (.ref d), .val (.int (0 : Int32)), .val (.int (1 : Int32)), .unset, .unset] [(.int (0 : Int32))]))) (fun _ k => XS.iconst X0.here hx rfl (hb hby own_d_jdk_52_method_21_code_0) k) ?_
  refine OGoal.mp (S' := (s₁.setTop (mkF m 3 #[.val (.ref c'), .val (.int (0 : Int32)), .val (.ref d), .val (.int (0 : Int32)), .val (.int (1 : Int32)), .val (.int (0 : Int32)), .unset] []))) (fun _ k => XS.istore X0.here hx rfl (hb hby own_d_jdk_52_method_21_code_1) rfl (l' := #[.val (.ref c'), .val (.int (0 : Int32)), .val (.ref d), .val (.int (0 : Int32)), .val (.int (1 : Int32)), .val (.int (0 : Int32)), .unset]) rfl k) ?_
  refine OGoal.mp (S' := (s₁.setTop (mkF m 5 #[.val (.ref c'), .val (.int (0 : Int32)), .val (.ref d), .val (.int (0 : Int32)), .val (.int (1 : Int32)), .val (.int (0 : Int32)), .unset] [(.int (0 : Int32))]))) (fun _ k => XS.iload X0.here hx rfl (hb hby own_d_jdk_52_method_21_code_3) rfl k) ?_
  refine OGoal.mp (S' := (s₁.setTop (mkF m 7 #[.val (.ref c'), .val (.int (0 : Int32)), .val (.ref d), .val (.int (0 : Int32)), .val (.int (1 : Int32)), .val (.int (0 : Int32)), .unset] [(.int (1 : Int32)), (.int (0 : Int32))]))) (fun _ k => XS.iload X0.here hx rfl (hb hby own_d_jdk_52_method_21_code_5) rfl k) ?_
  refine OGoal.mp (S' := (s₁.setTop (mkF m 10 #[.val (.ref c'), .val (.int (0 : Int32)), .val (.ref d), .val (.int (0 : Int32)), .val (.int (1 : Int32)), .val (.int (0 : Int32)), .unset] []))) (fun _ k => XS.icmpNo X0.here hx rfl (hb hby own_d_jdk_52_method_21_code_7) rfl (XT.ii_ge_f (by decide)) k) ?_
  refine OGoal.mp (S' := (s₁.setTop (mkF m 11 #[.val (.ref c'), .val (.int (0 : Int32)), .val (.ref d), .val (.int (0 : Int32)), .val (.int (1 : Int32)), .val (.int (0 : Int32)), .unset] [(.ref c')]))) (fun _ k => XS.aloadN X0.here hx rfl (hb hby own_d_jdk_52_method_21_code_10) rfl rfl k) ?_
  refine OGoal.mp (S' := (s₁.setTop (mkF m 12 #[.val (.ref c'), .val (.int (0 : Int32)), .val (.ref d), .val (.int (0 : Int32)), .val (.int (1 : Int32)), .val (.int (0 : Int32)), .unset] [(.int (0 : Int32)), (.ref c')]))) (fun _ k => XS.iloadN X0.here hx rfl (hb hby own_d_jdk_52_method_21_code_11) rfl k) ?_
  refine OGoal.mp (S' := (s₁.setTop (mkF m 13 #[.val (.ref c'), .val (.int (0 : Int32)), .val (.ref d), .val (.int (0 : Int32)), .val (.int (1 : Int32)), .val (.int (0 : Int32)), .unset] [(.int (f 0))]))) (fun _ k => oLdC X0 hx hZ e0 Ac (by decide) (by decide) rfl (g := mkF m 12 #[.val (.ref c'), .val (.int (0 : Int32)), .val (.ref d), .val (.int (0 : Int32)), .val (.int (1 : Int32)), .val (.int (0 : Int32)), .unset] [(.int (0 : Int32)), (.ref c')]) rfl rfl (hb hby own_d_jdk_52_method_21_code_12) k) ?_
  refine OGoal.mp (S' := (s₁.setTop (mkF m 15 #[.val (.ref c'), .val (.int (0 : Int32)), .val (.ref d), .val (.int (0 : Int32)), .val (.int (1 : Int32)), .val (.int (0 : Int32)), .val (.int (f 0))] []))) (fun _ k => XS.istore X0.here hx rfl (hb hby own_d_jdk_52_method_21_code_13) rfl (l' := #[.val (.ref c'), .val (.int (0 : Int32)), .val (.ref d), .val (.int (0 : Int32)), .val (.int (1 : Int32)), .val (.int (0 : Int32)), .val (.int (f 0))]) rfl k) ?_
  refine OGoal.mp (S' := (s₁.setTop (mkF m 17 #[.val (.ref c'), .val (.int (0 : Int32)), .val (.ref d), .val (.int (0 : Int32)), .val (.int (1 : Int32)), .val (.int (0 : Int32)), .val (.int (f 0))] [(.int (f 0))]))) (fun _ k => XS.iload X0.here hx rfl (hb hby own_d_jdk_52_method_21_code_15) rfl k) ?_
  refine OGoal.mp (S' := (s₁.setTop (mkF m 20 #[.val (.ref c'), .val (.int (0 : Int32)), .val (.ref d), .val (.int (0 : Int32)), .val (.int (1 : Int32)), .val (.int (0 : Int32)), .val (.int (f 0))] [(.int (255 : Int32)), (.int (f 0))]))) (fun _ k => XS.sipush X0.here hx rfl (hb hby own_d_jdk_52_method_21_code_17) k) ?_
  refine OGoal.mp (S' := (s₁.setTop (mkF m 26 #[.val (.ref c'), .val (.int (0 : Int32)), .val (.ref d), .val (.int (0 : Int32)), .val (.int (1 : Int32)), .val (.int (0 : Int32)), .val (.int (f 0))] []))) (fun _ k => XS.icmpYes X0.here hx rfl (pc0 := 20) (pc' := 26) rfl (hb hby own_d_jdk_52_method_21_code_20) rfl (XT.ii_le_t (hL.n _)) (by decide) (by decide) k) ?_
  refine OGoal.mp (S' := (s₁.setTop (mkF m 27 #[.val (.ref c'), .val (.int (0 : Int32)), .val (.ref d), .val (.int (0 : Int32)), .val (.int (1 : Int32)), .val (.int (0 : Int32)), .val (.int (f 0))] [(.ref d)]))) (fun _ k => XS.aloadN X0.here hx rfl (hb hby own_d_jdk_52_method_21_code_26) rfl rfl k) ?_
  refine OGoal.mp (S' := (s₁.setTop (mkF m 28 #[.val (.ref c'), .val (.int (0 : Int32)), .val (.ref d), .val (.int (0 : Int32)), .val (.int (1 : Int32)), .val (.int (0 : Int32)), .val (.int (f 0))] [(.int (0 : Int32)), (.ref d)]))) (fun _ k => XS.iloadN X0.here hx rfl (hb hby own_d_jdk_52_method_21_code_27) rfl k) ?_
  refine OGoal.mp (S' := (s₁.setTop (mkF m 30 #[.val (.ref c'), .val (.int (0 : Int32)), .val (.ref d), .val (.int (0 : Int32)), .val (.int (1 : Int32)), .val (.int (0 : Int32)), .val (.int (f 0))] [(.int (f 0)), (.int (0 : Int32)), (.ref d)]))) (fun _ k => XS.iload X0.here hx rfl (hb hby own_d_jdk_52_method_21_code_28) rfl k) ?_
  refine OGoal.mp (S' := (s₁.setTop (mkF m 31 #[.val (.ref c'), .val (.int (0 : Int32)), .val (.ref d), .val (.int (0 : Int32)), .val (.int (1 : Int32)), .val (.int (0 : Int32)), .val (.int (f 0))] [(.int (((f 0)).toInt8.toInt32)), (.int (0 : Int32)), (.ref d)]))) (fun _ k => XT.i2b X0.here hx rfl (hb hby own_d_jdk_52_method_21_code_30) rfl k) ?_
  obtain ⟨T1, h5, X2, e3, W6, st4⟩ := oStB X0 hx hZ e0 Ad (by decide) (by decide) (oNarBB _) (g := mkF m 31 #[.val (.ref c'), .val (.int (0 : Int32)), .val (.ref d), .val (.int (0 : Int32)), .val (.int (1 : Int32)), .val (.int (0 : Int32)), .val (.int (f 0))] [(.int (((f 0)).toInt8.toInt32)), (.int (0 : Int32)), (.ref d)]) rfl rfl (hb hby own_d_jdk_52_method_21_code_31)
  have N7 := Fr.snoc X2 (Fr.nil n0) ab
  have K8 : Keep h0 h5 [d] := (Keep.refl h0 [d]).wr W6 (Or.inl (by simp))
  have F9 := St.wr W6
  have F10 := Ac.other W6 ncd
  have F11 : OArr Z h5 d .byte (1 : Int32) (fun i => if i = ((0 : Int32)).toNatClampNeg then (.int (((f 0)).toInt8.toInt32)) else (fun _ => .int 0) i : Nat → Value) := Ad.set W6
  have Z12 : n0 ≤ h5.size := Nat.le_trans Z0 (Keep.of_wr W6).1
  refine OGoal.mp (S' := (T1.setTop (mkF m 32 #[.val (.ref c'), .val (.int (0 : Int32)), .val (.ref d), .val (.int (0 : Int32)), .val (.int (1 : Int32)), .val (.int (0 : Int32)), .val (.int (f 0))] []))) (fun _ k => st4 _ k) ?_
  refine OGoal.mp (S' := (T1.setTop (mkF m 35 #[.val (.ref c'), .val (.int ((0 : Int32) + (1 : Int32))), .val (.ref d), .val (.int (0 : Int32)), .val (.int (1 : Int32)), .val (.int (0 : Int32)), .val (.int (f 0))] []))) (fun _ k => XT.iincV X2.here hx rfl (1 : Int32) (hb hby own_d_jdk_52_method_21_code_32) rfl rfl (l' := #[.val (.ref c'), .val (.int ((0 : Int32) + (1 : Int32))), .val (.ref d), .val (.int (0 : Int32)), .val (.int (1 : Int32)), .val (.int (0 : Int32)), .val (.int (f 0))]) rfl k) ?_
  rw [show ((0 : Int32) + (1 : Int32)) = (1 : Int32) by decide]
  show OGoal p e below s _ _ _ (T1.setTop (mkF m 35 #[.val (.ref c'), .val (.int (1 : Int32)), .val (.ref d), .val (.int (0 : Int32)), .val (.int (1 : Int32)), .val (.int (0 : Int32)), .val (.int (f 0))] []))
  refine OGoal.mp (S' := (T1.setTop (mkF m 38 #[.val (.ref c'), .val (.int (1 : Int32)), .val (.ref d), .val (.int ((0 : Int32) + (1 : Int32))), .val (.int (1 : Int32)), .val (.int (0 : Int32)), .val (.int (f 0))] []))) (fun _ k => XT.iincV X2.here hx rfl (1 : Int32) (hb hby own_d_jdk_52_method_21_code_35) rfl rfl (l' := #[.val (.ref c'), .val (.int (1 : Int32)), .val (.ref d), .val (.int ((0 : Int32) + (1 : Int32))), .val (.int (1 : Int32)), .val (.int (0 : Int32)), .val (.int (f 0))]) rfl k) ?_
  rw [show ((0 : Int32) + (1 : Int32)) = (1 : Int32) by decide]
  show OGoal p e below s _ _ _ (T1.setTop (mkF m 38 #[.val (.ref c'), .val (.int (1 : Int32)), .val (.ref d), .val (.int (1 : Int32)), .val (.int (1 : Int32)), .val (.int (0 : Int32)), .val (.int (f 0))] []))
  refine OGoal.mp (S' := (T1.setTop (mkF m 41 #[.val (.ref c'), .val (.int (1 : Int32)), .val (.ref d), .val (.int (1 : Int32)), .val (.int (1 : Int32)), .val (.int ((0 : Int32) + (1 : Int32))), .val (.int (f 0))] []))) (fun _ k => XT.iincV X2.here hx rfl (1 : Int32) (hb hby own_d_jdk_52_method_21_code_38) rfl rfl (l' := #[.val (.ref c'), .val (.int (1 : Int32)), .val (.ref d), .val (.int (1 : Int32)), .val (.int (1 : Int32)), .val (.int ((0 : Int32) + (1 : Int32))), .val (.int (f 0))]) rfl k) ?_
  rw [show ((0 : Int32) + (1 : Int32)) = (1 : Int32) by decide]
  show OGoal p e below s _ _ _ (T1.setTop (mkF m 41 #[.val (.ref c'), .val (.int (1 : Int32)), .val (.ref d), .val (.int (1 : Int32)), .val (.int (1 : Int32)), .val (.int (1 : Int32)), .val (.int (f 0))] []))
  refine OGoal.mp (S' := (T1.setTop (mkF m 3 #[.val (.ref c'), .val (.int (1 : Int32)), .val (.ref d), .val (.int (1 : Int32)), .val (.int (1 : Int32)), .val (.int (1 : Int32)), .val (.int (f 0))] []))) (fun _ k => XS.goto X2.here hx rfl (pc0 := 41) (pc' := 3) rfl (hb hby own_d_jdk_52_method_21_code_41) (by decide) (by decide) k) ?_
  refine OGoal.mp (S' := (T1.setTop (mkF m 5 #[.val (.ref c'), .val (.int (1 : Int32)), .val (.ref d), .val (.int (1 : Int32)), .val (.int (1 : Int32)), .val (.int (1 : Int32)), .val (.int (f 0))] [(.int (1 : Int32))]))) (fun _ k => XS.iload X2.here hx rfl (hb hby own_d_jdk_52_method_21_code_3) rfl k) ?_
  refine OGoal.mp (S' := (T1.setTop (mkF m 7 #[.val (.ref c'), .val (.int (1 : Int32)), .val (.ref d), .val (.int (1 : Int32)), .val (.int (1 : Int32)), .val (.int (1 : Int32)), .val (.int (f 0))] [(.int (1 : Int32)), (.int (1 : Int32))]))) (fun _ k => XS.iload X2.here hx rfl (hb hby own_d_jdk_52_method_21_code_5) rfl k) ?_
  refine OGoal.mp (S' := (T1.setTop (mkF m 44 #[.val (.ref c'), .val (.int (1 : Int32)), .val (.ref d), .val (.int (1 : Int32)), .val (.int (1 : Int32)), .val (.int (1 : Int32)), .val (.int (f 0))] []))) (fun _ k => XS.icmpYes X2.here hx rfl (pc0 := 7) (pc' := 44) rfl (hb hby own_d_jdk_52_method_21_code_7) rfl (XT.ii_ge_t (by decide)) (by decide) (by decide) k) ?_
  refine OGoal.mp (S' := (T1.setTop (mkF m 46 #[.val (.ref c'), .val (.int (1 : Int32)), .val (.ref d), .val (.int (1 : Int32)), .val (.int (1 : Int32)), .val (.int (1 : Int32)), .val (.int (f 0))] [(.int (1 : Int32))]))) (fun _ k => XS.iload X2.here hx rfl (hb hby own_d_jdk_52_method_21_code_44) rfl k) ?_
  refine oRetI X2 hx hlk hret (hb hby own_d_jdk_52_method_21_code_46) ?_ (by decide) (by decide)
  rw [e3]; exact ⟨rfl, N7, K8, F9, _, F11⟩
theorem own_d_jdk_52_method_16_code_0 : decode jdk_52_method_16_code 0 = .ok (.iload_n 2, 1) := by decide +kernel
theorem own_d_jdk_52_method_16_code_1 : decode jdk_52_method_16_code 1 = .ok (.newarray .byte, 2) := by decide +kernel
theorem own_d_jdk_52_method_16_code_3 : decode jdk_52_method_16_code 3 = .ok (.astore_n 3, 1) := by decide +kernel
theorem own_d_jdk_52_method_16_code_4 : decode jdk_52_method_16_code 4 = .ok (.aload_n 0, 1) := by decide +kernel
theorem own_d_jdk_52_method_16_code_5 : decode jdk_52_method_16_code 5 = .ok (.iload_n 1, 1) := by decide +kernel
theorem own_d_jdk_52_method_16_code_6 : decode jdk_52_method_16_code 6 = .ok (.aload_n 3, 1) := by decide +kernel
theorem own_d_jdk_52_method_16_code_7 : decode jdk_52_method_16_code 7 = .ok (.iconst 0, 1) := by decide +kernel
theorem own_d_jdk_52_method_16_code_8 : decode jdk_52_method_16_code 8 = .ok (.iload_n 2, 1) := by decide +kernel
theorem own_d_jdk_52_method_16_code_9 : decode jdk_52_method_16_code 9 = .ok (.invokestatic 115, 3) := by decide +kernel
theorem own_pd___CI_BII_I : parseMethodDescriptor "([CI[BII)I" = some ⟨[(.array .char), .int, (.array .byte), .int, .int], some .int⟩ := by decide +kernel
theorem own_d_jdk_52_method_16_code_12 : decode jdk_52_method_16_code 12 = .ok (.istore 4, 2) := by decide +kernel
theorem own_d_jdk_52_method_16_code_14 : decode jdk_52_method_16_code 14 = .ok (.iload 4, 2) := by decide +kernel
theorem own_d_jdk_52_method_16_code_16 : decode jdk_52_method_16_code 16 = .ok (.iload_n 2, 1) := by decide +kernel
theorem own_d_jdk_52_method_16_code_17 : decode jdk_52_method_16_code 17 = .ok (.if_icmp .eq 40, 3) := by decide +kernel
theorem own_d_jdk_52_method_16_code_57 : decode jdk_52_method_16_code 57 = .ok (.aload_n 3, 1) := by decide +kernel
theorem own_d_jdk_52_method_16_code_58 : decode jdk_52_method_16_code 58 = .ok (.areturn, 1) := by decide +kernel
theorem own_ef_rmC2_1 (x0 : Addr) (x1 : Int32) (x2 : Int32) (m : MethodId) : entryFrame m #[(.ref x0), (.int x1), (.int x2)] 6 = mkF m 0 #[.val (.ref x0), .val (.int x1), .val (.int x2), .unset, .unset, .unset] [] := by first | (simp [entryFrame, mkF, argsToLocals, Value.category]; done) | rfl
set_option maxRecDepth 65536 in
set_option maxHeartbeats 40000000 in
theorem rmC2_1 (l : Launch) (Z : State) (a0 : Array Value) (hw : ∀ d ∈ tables_1, d.before a0 Z = true) (c' : Addr) (h0 : Heap) (n0 : Nat) (Z0 : n0 ≤ h0.size) (cs : Int32) (hcs : ¬ cs = 0) (St : Stt Z h0 cs) (f : Nat → Int32) (hL : Lt f) (Ac : OArr Z h0 c' .char (1 : Int32) (fun k => .int (f k))) :
    OCon l Z (⟨"java/lang/StringUTF16", "compress", "([CII)[B"⟩ : MethodName) jdk_52_method_16_code 6 (some (.array .byte)) ({ frames := 1, cells := 1, slots := 1, locals := 18 } : Room) #[(.ref c'), (.int (0 : Int32)), (.int (1 : Int32))] h0 (fun v h L => ∃ r gf, v = some (.ref r) ∧ Fr n0 L ∧ Keep h0 h [] ∧ Stt Z h cs ∧ h0.size ≤ r ∧ OArr Z h r .byte (1 : Int32) gf) := by
  refine OConK.intro (y := (⟨"java/lang/StringUTF16", "compress", "([CII)[B"⟩ : MethodName)) (plainFor_of_name own_pn_java_lang_StringUTF16) (own_ef_rmC2_1 c' (0 : Int32) (1 : Int32)) ?_
  intro p e s m below meth c s₁ hx hby hml hown hnm hret hlk hZ X0 e0
  show OGoal p e below s _ _ _ (s₁.setTop (mkF m 0 #[.val (.ref c'), .val (.int (0 : Int32)), .val (.int (1 : Int32)), .unset, .unset, .unset] []))
  refine OGoal.mp (S' := (s₁.setTop (mkF m 1 #[.val (.ref c'), .val (.int (0 : Int32)), .val (.int (1 : Int32)), .unset, .unset, .unset] [(.int (1 : Int32))]))) (fun _ k => XS.iloadN X0.here hx rfl (hb hby own_d_jdk_52_method_16_code_0) rfl k) ?_
  obtain ⟨T1, h5, c8, X2, e3, E6, A7, XA11, st4⟩ := newPE X0 hx hZ (hw _ (List.mem_of_getElem? (i := 19) rfl)) e0 (g := mkF m 1 #[.val (.ref c'), .val (.int (0 : Int32)), .val (.int (1 : Int32)), .unset, .unset, .unset] [(.int (1 : Int32))]) rfl (hb hby own_d_jdk_52_method_16_code_1) rfl (by decide) (cap := 1) (by decide) (by decide) (by decide) (by decide) (ad := "[B") (by rfl)
  obtain ⟨a9, g10⟩ : ∃ z, z = h0.size := ⟨_, rfl⟩
  rw [← g10] at A7 XA11 st4
  have lt12 : c' < a9 := by rw [g10]; exact Ac.lt
  have fr13 : h0.size ≤ a9 := by rw [g10]; exact (Keep.refl h0 []).1
  have K14 : Keep h0 h5 [] := (Keep.refl h0 []).ext E6
  have F15 := St.ext E6
  have F16 := Ac.ext E6
  have F17 : OArr Z h5 a9 .byte (1 : Int32) (fun _ => .int 0 : Nat → Value) := OArr.new A7 (by decide)
  have Z18 : n0 ≤ h5.size := Nat.le_trans Z0 E6.1
  have ab19 : n0 ≤ a9 := Nat.le_trans Z0 (Nat.le_of_eq g10.symm)
  refine OGoal.mp (S' := (T1.setTop (mkF m 3 #[.val (.ref c'), .val (.int (0 : Int32)), .val (.int (1 : Int32)), .unset, .unset, .unset] [(.ref a9)]))) (fun _ k => st4 _ k) ?_
  refine OGoal.mp (S' := (T1.setTop (mkF m 4 #[.val (.ref c'), .val (.int (0 : Int32)), .val (.int (1 : Int32)), .val (.ref a9), .unset, .unset] []))) (fun _ k => XS.astoreN X2.here hx rfl (hb hby own_d_jdk_52_method_16_code_3) rfl rfl (l' := #[.val (.ref c'), .val (.int (0 : Int32)), .val (.int (1 : Int32)), .val (.ref a9), .unset, .unset]) rfl k) ?_
  refine OGoal.mp (S' := (T1.setTop (mkF m 5 #[.val (.ref c'), .val (.int (0 : Int32)), .val (.int (1 : Int32)), .val (.ref a9), .unset, .unset] [(.ref c')]))) (fun _ k => XS.aloadN X2.here hx rfl (hb hby own_d_jdk_52_method_16_code_4) rfl rfl k) ?_
  refine OGoal.mp (S' := (T1.setTop (mkF m 6 #[.val (.ref c'), .val (.int (0 : Int32)), .val (.int (1 : Int32)), .val (.ref a9), .unset, .unset] [(.int (0 : Int32)), (.ref c')]))) (fun _ k => XS.iloadN X2.here hx rfl (hb hby own_d_jdk_52_method_16_code_5) rfl k) ?_
  refine OGoal.mp (S' := (T1.setTop (mkF m 7 #[.val (.ref c'), .val (.int (0 : Int32)), .val (.int (1 : Int32)), .val (.ref a9), .unset, .unset] [(.ref a9), (.int (0 : Int32)), (.ref c')]))) (fun _ k => XS.aloadN X2.here hx rfl (hb hby own_d_jdk_52_method_16_code_6) rfl rfl k) ?_
  refine OGoal.mp (S' := (T1.setTop (mkF m 8 #[.val (.ref c'), .val (.int (0 : Int32)), .val (.int (1 : Int32)), .val (.ref a9), .unset, .unset] [(.int (0 : Int32)), (.ref a9), (.int (0 : Int32)), (.ref c')]))) (fun _ k => XS.iconst X2.here hx rfl (hb hby own_d_jdk_52_method_16_code_7) k) ?_
  refine OGoal.mp (S' := (T1.setTop (mkF m 9 #[.val (.ref c'), .val (.int (0 : Int32)), .val (.int (1 : Int32)), .val (.ref a9), .unset, .unset] [(.int (1 : Int32)), (.int (0 : Int32)), (.ref a9), (.int (0 : Int32)), (.ref c')]))) (fun _ k => XS.iloadN X2.here hx rfl (hb hby own_d_jdk_52_method_16_code_8) rfl k) ?_
  refine oCallS (y := (⟨"java/lang/StringUTF16", "compress", "([CI[BII)I"⟩ : MethodName)) X2 hx hZ hown (hw _ (List.mem_of_getElem? (i := 68) rfl)) (hw _ (List.mem_of_getElem? (i := 69) rfl)) (hw _ (List.mem_of_getElem? (i := 66) rfl)) (hw _ (List.mem_of_getElem? (i := 70) rfl)) (by decide) (rmC1_1 l Z a0 hw c' a9 h5 n0 Z18 cs hcs F15 f hL F16 F17 (Nat.ne_of_lt lt12) ab19) e3 [(.ref c'), (.int (0 : Int32)), (.ref a9), (.int (0 : Int32)), (.int (1 : Int32))] [] rfl rfl (by rw [hml]; rfl) (lenOf own_pd___CI_BII_I rfl) 0 (Nat.le_of_eq rfl) (by decide) (by decide) (by decide) (by decide) (hb hby own_d_jdk_52_method_16_code_9) ?_
  intro v20 T21 L22 X23 q24
  obtain ⟨rfl, N25, K26, S27, gf28, A29⟩ := q24
  have N30 := Fr.app (Fr.nil n0) N25
  have K31 : Keep h0 T21.heap [] := K14.trans K26 (allS (Or.inr fr13) all0)
  have Z32 : n0 ≤ T21.heap.size := Nat.le_trans Z18 K26.1
  show OGoal p e below s _ _ _ (T21.setTop (mkF m 12 #[.val (.ref c'), .val (.int (0 : Int32)), .val (.int (1 : Int32)), .val (.ref a9), .unset, .unset] [(.int (1 : Int32))]))
  refine OGoal.mp (S' := (T21.setTop (mkF m 14 #[.val (.ref c'), .val (.int (0 : Int32)), .val (.int (1 : Int32)), .val (.ref a9), .val (.int (1 : Int32)), .unset] []))) (fun _ k => XS.istore X23.here hx rfl (hb hby own_d_jdk_52_method_16_code_12) rfl (l' := #[.val (.ref c'), .val (.int (0 : Int32)), .val (.int (1 : Int32)), .val (.ref a9), .val (.int (1 : Int32)), .unset]) rfl k) ?_
  refine OGoal.mp (S' := (T21.setTop (mkF m 16 #[.val (.ref c'), .val (.int (0 : Int32)), .val (.int (1 : Int32)), .val (.ref a9), .val (.int (1 : Int32)), .unset] [(.int (1 : Int32))]))) (fun _ k => XS.iload X23.here hx rfl (hb hby own_d_jdk_52_method_16_code_14) rfl k) ?_
  refine OGoal.mp (S' := (T21.setTop (mkF m 17 #[.val (.ref c'), .val (.int (0 : Int32)), .val (.int (1 : Int32)), .val (.ref a9), .val (.int (1 : Int32)), .unset] [(.int (1 : Int32)), (.int (1 : Int32))]))) (fun _ k => XS.iloadN X23.here hx rfl (hb hby own_d_jdk_52_method_16_code_16) rfl k) ?_
  refine OGoal.mp (S' := (T21.setTop (mkF m 57 #[.val (.ref c'), .val (.int (0 : Int32)), .val (.int (1 : Int32)), .val (.ref a9), .val (.int (1 : Int32)), .unset] []))) (fun _ k => XS.icmpYes X23.here hx rfl (pc0 := 17) (pc' := 57) rfl (hb hby own_d_jdk_52_method_16_code_17) rfl (XT.ii_eq_t (by decide)) (by decide) (by decide) k) ?_
  refine OGoal.mp (S' := (T21.setTop (mkF m 58 #[.val (.ref c'), .val (.int (0 : Int32)), .val (.int (1 : Int32)), .val (.ref a9), .val (.int (1 : Int32)), .unset] [(.ref a9)]))) (fun _ k => XS.aloadN X23.here hx rfl (hb hby own_d_jdk_52_method_16_code_57) rfl rfl k) ?_
  refine oRetA X23 hx hlk hret rfl rfl (hb hby own_d_jdk_52_method_16_code_58) ?_ (by decide) (by decide)
  exact ⟨a9, _, rfl, N30, K31, S27, fr13, A29⟩
theorem own_d_jdk_52_method_15_code_0 : decode jdk_52_method_15_code 0 = .ok (.iload_n 1, 1) := by decide +kernel
theorem own_d_jdk_52_method_15_code_1 : decode jdk_52_method_15_code 1 = .ok (.aload_n 0, 1) := by decide +kernel
theorem own_d_jdk_52_method_15_code_2 : decode jdk_52_method_15_code 2 = .ok (.arraylength, 1) := by decide +kernel
theorem own_d_jdk_52_method_15_code_3 : decode jdk_52_method_15_code 3 = .ok (.isub, 1) := by decide +kernel
theorem own_d_jdk_52_method_15_code_4 : decode jdk_52_method_15_code 4 = .ok (.bipush 31, 2) := by decide +kernel
theorem own_d_jdk_52_method_15_code_6 : decode jdk_52_method_15_code 6 = .ok (.iushr, 1) := by decide +kernel
theorem own_d_jdk_52_method_15_code_7 : decode jdk_52_method_15_code 7 = .ok (.i2b, 1) := by decide +kernel
theorem own_d_jdk_52_method_15_code_8 : decode jdk_52_method_15_code 8 = .ok (.ireturn, 1) := by decide +kernel
theorem own_ef_rmCF_1 (x0 : Addr) (x1 : Int32) (m : MethodId) : entryFrame m #[(.ref x0), (.int x1)] 2 = mkF m 0 #[.val (.ref x0), .val (.int x1)] [] := by first | (simp [entryFrame, mkF, argsToLocals, Value.category]; done) | rfl
set_option maxRecDepth 65536 in
set_option maxHeartbeats 40000000 in
theorem rmCF_1 (l : Launch) (Z : State) (a0 : Array Value) (hw : ∀ d ∈ tables_1, d.before a0 Z = true) (r : Addr) (h0 : Heap) (n0 : Nat) (Z0 : n0 ≤ h0.size) (gf : Nat → Value) (A : OArr Z h0 r .byte (1 : Int32) gf) :
    OCon l Z (⟨"java/lang/StringUTF16", "coderFromArrayLen", "([BI)B"⟩ : MethodName) jdk_52_method_15_code 2 (some .byte) ({ frames := 0, cells := 0, slots := 0, locals := 0 } : Room) #[(.ref r), (.int (1 : Int32))] h0 (fun v h L => v = some (.int (0 : Int32)) ∧ Fr n0 L ∧ h = h0) := by
  refine OConK.intro (y := (⟨"java/lang/StringUTF16", "coderFromArrayLen", "([BI)B"⟩ : MethodName)) (plainFor_of_name own_pn_java_lang_StringUTF16) (own_ef_rmCF_1 r (1 : Int32)) ?_
  intro p e s m below meth c s₁ hx hby hml hown hnm hret hlk hZ X0 e0
  show OGoal p e below s _ _ _ (s₁.setTop (mkF m 0 #[.val (.ref r), .val (.int (1 : Int32))] []))
  refine OGoal.mp (S' := (s₁.setTop (mkF m 1 #[.val (.ref r), .val (.int (1 : Int32))] [(.int (1 : Int32))]))) (fun _ k => XS.iloadN X0.here hx rfl (hb hby own_d_jdk_52_method_15_code_0) rfl k) ?_
  refine OGoal.mp (S' := (s₁.setTop (mkF m 2 #[.val (.ref r), .val (.int (1 : Int32))] [(.ref r), (.int (1 : Int32))]))) (fun _ k => XS.aloadN X0.here hx rfl (hb hby own_d_jdk_52_method_15_code_1) rfl rfl k) ?_
  refine OGoal.mp (S' := (s₁.setTop (mkF m 3 #[.val (.ref r), .val (.int (1 : Int32))] [(.int (1 : Int32)), (.int (1 : Int32))]))) (fun _ k => oLen X0 hx hZ e0 A (g := mkF m 2 #[.val (.ref r), .val (.int (1 : Int32))] [(.ref r), (.int (1 : Int32))]) rfl rfl (hb hby own_d_jdk_52_method_15_code_2) k) ?_
  refine OGoal.mp (S' := (s₁.setTop (mkF m 4 #[.val (.ref r), .val (.int (1 : Int32))] [(.int ((1 : Int32) - (1 : Int32)))]))) (fun _ k => XS.isub X0.here hx rfl (hb hby own_d_jdk_52_method_15_code_3) rfl k) ?_
  rw [show ((1 : Int32) - (1 : Int32)) = (0 : Int32) by decide]
  show OGoal p e below s _ _ _ (s₁.setTop (mkF m 4 #[.val (.ref r), .val (.int (1 : Int32))] [(.int (0 : Int32))]))
  refine OGoal.mp (S' := (s₁.setTop (mkF m 6 #[.val (.ref r), .val (.int (1 : Int32))] [(.int (31 : Int32)), (.int (0 : Int32))]))) (fun _ k => XS.bipush X0.here hx rfl (hb hby own_d_jdk_52_method_15_code_4) k) ?_
  refine OGoal.mp (S' := (s₁.setTop (mkF m 7 #[.val (.ref r), .val (.int (1 : Int32))] [(.int (XT.ushr (0 : Int32) (31 : Int32)))]))) (fun _ k => XT.iushr X0.here hx rfl (hb hby own_d_jdk_52_method_15_code_6) rfl k) ?_
  rw [show (XT.ushr (0 : Int32) (31 : Int32)) = (0 : Int32) by decide]
  show OGoal p e below s _ _ _ (s₁.setTop (mkF m 7 #[.val (.ref r), .val (.int (1 : Int32))] [(.int (0 : Int32))]))
  refine OGoal.mp (S' := (s₁.setTop (mkF m 8 #[.val (.ref r), .val (.int (1 : Int32))] [(.int (((0 : Int32)).toInt8.toInt32))]))) (fun _ k => XT.i2b X0.here hx rfl (hb hby own_d_jdk_52_method_15_code_7) rfl k) ?_
  rw [show (((0 : Int32)).toInt8.toInt32) = (0 : Int32) by decide]
  show OGoal p e below s _ _ _ (s₁.setTop (mkF m 8 #[.val (.ref r), .val (.int (1 : Int32))] [(.int (0 : Int32))]))
  refine oRetB X0 hx hlk hret (by decide) (hb hby own_d_jdk_52_method_15_code_8) ?_ (by decide) (by decide)
  exact ⟨rfl, (Fr.nil n0), e0⟩
theorem own_d_jdk_42_method_149_code_27 : decode jdk_42_method_149_code 27 = .ok (.getstatic 38, 3) := by decide +kernel
theorem own_d_jdk_42_method_149_code_30 : decode jdk_42_method_149_code 30 = .ok (.ifCond .eq 28, 3) := by decide +kernel
theorem own_d_jdk_42_method_149_code_33 : decode jdk_42_method_149_code 33 = .ok (.aload_n 1, 1) := by decide +kernel
theorem own_d_jdk_42_method_149_code_34 : decode jdk_42_method_149_code 34 = .ok (.iload_n 2, 1) := by decide +kernel
theorem own_d_jdk_42_method_149_code_35 : decode jdk_42_method_149_code 35 = .ok (.iload_n 3, 1) := by decide +kernel
theorem own_d_jdk_42_method_149_code_36 : decode jdk_42_method_149_code 36 = .ok (.invokestatic 177, 3) := by decide +kernel
theorem own_pd___CII__B : parseMethodDescriptor "([CII)[B" = some ⟨[(.array .char), .int, .int], some (.array .byte)⟩ := by decide +kernel
theorem own_d_jdk_42_method_149_code_39 : decode jdk_42_method_149_code 39 = .ok (.astore 5, 2) := by decide +kernel
theorem own_d_jdk_42_method_149_code_41 : decode jdk_42_method_149_code 41 = .ok (.aload_n 0, 1) := by decide +kernel
theorem own_d_jdk_42_method_149_code_42 : decode jdk_42_method_149_code 42 = .ok (.aload 5, 2) := by decide +kernel
theorem own_d_jdk_42_method_149_code_44 : decode jdk_42_method_149_code 44 = .ok (.iload_n 3, 1) := by decide +kernel
theorem own_d_jdk_42_method_149_code_45 : decode jdk_42_method_149_code 45 = .ok (.invokestatic 47, 3) := by decide +kernel
theorem own_pd___BI_B : parseMethodDescriptor "([BI)B" = some ⟨[(.array .byte), .int], some .byte⟩ := by decide +kernel
theorem own_d_jdk_42_method_149_code_48 : decode jdk_42_method_149_code 48 = .ok (.putfield 15, 3) := by decide +kernel
theorem own_d_jdk_42_method_149_code_51 : decode jdk_42_method_149_code 51 = .ok (.aload_n 0, 1) := by decide +kernel
theorem own_d_jdk_42_method_149_code_52 : decode jdk_42_method_149_code 52 = .ok (.aload 5, 2) := by decide +kernel
theorem own_d_jdk_42_method_149_code_54 : decode jdk_42_method_149_code 54 = .ok (.putfield 9, 3) := by decide +kernel
theorem own_d_jdk_42_method_149_code_57 : decode jdk_42_method_149_code 57 = .ok (.return_, 1) := by decide +kernel
theorem own_ef_rmSI_1 (x0 : Addr) (x1 : Addr) (x2 : Int32) (x3 : Int32) (m : MethodId) : entryFrame m #[(.ref x0), (.ref x1), (.int x2), (.int x3), .null] 6 = mkF m 0 #[.val (.ref x0), .val (.ref x1), .val (.int x2), .val (.int x3), .val .null, .unset] [] := by first | (simp [entryFrame, mkF, argsToLocals, Value.category]; done) | rfl
set_option maxRecDepth 65536 in
set_option maxHeartbeats 40000000 in
theorem rmSI_1 (l : Launch) (Z : State) (a0 : Array Value) (hw : ∀ d ∈ tables_1, d.before a0 Z = true) (a c' : Addr) (h0 : Heap) (n0 : Nat) (Z0 : n0 ≤ h0.size) (cs : Int32) (hcs : ¬ cs = 0) (St : Stt Z h0 cs) (f : Nat → Int32) (hL : Lt f) (Ac : OArr Z h0 c' .char (1 : Int32) (fun k => .int (f k))) (E : Exa Z h0 a "java/lang/String") (Fv : Fld Z h0 a "java/lang/String" "value" "[B" .null) (Fc : Fld Z h0 a "java/lang/String" "coder" "B" (.int (0 : Int32))) (ab : n0 ≤ a) :
    OCon l Z (⟨"java/lang/String", "<init>", "([CIILjava/lang/Void;)V"⟩ : MethodName) jdk_42_method_149_code 6 none ({ frames := 2, cells := 1, slots := 1, locals := 35 } : Room) #[(.ref a), (.ref c'), (.int (0 : Int32)), (.int (1 : Int32)), .null] h0 (fun v h L => v = none ∧ Fr n0 L ∧ Keep h0 h [a] ∧ Stt Z h cs ∧ StrN Z h a (1 : Int32)) := by
  refine OConK.intro (y := (⟨"java/lang/String", "<init>", "([CIILjava/lang/Void;)V"⟩ : MethodName)) (plainFor_of_name own_pn_java_lang_String) (own_ef_rmSI_1 a c' (0 : Int32) (1 : Int32)) ?_
  intro p e s m below meth c s₁ hx hby hml hown hnm hret hlk hZ X0 e0
  show OGoal p e below s _ _ _ (s₁.setTop (mkF m 0 #[.val (.ref a), .val (.ref c'), .val (.int (0 : Int32)), .val (.int (1 : Int32)), .val .null, .unset] []))
  refine OGoal.mp (S' := (s₁.setTop (mkF m 1 #[.val (.ref a), .val (.ref c'), .val (.int (0 : Int32)), .val (.int (1 : Int32)), .val .null, .unset] [(.ref a)]))) (fun _ k => XS.aloadN X0.here hx rfl (hb hby own_d_jdk_42_method_149_code_0) rfl rfl k) ?_
  obtain ⟨T1, X2, e3, st4⟩ := initO X0 hx hZ hown (hw _ (List.mem_of_getElem? (i := 15) rfl)) (hw _ (List.mem_of_getElem? (i := 16) rfl)) (hw _ (List.mem_of_getElem? (i := 17) rfl)) e0 (g := mkF m 1 #[.val (.ref a), .val (.ref c'), .val (.int (0 : Int32)), .val (.int (1 : Int32)), .val .null, .unset] [(.ref a)]) rfl (by rw [hml]; rfl) rfl (hb hby own_d_jdk_42_method_149_code_1) (by decide) (W := 0) (by show 2 * 0 + _ ≤ _; exact Nat.le_of_eq rfl) (by decide)
  refine OGoal.mp (S' := (T1.setTop (mkF m 4 #[.val (.ref a), .val (.ref c'), .val (.int (0 : Int32)), .val (.int (1 : Int32)), .val .null, .unset] []))) (fun _ k => st4 _ k) ?_
  refine OGoal.mp (S' := (T1.setTop (mkF m 5 #[.val (.ref a), .val (.ref c'), .val (.int (0 : Int32)), .val (.int (1 : Int32)), .val .null, .unset] [(.int (1 : Int32))]))) (fun _ k => XS.iloadN X2.here hx rfl (hb hby own_d_jdk_42_method_149_code_4) rfl k) ?_
  refine OGoal.mp (S' := (T1.setTop (mkF m 27 #[.val (.ref a), .val (.ref c'), .val (.int (0 : Int32)), .val (.int (1 : Int32)), .val .null, .unset] []))) (fun _ k => XS.ifYes X2.here hx rfl (pc0 := 5) (pc' := 27) rfl (hb hby own_d_jdk_42_method_149_code_5) rfl (XT.i0_ne_t (by decide)) (by decide) (by decide) k) ?_
  obtain ⟨T5, X6, e7, st8⟩ := getS X2 hx hZ hown (host := "") (hw _ (List.mem_of_getElem? (i := 53) rfl)) Via.refl e3 St (g := mkF m 27 #[.val (.ref a), .val (.ref c'), .val (.int (0 : Int32)), .val (.int (1 : Int32)), .val .null, .unset] []) rfl (hb hby own_d_jdk_42_method_149_code_27)
  refine OGoal.mp (S' := (T5.setTop (mkF m 30 #[.val (.ref a), .val (.ref c'), .val (.int (0 : Int32)), .val (.int (1 : Int32)), .val .null, .unset] [(.int cs)]))) (fun _ k => st8 _ k) ?_
  refine OGoal.mp (S' := (T5.setTop (mkF m 33 #[.val (.ref a), .val (.ref c'), .val (.int (0 : Int32)), .val (.int (1 : Int32)), .val .null, .unset] []))) (fun _ k => XS.ifNo X6.here hx rfl (hb hby own_d_jdk_42_method_149_code_30) rfl (XT.i0_eq_f hcs) k) ?_
  refine OGoal.mp (S' := (T5.setTop (mkF m 34 #[.val (.ref a), .val (.ref c'), .val (.int (0 : Int32)), .val (.int (1 : Int32)), .val .null, .unset] [(.ref c')]))) (fun _ k => XS.aloadN X6.here hx rfl (hb hby own_d_jdk_42_method_149_code_33) rfl rfl k) ?_
  refine OGoal.mp (S' := (T5.setTop (mkF m 35 #[.val (.ref a), .val (.ref c'), .val (.int (0 : Int32)), .val (.int (1 : Int32)), .val .null, .unset] [(.int (0 : Int32)), (.ref c')]))) (fun _ k => XS.iloadN X6.here hx rfl (hb hby own_d_jdk_42_method_149_code_34) rfl k) ?_
  refine OGoal.mp (S' := (T5.setTop (mkF m 36 #[.val (.ref a), .val (.ref c'), .val (.int (0 : Int32)), .val (.int (1 : Int32)), .val .null, .unset] [(.int (1 : Int32)), (.int (0 : Int32)), (.ref c')]))) (fun _ k => XS.iloadN X6.here hx rfl (hb hby own_d_jdk_42_method_149_code_35) rfl k) ?_
  refine oCallS (y := (⟨"java/lang/StringUTF16", "compress", "([CII)[B"⟩ : MethodName)) X6 hx hZ hown (hw _ (List.mem_of_getElem? (i := 64) rfl)) (hw _ (List.mem_of_getElem? (i := 65) rfl)) (hw _ (List.mem_of_getElem? (i := 66) rfl)) (hw _ (List.mem_of_getElem? (i := 67) rfl)) (by decide) (rmC2_1 l Z a0 hw c' h0 n0 Z0 cs hcs St f hL Ac) e7 [(.ref c'), (.int (0 : Int32)), (.int (1 : Int32))] [] rfl rfl (by rw [hml]; rfl) (lenOf own_pd___CII__B rfl) 0 (Nat.le_of_eq rfl) (by decide) (by decide) (by decide) (by decide) (hb hby own_d_jdk_42_method_149_code_36) ?_
  intro v11 T12 L13 X14 q15
  obtain ⟨r9, gf10, rfl, N16, K17, S18, hr19, A20⟩ := q15
  have N21 := Fr.app (Fr.nil n0) N16
  have lt22 : a < r9 := Nat.lt_of_lt_of_le E.lt hr19
  have F23 := E.keep K17
  have F24 := Fv.keep K17 nin0
  have F25 := Fc.keep K17 nin0
  have K26 : Keep h0 T12.heap [a] := (Keep.refl h0 [a]).trans K17 (fun x q => nomatch q)
  have Z27 : n0 ≤ T12.heap.size := Nat.le_trans Z0 K17.1
  show OGoal p e below s _ _ _ (T12.setTop (mkF m 39 #[.val (.ref a), .val (.ref c'), .val (.int (0 : Int32)), .val (.int (1 : Int32)), .val .null, .unset] [(.ref r9)]))
  refine OGoal.mp (S' := (T12.setTop (mkF m 41 #[.val (.ref a), .val (.ref c'), .val (.int (0 : Int32)), .val (.int (1 : Int32)), .val .null, .val (.ref r9)] []))) (fun _ k => XS.astore X14.here hx rfl (hb hby own_d_jdk_42_method_149_code_39) rfl rfl (l' := #[.val (.ref a), .val (.ref c'), .val (.int (0 : Int32)), .val (.int (1 : Int32)), .val .null, .val (.ref r9)]) rfl k) ?_
  refine OGoal.mp (S' := (T12.setTop (mkF m 42 #[.val (.ref a), .val (.ref c'), .val (.int (0 : Int32)), .val (.int (1 : Int32)), .val .null, .val (.ref r9)] [(.ref a)]))) (fun _ k => XS.aloadN X14.here hx rfl (hb hby own_d_jdk_42_method_149_code_41) rfl rfl k) ?_
  refine OGoal.mp (S' := (T12.setTop (mkF m 44 #[.val (.ref a), .val (.ref c'), .val (.int (0 : Int32)), .val (.int (1 : Int32)), .val .null, .val (.ref r9)] [(.ref r9), (.ref a)]))) (fun _ k => XS.aload X14.here hx rfl (hb hby own_d_jdk_42_method_149_code_42) rfl rfl k) ?_
  refine OGoal.mp (S' := (T12.setTop (mkF m 45 #[.val (.ref a), .val (.ref c'), .val (.int (0 : Int32)), .val (.int (1 : Int32)), .val .null, .val (.ref r9)] [(.int (1 : Int32)), (.ref r9), (.ref a)]))) (fun _ k => XS.iloadN X14.here hx rfl (hb hby own_d_jdk_42_method_149_code_44) rfl k) ?_
  refine oCallS (y := (⟨"java/lang/StringUTF16", "coderFromArrayLen", "([BI)B"⟩ : MethodName)) X14 hx hZ hown (hw _ (List.mem_of_getElem? (i := 71) rfl)) (hw _ (List.mem_of_getElem? (i := 72) rfl)) (hw _ (List.mem_of_getElem? (i := 66) rfl)) (hw _ (List.mem_of_getElem? (i := 73) rfl)) (by decide) (rmCF_1 l Z a0 hw r9 T12.heap n0 Z27 _ A20) rfl [(.ref r9), (.int (1 : Int32))] [(.ref a)] rfl rfl (by rw [hml]; rfl) (lenOf own_pd___BI_B rfl) 1 (Nat.le_of_eq rfl) (by decide) (by decide) (by decide) (by decide) (hb hby own_d_jdk_42_method_149_code_45) ?_
  intro v28 T29 L30 X31 q32
  obtain ⟨rfl, N33, e34⟩ := q32
  have N35 := Fr.app N21 N33
  show OGoal p e below s _ _ _ (T29.setTop (mkF m 48 #[.val (.ref a), .val (.ref c'), .val (.int (0 : Int32)), .val (.int (1 : Int32)), .val .null, .val (.ref r9)] [(.int (0 : Int32)), (.ref a)]))
  obtain ⟨T36, h40, X37, e38, W41, st39⟩ := putF X31 hx hZ hown (host := "") (Or.inl (hw _ (List.mem_of_getElem? (i := 25) rfl))) Via.refl e34 F25 F23 (Or.inr ⟨(hw _ (List.mem_of_getElem? (i := 21) rfl)), rfl, hnm⟩) (hw _ (List.mem_of_getElem? (i := 6) rfl)) (ty := .byte) (by decide) rfl rfl (g := mkF m 48 #[.val (.ref a), .val (.ref c'), .val (.int (0 : Int32)), .val (.int (1 : Int32)), .val .null, .val (.ref r9)] [(.int (0 : Int32)), (.ref a)]) rfl rfl (hb hby own_d_jdk_42_method_149_code_48)
  have N42 := Fr.snoc X37 N35 ab
  have Z43 : n0 ≤ h40.size := Nat.le_trans Z27 (Keep.of_wr W41).1
  have K44 : Keep h0 h40 [a] := K26.wr W41 (Or.inl (by simp))
  have F45 := S18.wr W41
  have F46 := A20.other W41 (Nat.ne_of_gt lt22)
  have F47 := F23.wr W41
  have F48 := F24.other W41 (Or.inr (slot_ne (a0 := a0) (C := "java/lang/String") (t := (.array .byte)) (t' := .byte) (Or.inr (hw _ (List.mem_of_getElem? (i := 20) rfl))) (Or.inr (hw _ (List.mem_of_getElem? (i := 21) rfl))) (by decide) (by decide) (by decide)))
  have F49 := F25.same W41
  refine OGoal.mp (S' := (T36.setTop (mkF m 51 #[.val (.ref a), .val (.ref c'), .val (.int (0 : Int32)), .val (.int (1 : Int32)), .val .null, .val (.ref r9)] []))) (fun _ k => st39 _ k) ?_
  refine OGoal.mp (S' := (T36.setTop (mkF m 52 #[.val (.ref a), .val (.ref c'), .val (.int (0 : Int32)), .val (.int (1 : Int32)), .val .null, .val (.ref r9)] [(.ref a)]))) (fun _ k => XS.aloadN X37.here hx rfl (hb hby own_d_jdk_42_method_149_code_51) rfl rfl k) ?_
  refine OGoal.mp (S' := (T36.setTop (mkF m 54 #[.val (.ref a), .val (.ref c'), .val (.int (0 : Int32)), .val (.int (1 : Int32)), .val .null, .val (.ref r9)] [(.ref r9), (.ref a)]))) (fun _ k => XS.aload X37.here hx rfl (hb hby own_d_jdk_42_method_149_code_52) rfl rfl k) ?_
  obtain ⟨T50, h54, X51, e52, W55, st53⟩ := putF X37 hx hZ hown (host := "") (Or.inl (hw _ (List.mem_of_getElem? (i := 24) rfl))) Via.refl e38 F48 F47 (Or.inr ⟨(hw _ (List.mem_of_getElem? (i := 20) rfl)), rfl, hnm⟩) (hw _ (List.mem_of_getElem? (i := 6) rfl)) (ty := (.array .byte)) (by decide) rfl rfl (g := mkF m 54 #[.val (.ref a), .val (.ref c'), .val (.int (0 : Int32)), .val (.int (1 : Int32)), .val .null, .val (.ref r9)] [(.ref r9), (.ref a)]) rfl rfl (hb hby own_d_jdk_42_method_149_code_54)
  have N56 := Fr.snoc X51 N42 ab
  have Z57 : n0 ≤ h54.size := Nat.le_trans Z43 (Keep.of_wr W55).1
  have K58 : Keep h0 h54 [a] := K44.wr W55 (Or.inl (by simp))
  have F59 := F45.wr W55
  have F60 := F46.other W55 (Nat.ne_of_gt lt22)
  have F61 := F47.wr W55
  have F62 := F48.same W55
  have F63 := F49.other W55 (Or.inr (slot_ne (a0 := a0) (C := "java/lang/String") (t := .byte) (t' := (.array .byte)) (Or.inr (hw _ (List.mem_of_getElem? (i := 21) rfl))) (Or.inr (hw _ (List.mem_of_getElem? (i := 20) rfl))) (by decide) (by decide) (by decide)))
  refine OGoal.mp (S' := (T50.setTop (mkF m 57 #[.val (.ref a), .val (.ref c'), .val (.int (0 : Int32)), .val (.int (1 : Int32)), .val .null, .val (.ref r9)] []))) (fun _ k => st53 _ k) ?_
  refine oRetV X51 hx hlk hret (hb hby own_d_jdk_42_method_149_code_57) ?_ (by decide) (by decide)
  rw [e52]; exact ⟨rfl, N56, K58, F59, r9, _, F61, F62, F63, F60⟩
theorem own_ef_rmS1_1 (x0 : Addr) (x1 : Addr) (m : MethodId) : entryFrame m #[(.ref x0), (.ref x1)] 2 = mkF m 0 #[.val (.ref x0), .val (.ref x1)] [] := by first | (simp [entryFrame, mkF, argsToLocals, Value.category]; done) | rfl
set_option maxRecDepth 65536 in
set_option maxHeartbeats 40000000 in
theorem rmS1_1 (l : Launch) (Z : State) (a0 : Array Value) (hw : ∀ d ∈ tables_1, d.before a0 Z = true) (a c' : Addr) (h0 : Heap) (n0 : Nat) (Z0 : n0 ≤ h0.size) (cs : Int32) (hcs : ¬ cs = 0) (St : Stt Z h0 cs) (f : Nat → Int32) (hL : Lt f) (Ac : OArr Z h0 c' .char (1 : Int32) (fun k => .int (f k))) (E : Exa Z h0 a "java/lang/String") (Fv : Fld Z h0 a "java/lang/String" "value" "[B" .null) (Fc : Fld Z h0 a "java/lang/String" "coder" "B" (.int (0 : Int32))) (ab : n0 ≤ a) :
    OCon l Z (⟨"java/lang/String", "<init>", "([C)V"⟩ : MethodName) jdk_42_method_3_code 2 none ({ frames := 3, cells := 1, slots := 1, locals := 52 } : Room) #[(.ref a), (.ref c')] h0 (fun v h L => v = none ∧ Fr n0 L ∧ Keep h0 h [a] ∧ Stt Z h cs ∧ StrN Z h a (1 : Int32)) := by
  refine OConK.intro (y := (⟨"java/lang/String", "<init>", "([C)V"⟩ : MethodName)) (plainFor_of_name own_pn_java_lang_String) (own_ef_rmS1_1 a c') ?_
  intro p e s m below meth c s₁ hx hby hml hown hnm hret hlk hZ X0 e0
  show OGoal p e below s _ _ _ (s₁.setTop (mkF m 0 #[.val (.ref a), .val (.ref c')] []))
  refine OGoal.mp (S' := (s₁.setTop (mkF m 1 #[.val (.ref a), .val (.ref c')] [(.ref a)]))) (fun _ k => XS.aloadN X0.here hx rfl (hb hby own_d_jdk_42_method_3_code_0) rfl rfl k) ?_
  refine OGoal.mp (S' := (s₁.setTop (mkF m 2 #[.val (.ref a), .val (.ref c')] [(.ref c'), (.ref a)]))) (fun _ k => XS.aloadN X0.here hx rfl (hb hby own_d_jdk_42_method_3_code_1) rfl rfl k) ?_
  refine OGoal.mp (S' := (s₁.setTop (mkF m 3 #[.val (.ref a), .val (.ref c')] [(.int (0 : Int32)), (.ref c'), (.ref a)]))) (fun _ k => XS.iconst X0.here hx rfl (hb hby own_d_jdk_42_method_3_code_2) k) ?_
  refine OGoal.mp (S' := (s₁.setTop (mkF m 4 #[.val (.ref a), .val (.ref c')] [(.ref c'), (.int (0 : Int32)), (.ref c'), (.ref a)]))) (fun _ k => XS.aloadN X0.here hx rfl (hb hby own_d_jdk_42_method_3_code_3) rfl rfl k) ?_
  refine OGoal.mp (S' := (s₁.setTop (mkF m 5 #[.val (.ref a), .val (.ref c')] [(.int (1 : Int32)), (.int (0 : Int32)), (.ref c'), (.ref a)]))) (fun _ k => oLen X0 hx hZ e0 Ac (g := mkF m 4 #[.val (.ref a), .val (.ref c')] [(.ref c'), (.int (0 : Int32)), (.ref c'), (.ref a)]) rfl rfl (hb hby own_d_jdk_42_method_3_code_4) k) ?_
  refine OGoal.mp (S' := (s₁.setTop (mkF m 6 #[.val (.ref a), .val (.ref c')] [.null, (.int (1 : Int32)), (.int (0 : Int32)), (.ref c'), (.ref a)]))) (fun _ k => XS.aconstNull X0.here hx rfl (hb hby own_d_jdk_42_method_3_code_5) k) ?_
  refine oCallN (y := (⟨"java/lang/String", "<init>", "([CIILjava/lang/Void;)V"⟩ : MethodName)) X0 hx hZ rfl hown (hw _ (List.mem_of_getElem? (i := 11) rfl)) (hw _ (List.mem_of_getElem? (i := 12) rfl)) (hw _ (List.mem_of_getElem? (i := 7) rfl)) (hw _ (List.mem_of_getElem? (i := 14) rfl)) (by decide) (rmSI_1 l Z a0 hw a c' h0 n0 Z0 cs hcs St f hL Ac E Fv Fc ab) e0 [(.ref c'), (.int (0 : Int32)), (.int (1 : Int32)), .null] [] rfl rfl (by rw [hml]; rfl) (lenOf own_pd___CIILjava_lang_Void__V rfl) 0 (Nat.le_of_eq rfl) (by decide) (by decide) (by decide) (by decide) (hb hby own_d_jdk_42_method_3_code_6) ?_
  intro v1 T2 L3 X4 q5
  obtain ⟨rfl, N6, K7, S8, D9⟩ := q5
  have N10 := Fr.app (Fr.nil n0) N6
  show OGoal p e below s _ _ _ (T2.setTop (mkF m 9 #[.val (.ref a), .val (.ref c')] []))
  refine oRetV X4 hx hlk hret (hb hby own_d_jdk_42_method_3_code_9) ?_ (by decide) (by decide)
  exact ⟨rfl, N10, K7, S8, D9⟩
theorem own_ef_rmC1_2 (x0 : Addr) (x1 : Int32) (x2 : Addr) (x3 : Int32) (x4 : Int32) (m : MethodId) : entryFrame m #[(.ref x0), (.int x1), (.ref x2), (.int x3), (.int x4)] 7 = mkF m 0 #[.val (.ref x0), .val (.int x1), .val (.ref x2), .val (.int x3), .val (.int x4), .unset, .unset] [] := by first | (simp [entryFrame, mkF, argsToLocals, Value.category]; done) | rfl
set_option maxRecDepth 65536 in
set_option maxHeartbeats 40000000 in
theorem rmC1_2 (l : Launch) (Z : State) (a0 : Array Value) (hw : ∀ d ∈ tables_1, d.before a0 Z = true) (c' d : Addr) (h0 : Heap) (n0 : Nat) (Z0 : n0 ≤ h0.size) (cs : Int32) (hcs : ¬ cs = 0) (St : Stt Z h0 cs) (f : Nat → Int32) (hL : Lt f) (Ac : OArr Z h0 c' .char (2 : Int32) (fun k => .int (f k))) (Ad : OArr Z h0 d .byte (2 : Int32) (fun _ => .int 0)) (ncd : c' ≠ d) (ab : n0 ≤ d) :
    OCon l Z (⟨"java/lang/StringUTF16", "compress", "([CI[BII)I"⟩ : MethodName) jdk_52_method_21_code 7 (some .int) ({ frames := 0, cells := 0, slots := 0, locals := 0 } : Room) #[(.ref c'), (.int (0 : Int32)), (.ref d), (.int (0 : Int32)), (.int (2 : Int32))] h0 (fun v h L => v = some (.int (2 : Int32)) ∧ Fr n0 L ∧ Keep h0 h [d] ∧ Stt Z h cs ∧ ∃ gf, OArr Z h d .byte (2 : Int32) gf) := by
  refine OConK.intro (y := (⟨"java/lang/StringUTF16", "compress", "([CI[BII)I"⟩ : MethodName)) (plainFor_of_name own_pn_java_lang_StringUTF16) (own_ef_rmC1_2 c' (0 : Int32) d (0 : Int32) (2 : Int32)) ?_
  intro p e s m below meth c s₁ hx hby hml hown hnm hret hlk hZ X0 e0
  show OGoal p e below s _ _ _ (s₁.setTop (mkF m 0 #[.val (.ref c'), .val (.int (0 : Int32)), .val (.ref d), .val (.int (0 : Int32)), .val (.int (2 : Int32)), .unset, .unset] []))
  refine OGoal.mp (S' := (s₁.setTop (mkF m 1 #[.val (.ref c'), .val (.int (0 : Int32)), .val (.ref d), .val (.int (0 : Int32)), .val (.int (2 : Int32)), .unset, .unset] [(.int (0 : Int32))]))) (fun _ k => XS.iconst X0.here hx rfl (hb hby own_d_jdk_52_method_21_code_0) k) ?_
  refine OGoal.mp (S' := (s₁.setTop (mkF m 3 #[.val (.ref c'), .val (.int (0 : Int32)), .val (.ref d), .val (.int (0 : Int32)), .val (.int (2 : Int32)), .val (.int (0 : Int32)), .unset] []))) (fun _ k => XS.istore X0.here hx rfl (hb hby own_d_jdk_52_method_21_code_1) rfl (l' := #[.val (.ref c'), .val (.int (0 : Int32)), .val (.ref d), .val (.int (0 : Int32)), .val (.int (2 : Int32)), .val (.int (0 : Int32)), .unset]) rfl k) ?_
  refine OGoal.mp (S' := (s₁.setTop (mkF m 5 #[.val (.ref c'), .val (.int (0 : Int32)), .val (.ref d), .val (.int (0 : Int32)), .val (.int (2 : Int32)), .val (.int (0 : Int32)), .unset] [(.int (0 : Int32))]))) (fun _ k => XS.iload X0.here hx rfl (hb hby own_d_jdk_52_method_21_code_3) rfl k) ?_
  refine OGoal.mp (S' := (s₁.setTop (mkF m 7 #[.val (.ref c'), .val (.int (0 : Int32)), .val (.ref d), .val (.int (0 : Int32)), .val (.int (2 : Int32)), .val (.int (0 : Int32)), .unset] [(.int (2 : Int32)), (.int (0 : Int32))]))) (fun _ k => XS.iload X0.here hx rfl (hb hby own_d_jdk_52_method_21_code_5) rfl k) ?_
  refine OGoal.mp (S' := (s₁.setTop (mkF m 10 #[.val (.ref c'), .val (.int (0 : Int32)), .val (.ref d), .val (.int (0 : Int32)), .val (.int (2 : Int32)), .val (.int (0 : Int32)), .unset] []))) (fun _ k => XS.icmpNo X0.here hx rfl (hb hby own_d_jdk_52_method_21_code_7) rfl (XT.ii_ge_f (by decide)) k) ?_
  refine OGoal.mp (S' := (s₁.setTop (mkF m 11 #[.val (.ref c'), .val (.int (0 : Int32)), .val (.ref d), .val (.int (0 : Int32)), .val (.int (2 : Int32)), .val (.int (0 : Int32)), .unset] [(.ref c')]))) (fun _ k => XS.aloadN X0.here hx rfl (hb hby own_d_jdk_52_method_21_code_10) rfl rfl k) ?_
  refine OGoal.mp (S' := (s₁.setTop (mkF m 12 #[.val (.ref c'), .val (.int (0 : Int32)), .val (.ref d), .val (.int (0 : Int32)), .val (.int (2 : Int32)), .val (.int (0 : Int32)), .unset] [(.int (0 : Int32)), (.ref c')]))) (fun _ k => XS.iloadN X0.here hx rfl (hb hby own_d_jdk_52_method_21_code_11) rfl k) ?_
  refine OGoal.mp (S' := (s₁.setTop (mkF m 13 #[.val (.ref c'), .val (.int (0 : Int32)), .val (.ref d), .val (.int (0 : Int32)), .val (.int (2 : Int32)), .val (.int (0 : Int32)), .unset] [(.int (f 0))]))) (fun _ k => oLdC X0 hx hZ e0 Ac (by decide) (by decide) rfl (g := mkF m 12 #[.val (.ref c'), .val (.int (0 : Int32)), .val (.ref d), .val (.int (0 : Int32)), .val (.int (2 : Int32)), .val (.int (0 : Int32)), .unset] [(.int (0 : Int32)), (.ref c')]) rfl rfl (hb hby own_d_jdk_52_method_21_code_12) k) ?_
  refine OGoal.mp (S' := (s₁.setTop (mkF m 15 #[.val (.ref c'), .val (.int (0 : Int32)), .val (.ref d), .val (.int (0 : Int32)), .val (.int (2 : Int32)), .val (.int (0 : Int32)), .val (.int (f 0))] []))) (fun _ k => XS.istore X0.here hx rfl (hb hby own_d_jdk_52_method_21_code_13) rfl (l' := #[.val (.ref c'), .val (.int (0 : Int32)), .val (.ref d), .val (.int (0 : Int32)), .val (.int (2 : Int32)), .val (.int (0 : Int32)), .val (.int (f 0))]) rfl k) ?_
  refine OGoal.mp (S' := (s₁.setTop (mkF m 17 #[.val (.ref c'), .val (.int (0 : Int32)), .val (.ref d), .val (.int (0 : Int32)), .val (.int (2 : Int32)), .val (.int (0 : Int32)), .val (.int (f 0))] [(.int (f 0))]))) (fun _ k => XS.iload X0.here hx rfl (hb hby own_d_jdk_52_method_21_code_15) rfl k) ?_
  refine OGoal.mp (S' := (s₁.setTop (mkF m 20 #[.val (.ref c'), .val (.int (0 : Int32)), .val (.ref d), .val (.int (0 : Int32)), .val (.int (2 : Int32)), .val (.int (0 : Int32)), .val (.int (f 0))] [(.int (255 : Int32)), (.int (f 0))]))) (fun _ k => XS.sipush X0.here hx rfl (hb hby own_d_jdk_52_method_21_code_17) k) ?_
  refine OGoal.mp (S' := (s₁.setTop (mkF m 26 #[.val (.ref c'), .val (.int (0 : Int32)), .val (.ref d), .val (.int (0 : Int32)), .val (.int (2 : Int32)), .val (.int (0 : Int32)), .val (.int (f 0))] []))) (fun _ k => XS.icmpYes X0.here hx rfl (pc0 := 20) (pc' := 26) rfl (hb hby own_d_jdk_52_method_21_code_20) rfl (XT.ii_le_t (hL.n _)) (by decide) (by decide) k) ?_
  refine OGoal.mp (S' := (s₁.setTop (mkF m 27 #[.val (.ref c'), .val (.int (0 : Int32)), .val (.ref d), .val (.int (0 : Int32)), .val (.int (2 : Int32)), .val (.int (0 : Int32)), .val (.int (f 0))] [(.ref d)]))) (fun _ k => XS.aloadN X0.here hx rfl (hb hby own_d_jdk_52_method_21_code_26) rfl rfl k) ?_
  refine OGoal.mp (S' := (s₁.setTop (mkF m 28 #[.val (.ref c'), .val (.int (0 : Int32)), .val (.ref d), .val (.int (0 : Int32)), .val (.int (2 : Int32)), .val (.int (0 : Int32)), .val (.int (f 0))] [(.int (0 : Int32)), (.ref d)]))) (fun _ k => XS.iloadN X0.here hx rfl (hb hby own_d_jdk_52_method_21_code_27) rfl k) ?_
  refine OGoal.mp (S' := (s₁.setTop (mkF m 30 #[.val (.ref c'), .val (.int (0 : Int32)), .val (.ref d), .val (.int (0 : Int32)), .val (.int (2 : Int32)), .val (.int (0 : Int32)), .val (.int (f 0))] [(.int (f 0)), (.int (0 : Int32)), (.ref d)]))) (fun _ k => XS.iload X0.here hx rfl (hb hby own_d_jdk_52_method_21_code_28) rfl k) ?_
  refine OGoal.mp (S' := (s₁.setTop (mkF m 31 #[.val (.ref c'), .val (.int (0 : Int32)), .val (.ref d), .val (.int (0 : Int32)), .val (.int (2 : Int32)), .val (.int (0 : Int32)), .val (.int (f 0))] [(.int (((f 0)).toInt8.toInt32)), (.int (0 : Int32)), (.ref d)]))) (fun _ k => XT.i2b X0.here hx rfl (hb hby own_d_jdk_52_method_21_code_30) rfl k) ?_
  obtain ⟨T1, h5, X2, e3, W6, st4⟩ := oStB X0 hx hZ e0 Ad (by decide) (by decide) (oNarBB _) (g := mkF m 31 #[.val (.ref c'), .val (.int (0 : Int32)), .val (.ref d), .val (.int (0 : Int32)), .val (.int (2 : Int32)), .val (.int (0 : Int32)), .val (.int (f 0))] [(.int (((f 0)).toInt8.toInt32)), (.int (0 : Int32)), (.ref d)]) rfl rfl (hb hby own_d_jdk_52_method_21_code_31)
  have N7 := Fr.snoc X2 (Fr.nil n0) ab
  have K8 : Keep h0 h5 [d] := (Keep.refl h0 [d]).wr W6 (Or.inl (by simp))
  have F9 := St.wr W6
  have F10 := Ac.other W6 ncd
  have F11 : OArr Z h5 d .byte (2 : Int32) (fun i => if i = ((0 : Int32)).toNatClampNeg then (.int (((f 0)).toInt8.toInt32)) else (fun _ => .int 0) i : Nat → Value) := Ad.set W6
  have Z12 : n0 ≤ h5.size := Nat.le_trans Z0 (Keep.of_wr W6).1
  refine OGoal.mp (S' := (T1.setTop (mkF m 32 #[.val (.ref c'), .val (.int (0 : Int32)), .val (.ref d), .val (.int (0 : Int32)), .val (.int (2 : Int32)), .val (.int (0 : Int32)), .val (.int (f 0))] []))) (fun _ k => st4 _ k) ?_
  refine OGoal.mp (S' := (T1.setTop (mkF m 35 #[.val (.ref c'), .val (.int ((0 : Int32) + (1 : Int32))), .val (.ref d), .val (.int (0 : Int32)), .val (.int (2 : Int32)), .val (.int (0 : Int32)), .val (.int (f 0))] []))) (fun _ k => XT.iincV X2.here hx rfl (1 : Int32) (hb hby own_d_jdk_52_method_21_code_32) rfl rfl (l' := #[.val (.ref c'), .val (.int ((0 : Int32) + (1 : Int32))), .val (.ref d), .val (.int (0 : Int32)), .val (.int (2 : Int32)), .val (.int (0 : Int32)), .val (.int (f 0))]) rfl k) ?_
  rw [show ((0 : Int32) + (1 : Int32)) = (1 : Int32) by decide]
  show OGoal p e below s _ _ _ (T1.setTop (mkF m 35 #[.val (.ref c'), .val (.int (1 : Int32)), .val (.ref d), .val (.int (0 : Int32)), .val (.int (2 : Int32)), .val (.int (0 : Int32)), .val (.int (f 0))] []))
  refine OGoal.mp (S' := (T1.setTop (mkF m 38 #[.val (.ref c'), .val (.int (1 : Int32)), .val (.ref d), .val (.int ((0 : Int32) + (1 : Int32))), .val (.int (2 : Int32)), .val (.int (0 : Int32)), .val (.int (f 0))] []))) (fun _ k => XT.iincV X2.here hx rfl (1 : Int32) (hb hby own_d_jdk_52_method_21_code_35) rfl rfl (l' := #[.val (.ref c'), .val (.int (1 : Int32)), .val (.ref d), .val (.int ((0 : Int32) + (1 : Int32))), .val (.int (2 : Int32)), .val (.int (0 : Int32)), .val (.int (f 0))]) rfl k) ?_
  rw [show ((0 : Int32) + (1 : Int32)) = (1 : Int32) by decide]
  show OGoal p e below s _ _ _ (T1.setTop (mkF m 38 #[.val (.ref c'), .val (.int (1 : Int32)), .val (.ref d), .val (.int (1 : Int32)), .val (.int (2 : Int32)), .val (.int (0 : Int32)), .val (.int (f 0))] []))
  refine OGoal.mp (S' := (T1.setTop (mkF m 41 #[.val (.ref c'), .val (.int (1 : Int32)), .val (.ref d), .val (.int (1 : Int32)), .val (.int (2 : Int32)), .val (.int ((0 : Int32) + (1 : Int32))), .val (.int (f 0))] []))) (fun _ k => XT.iincV X2.here hx rfl (1 : Int32) (hb hby own_d_jdk_52_method_21_code_38) rfl rfl (l' := #[.val (.ref c'), .val (.int (1 : Int32)), .val (.ref d), .val (.int (1 : Int32)), .val (.int (2 : Int32)), .val (.int ((0 : Int32) + (1 : Int32))), .val (.int (f 0))]) rfl k) ?_
  rw [show ((0 : Int32) + (1 : Int32)) = (1 : Int32) by decide]
  show OGoal p e below s _ _ _ (T1.setTop (mkF m 41 #[.val (.ref c'), .val (.int (1 : Int32)), .val (.ref d), .val (.int (1 : Int32)), .val (.int (2 : Int32)), .val (.int (1 : Int32)), .val (.int (f 0))] []))
  refine OGoal.mp (S' := (T1.setTop (mkF m 3 #[.val (.ref c'), .val (.int (1 : Int32)), .val (.ref d), .val (.int (1 : Int32)), .val (.int (2 : Int32)), .val (.int (1 : Int32)), .val (.int (f 0))] []))) (fun _ k => XS.goto X2.here hx rfl (pc0 := 41) (pc' := 3) rfl (hb hby own_d_jdk_52_method_21_code_41) (by decide) (by decide) k) ?_
  refine OGoal.mp (S' := (T1.setTop (mkF m 5 #[.val (.ref c'), .val (.int (1 : Int32)), .val (.ref d), .val (.int (1 : Int32)), .val (.int (2 : Int32)), .val (.int (1 : Int32)), .val (.int (f 0))] [(.int (1 : Int32))]))) (fun _ k => XS.iload X2.here hx rfl (hb hby own_d_jdk_52_method_21_code_3) rfl k) ?_
  refine OGoal.mp (S' := (T1.setTop (mkF m 7 #[.val (.ref c'), .val (.int (1 : Int32)), .val (.ref d), .val (.int (1 : Int32)), .val (.int (2 : Int32)), .val (.int (1 : Int32)), .val (.int (f 0))] [(.int (2 : Int32)), (.int (1 : Int32))]))) (fun _ k => XS.iload X2.here hx rfl (hb hby own_d_jdk_52_method_21_code_5) rfl k) ?_
  refine OGoal.mp (S' := (T1.setTop (mkF m 10 #[.val (.ref c'), .val (.int (1 : Int32)), .val (.ref d), .val (.int (1 : Int32)), .val (.int (2 : Int32)), .val (.int (1 : Int32)), .val (.int (f 0))] []))) (fun _ k => XS.icmpNo X2.here hx rfl (hb hby own_d_jdk_52_method_21_code_7) rfl (XT.ii_ge_f (by decide)) k) ?_
  refine OGoal.mp (S' := (T1.setTop (mkF m 11 #[.val (.ref c'), .val (.int (1 : Int32)), .val (.ref d), .val (.int (1 : Int32)), .val (.int (2 : Int32)), .val (.int (1 : Int32)), .val (.int (f 0))] [(.ref c')]))) (fun _ k => XS.aloadN X2.here hx rfl (hb hby own_d_jdk_52_method_21_code_10) rfl rfl k) ?_
  refine OGoal.mp (S' := (T1.setTop (mkF m 12 #[.val (.ref c'), .val (.int (1 : Int32)), .val (.ref d), .val (.int (1 : Int32)), .val (.int (2 : Int32)), .val (.int (1 : Int32)), .val (.int (f 0))] [(.int (1 : Int32)), (.ref c')]))) (fun _ k => XS.iloadN X2.here hx rfl (hb hby own_d_jdk_52_method_21_code_11) rfl k) ?_
  refine OGoal.mp (S' := (T1.setTop (mkF m 13 #[.val (.ref c'), .val (.int (1 : Int32)), .val (.ref d), .val (.int (1 : Int32)), .val (.int (2 : Int32)), .val (.int (1 : Int32)), .val (.int (f 0))] [(.int (f 1))]))) (fun _ k => oLdC X2 hx hZ e3 F10 (by decide) (by decide) rfl (g := mkF m 12 #[.val (.ref c'), .val (.int (1 : Int32)), .val (.ref d), .val (.int (1 : Int32)), .val (.int (2 : Int32)), .val (.int (1 : Int32)), .val (.int (f 0))] [(.int (1 : Int32)), (.ref c')]) rfl rfl (hb hby own_d_jdk_52_method_21_code_12) k) ?_
  refine OGoal.mp (S' := (T1.setTop (mkF m 15 #[.val (.ref c'), .val (.int (1 : Int32)), .val (.ref d), .val (.int (1 : Int32)), .val (.int (2 : Int32)), .val (.int (1 : Int32)), .val (.int (f 1))] []))) (fun _ k => XS.istore X2.here hx rfl (hb hby own_d_jdk_52_method_21_code_13) rfl (l' := #[.val (.ref c'), .val (.int (1 : Int32)), .val (.ref d), .val (.int (1 : Int32)), .val (.int (2 : Int32)), .val (.int (1 : Int32)), .val (.int (f 1))]) rfl k) ?_
  refine OGoal.mp (S' := (T1.setTop (mkF m 17 #[.val (.ref c'), .val (.int (1 : Int32)), .val (.ref d), .val (.int (1 : Int32)), .val (.int (2 : Int32)), .val (.int (1 : Int32)), .val (.int (f 1))] [(.int (f 1))]))) (fun _ k => XS.iload X2.here hx rfl (hb hby own_d_jdk_52_method_21_code_15) rfl k) ?_
  refine OGoal.mp (S' := (T1.setTop (mkF m 20 #[.val (.ref c'), .val (.int (1 : Int32)), .val (.ref d), .val (.int (1 : Int32)), .val (.int (2 : Int32)), .val (.int (1 : Int32)), .val (.int (f 1))] [(.int (255 : Int32)), (.int (f 1))]))) (fun _ k => XS.sipush X2.here hx rfl (hb hby own_d_jdk_52_method_21_code_17) k) ?_
  refine OGoal.mp (S' := (T1.setTop (mkF m 26 #[.val (.ref c'), .val (.int (1 : Int32)), .val (.ref d), .val (.int (1 : Int32)), .val (.int (2 : Int32)), .val (.int (1 : Int32)), .val (.int (f 1))] []))) (fun _ k => XS.icmpYes X2.here hx rfl (pc0 := 20) (pc' := 26) rfl (hb hby own_d_jdk_52_method_21_code_20) rfl (XT.ii_le_t (hL.n _)) (by decide) (by decide) k) ?_
  refine OGoal.mp (S' := (T1.setTop (mkF m 27 #[.val (.ref c'), .val (.int (1 : Int32)), .val (.ref d), .val (.int (1 : Int32)), .val (.int (2 : Int32)), .val (.int (1 : Int32)), .val (.int (f 1))] [(.ref d)]))) (fun _ k => XS.aloadN X2.here hx rfl (hb hby own_d_jdk_52_method_21_code_26) rfl rfl k) ?_
  refine OGoal.mp (S' := (T1.setTop (mkF m 28 #[.val (.ref c'), .val (.int (1 : Int32)), .val (.ref d), .val (.int (1 : Int32)), .val (.int (2 : Int32)), .val (.int (1 : Int32)), .val (.int (f 1))] [(.int (1 : Int32)), (.ref d)]))) (fun _ k => XS.iloadN X2.here hx rfl (hb hby own_d_jdk_52_method_21_code_27) rfl k) ?_
  refine OGoal.mp (S' := (T1.setTop (mkF m 30 #[.val (.ref c'), .val (.int (1 : Int32)), .val (.ref d), .val (.int (1 : Int32)), .val (.int (2 : Int32)), .val (.int (1 : Int32)), .val (.int (f 1))] [(.int (f 1)), (.int (1 : Int32)), (.ref d)]))) (fun _ k => XS.iload X2.here hx rfl (hb hby own_d_jdk_52_method_21_code_28) rfl k) ?_
  refine OGoal.mp (S' := (T1.setTop (mkF m 31 #[.val (.ref c'), .val (.int (1 : Int32)), .val (.ref d), .val (.int (1 : Int32)), .val (.int (2 : Int32)), .val (.int (1 : Int32)), .val (.int (f 1))] [(.int (((f 1)).toInt8.toInt32)), (.int (1 : Int32)), (.ref d)]))) (fun _ k => XT.i2b X2.here hx rfl (hb hby own_d_jdk_52_method_21_code_30) rfl k) ?_
  obtain ⟨T13, h17, X14, e15, W18, st16⟩ := oStB X2 hx hZ e3 F11 (by decide) (by decide) (oNarBB _) (g := mkF m 31 #[.val (.ref c'), .val (.int (1 : Int32)), .val (.ref d), .val (.int (1 : Int32)), .val (.int (2 : Int32)), .val (.int (1 : Int32)), .val (.int (f 1))] [(.int (((f 1)).toInt8.toInt32)), (.int (1 : Int32)), (.ref d)]) rfl rfl (hb hby own_d_jdk_52_method_21_code_31)
  have N19 := Fr.snoc X14 N7 ab
  have K20 : Keep h0 h17 [d] := K8.wr W18 (Or.inl (by simp))
  have F21 := F9.wr W18
  have F22 := F10.other W18 ncd
  have F23 : OArr Z h17 d .byte (2 : Int32) (fun i => if i = ((1 : Int32)).toNatClampNeg then (.int (((f 1)).toInt8.toInt32)) else (fun i => if i = ((0 : Int32)).toNatClampNeg then (.int (((f 0)).toInt8.toInt32)) else (fun _ => .int 0) i : Nat → Value) i : Nat → Value) := F11.set W18
  have Z24 : n0 ≤ h17.size := Nat.le_trans Z12 (Keep.of_wr W18).1
  refine OGoal.mp (S' := (T13.setTop (mkF m 32 #[.val (.ref c'), .val (.int (1 : Int32)), .val (.ref d), .val (.int (1 : Int32)), .val (.int (2 : Int32)), .val (.int (1 : Int32)), .val (.int (f 1))] []))) (fun _ k => st16 _ k) ?_
  refine OGoal.mp (S' := (T13.setTop (mkF m 35 #[.val (.ref c'), .val (.int ((1 : Int32) + (1 : Int32))), .val (.ref d), .val (.int (1 : Int32)), .val (.int (2 : Int32)), .val (.int (1 : Int32)), .val (.int (f 1))] []))) (fun _ k => XT.iincV X14.here hx rfl (1 : Int32) (hb hby own_d_jdk_52_method_21_code_32) rfl rfl (l' := #[.val (.ref c'), .val (.int ((1 : Int32) + (1 : Int32))), .val (.ref d), .val (.int (1 : Int32)), .val (.int (2 : Int32)), .val (.int (1 : Int32)), .val (.int (f 1))]) rfl k) ?_
  rw [show ((1 : Int32) + (1 : Int32)) = (2 : Int32) by decide]
  show OGoal p e below s _ _ _ (T13.setTop (mkF m 35 #[.val (.ref c'), .val (.int (2 : Int32)), .val (.ref d), .val (.int (1 : Int32)), .val (.int (2 : Int32)), .val (.int (1 : Int32)), .val (.int (f 1))] []))
  refine OGoal.mp (S' := (T13.setTop (mkF m 38 #[.val (.ref c'), .val (.int (2 : Int32)), .val (.ref d), .val (.int ((1 : Int32) + (1 : Int32))), .val (.int (2 : Int32)), .val (.int (1 : Int32)), .val (.int (f 1))] []))) (fun _ k => XT.iincV X14.here hx rfl (1 : Int32) (hb hby own_d_jdk_52_method_21_code_35) rfl rfl (l' := #[.val (.ref c'), .val (.int (2 : Int32)), .val (.ref d), .val (.int ((1 : Int32) + (1 : Int32))), .val (.int (2 : Int32)), .val (.int (1 : Int32)), .val (.int (f 1))]) rfl k) ?_
  rw [show ((1 : Int32) + (1 : Int32)) = (2 : Int32) by decide]
  show OGoal p e below s _ _ _ (T13.setTop (mkF m 38 #[.val (.ref c'), .val (.int (2 : Int32)), .val (.ref d), .val (.int (2 : Int32)), .val (.int (2 : Int32)), .val (.int (1 : Int32)), .val (.int (f 1))] []))
  refine OGoal.mp (S' := (T13.setTop (mkF m 41 #[.val (.ref c'), .val (.int (2 : Int32)), .val (.ref d), .val (.int (2 : Int32)), .val (.int (2 : Int32)), .val (.int ((1 : Int32) + (1 : Int32))), .val (.int (f 1))] []))) (fun _ k => XT.iincV X14.here hx rfl (1 : Int32) (hb hby own_d_jdk_52_method_21_code_38) rfl rfl (l' := #[.val (.ref c'), .val (.int (2 : Int32)), .val (.ref d), .val (.int (2 : Int32)), .val (.int (2 : Int32)), .val (.int ((1 : Int32) + (1 : Int32))), .val (.int (f 1))]) rfl k) ?_
  rw [show ((1 : Int32) + (1 : Int32)) = (2 : Int32) by decide]
  show OGoal p e below s _ _ _ (T13.setTop (mkF m 41 #[.val (.ref c'), .val (.int (2 : Int32)), .val (.ref d), .val (.int (2 : Int32)), .val (.int (2 : Int32)), .val (.int (2 : Int32)), .val (.int (f 1))] []))
  refine OGoal.mp (S' := (T13.setTop (mkF m 3 #[.val (.ref c'), .val (.int (2 : Int32)), .val (.ref d), .val (.int (2 : Int32)), .val (.int (2 : Int32)), .val (.int (2 : Int32)), .val (.int (f 1))] []))) (fun _ k => XS.goto X14.here hx rfl (pc0 := 41) (pc' := 3) rfl (hb hby own_d_jdk_52_method_21_code_41) (by decide) (by decide) k) ?_
  refine OGoal.mp (S' := (T13.setTop (mkF m 5 #[.val (.ref c'), .val (.int (2 : Int32)), .val (.ref d), .val (.int (2 : Int32)), .val (.int (2 : Int32)), .val (.int (2 : Int32)), .val (.int (f 1))] [(.int (2 : Int32))]))) (fun _ k => XS.iload X14.here hx rfl (hb hby own_d_jdk_52_method_21_code_3) rfl k) ?_
  refine OGoal.mp (S' := (T13.setTop (mkF m 7 #[.val (.ref c'), .val (.int (2 : Int32)), .val (.ref d), .val (.int (2 : Int32)), .val (.int (2 : Int32)), .val (.int (2 : Int32)), .val (.int (f 1))] [(.int (2 : Int32)), (.int (2 : Int32))]))) (fun _ k => XS.iload X14.here hx rfl (hb hby own_d_jdk_52_method_21_code_5) rfl k) ?_
  refine OGoal.mp (S' := (T13.setTop (mkF m 44 #[.val (.ref c'), .val (.int (2 : Int32)), .val (.ref d), .val (.int (2 : Int32)), .val (.int (2 : Int32)), .val (.int (2 : Int32)), .val (.int (f 1))] []))) (fun _ k => XS.icmpYes X14.here hx rfl (pc0 := 7) (pc' := 44) rfl (hb hby own_d_jdk_52_method_21_code_7) rfl (XT.ii_ge_t (by decide)) (by decide) (by decide) k) ?_
  refine OGoal.mp (S' := (T13.setTop (mkF m 46 #[.val (.ref c'), .val (.int (2 : Int32)), .val (.ref d), .val (.int (2 : Int32)), .val (.int (2 : Int32)), .val (.int (2 : Int32)), .val (.int (f 1))] [(.int (2 : Int32))]))) (fun _ k => XS.iload X14.here hx rfl (hb hby own_d_jdk_52_method_21_code_44) rfl k) ?_
  refine oRetI X14 hx hlk hret (hb hby own_d_jdk_52_method_21_code_46) ?_ (by decide) (by decide)
  rw [e15]; exact ⟨rfl, N19, K20, F21, _, F23⟩
theorem own_ef_rmC2_2 (x0 : Addr) (x1 : Int32) (x2 : Int32) (m : MethodId) : entryFrame m #[(.ref x0), (.int x1), (.int x2)] 6 = mkF m 0 #[.val (.ref x0), .val (.int x1), .val (.int x2), .unset, .unset, .unset] [] := by first | (simp [entryFrame, mkF, argsToLocals, Value.category]; done) | rfl
set_option maxRecDepth 65536 in
set_option maxHeartbeats 40000000 in
theorem rmC2_2 (l : Launch) (Z : State) (a0 : Array Value) (hw : ∀ d ∈ tables_1, d.before a0 Z = true) (c' : Addr) (h0 : Heap) (n0 : Nat) (Z0 : n0 ≤ h0.size) (cs : Int32) (hcs : ¬ cs = 0) (St : Stt Z h0 cs) (f : Nat → Int32) (hL : Lt f) (Ac : OArr Z h0 c' .char (2 : Int32) (fun k => .int (f k))) :
    OCon l Z (⟨"java/lang/StringUTF16", "compress", "([CII)[B"⟩ : MethodName) jdk_52_method_16_code 6 (some (.array .byte)) ({ frames := 1, cells := 1, slots := 2, locals := 18 } : Room) #[(.ref c'), (.int (0 : Int32)), (.int (2 : Int32))] h0 (fun v h L => ∃ r gf, v = some (.ref r) ∧ Fr n0 L ∧ Keep h0 h [] ∧ Stt Z h cs ∧ h0.size ≤ r ∧ OArr Z h r .byte (2 : Int32) gf) := by
  refine OConK.intro (y := (⟨"java/lang/StringUTF16", "compress", "([CII)[B"⟩ : MethodName)) (plainFor_of_name own_pn_java_lang_StringUTF16) (own_ef_rmC2_2 c' (0 : Int32) (2 : Int32)) ?_
  intro p e s m below meth c s₁ hx hby hml hown hnm hret hlk hZ X0 e0
  show OGoal p e below s _ _ _ (s₁.setTop (mkF m 0 #[.val (.ref c'), .val (.int (0 : Int32)), .val (.int (2 : Int32)), .unset, .unset, .unset] []))
  refine OGoal.mp (S' := (s₁.setTop (mkF m 1 #[.val (.ref c'), .val (.int (0 : Int32)), .val (.int (2 : Int32)), .unset, .unset, .unset] [(.int (2 : Int32))]))) (fun _ k => XS.iloadN X0.here hx rfl (hb hby own_d_jdk_52_method_16_code_0) rfl k) ?_
  obtain ⟨T1, h5, c8, X2, e3, E6, A7, XA11, st4⟩ := newPE X0 hx hZ (hw _ (List.mem_of_getElem? (i := 19) rfl)) e0 (g := mkF m 1 #[.val (.ref c'), .val (.int (0 : Int32)), .val (.int (2 : Int32)), .unset, .unset, .unset] [(.int (2 : Int32))]) rfl (hb hby own_d_jdk_52_method_16_code_1) rfl (by decide) (cap := 2) (by decide) (by decide) (by decide) (by decide) (ad := "[B") (by rfl)
  obtain ⟨a9, g10⟩ : ∃ z, z = h0.size := ⟨_, rfl⟩
  rw [← g10] at A7 XA11 st4
  have lt12 : c' < a9 := by rw [g10]; exact Ac.lt
  have fr13 : h0.size ≤ a9 := by rw [g10]; exact (Keep.refl h0 []).1
  have K14 : Keep h0 h5 [] := (Keep.refl h0 []).ext E6
  have F15 := St.ext E6
  have F16 := Ac.ext E6
  have F17 : OArr Z h5 a9 .byte (2 : Int32) (fun _ => .int 0 : Nat → Value) := OArr.new A7 (by decide)
  have Z18 : n0 ≤ h5.size := Nat.le_trans Z0 E6.1
  have ab19 : n0 ≤ a9 := Nat.le_trans Z0 (Nat.le_of_eq g10.symm)
  refine OGoal.mp (S' := (T1.setTop (mkF m 3 #[.val (.ref c'), .val (.int (0 : Int32)), .val (.int (2 : Int32)), .unset, .unset, .unset] [(.ref a9)]))) (fun _ k => st4 _ k) ?_
  refine OGoal.mp (S' := (T1.setTop (mkF m 4 #[.val (.ref c'), .val (.int (0 : Int32)), .val (.int (2 : Int32)), .val (.ref a9), .unset, .unset] []))) (fun _ k => XS.astoreN X2.here hx rfl (hb hby own_d_jdk_52_method_16_code_3) rfl rfl (l' := #[.val (.ref c'), .val (.int (0 : Int32)), .val (.int (2 : Int32)), .val (.ref a9), .unset, .unset]) rfl k) ?_
  refine OGoal.mp (S' := (T1.setTop (mkF m 5 #[.val (.ref c'), .val (.int (0 : Int32)), .val (.int (2 : Int32)), .val (.ref a9), .unset, .unset] [(.ref c')]))) (fun _ k => XS.aloadN X2.here hx rfl (hb hby own_d_jdk_52_method_16_code_4) rfl rfl k) ?_
  refine OGoal.mp (S' := (T1.setTop (mkF m 6 #[.val (.ref c'), .val (.int (0 : Int32)), .val (.int (2 : Int32)), .val (.ref a9), .unset, .unset] [(.int (0 : Int32)), (.ref c')]))) (fun _ k => XS.iloadN X2.here hx rfl (hb hby own_d_jdk_52_method_16_code_5) rfl k) ?_
  refine OGoal.mp (S' := (T1.setTop (mkF m 7 #[.val (.ref c'), .val (.int (0 : Int32)), .val (.int (2 : Int32)), .val (.ref a9), .unset, .unset] [(.ref a9), (.int (0 : Int32)), (.ref c')]))) (fun _ k => XS.aloadN X2.here hx rfl (hb hby own_d_jdk_52_method_16_code_6) rfl rfl k) ?_
  refine OGoal.mp (S' := (T1.setTop (mkF m 8 #[.val (.ref c'), .val (.int (0 : Int32)), .val (.int (2 : Int32)), .val (.ref a9), .unset, .unset] [(.int (0 : Int32)), (.ref a9), (.int (0 : Int32)), (.ref c')]))) (fun _ k => XS.iconst X2.here hx rfl (hb hby own_d_jdk_52_method_16_code_7) k) ?_
  refine OGoal.mp (S' := (T1.setTop (mkF m 9 #[.val (.ref c'), .val (.int (0 : Int32)), .val (.int (2 : Int32)), .val (.ref a9), .unset, .unset] [(.int (2 : Int32)), (.int (0 : Int32)), (.ref a9), (.int (0 : Int32)), (.ref c')]))) (fun _ k => XS.iloadN X2.here hx rfl (hb hby own_d_jdk_52_method_16_code_8) rfl k) ?_
  refine oCallS (y := (⟨"java/lang/StringUTF16", "compress", "([CI[BII)I"⟩ : MethodName)) X2 hx hZ hown (hw _ (List.mem_of_getElem? (i := 68) rfl)) (hw _ (List.mem_of_getElem? (i := 69) rfl)) (hw _ (List.mem_of_getElem? (i := 66) rfl)) (hw _ (List.mem_of_getElem? (i := 70) rfl)) (by decide) (rmC1_2 l Z a0 hw c' a9 h5 n0 Z18 cs hcs F15 f hL F16 F17 (Nat.ne_of_lt lt12) ab19) e3 [(.ref c'), (.int (0 : Int32)), (.ref a9), (.int (0 : Int32)), (.int (2 : Int32))] [] rfl rfl (by rw [hml]; rfl) (lenOf own_pd___CI_BII_I rfl) 0 (Nat.le_of_eq rfl) (by decide) (by decide) (by decide) (by decide) (hb hby own_d_jdk_52_method_16_code_9) ?_
  intro v20 T21 L22 X23 q24
  obtain ⟨rfl, N25, K26, S27, gf28, A29⟩ := q24
  have N30 := Fr.app (Fr.nil n0) N25
  have K31 : Keep h0 T21.heap [] := K14.trans K26 (allS (Or.inr fr13) all0)
  have Z32 : n0 ≤ T21.heap.size := Nat.le_trans Z18 K26.1
  show OGoal p e below s _ _ _ (T21.setTop (mkF m 12 #[.val (.ref c'), .val (.int (0 : Int32)), .val (.int (2 : Int32)), .val (.ref a9), .unset, .unset] [(.int (2 : Int32))]))
  refine OGoal.mp (S' := (T21.setTop (mkF m 14 #[.val (.ref c'), .val (.int (0 : Int32)), .val (.int (2 : Int32)), .val (.ref a9), .val (.int (2 : Int32)), .unset] []))) (fun _ k => XS.istore X23.here hx rfl (hb hby own_d_jdk_52_method_16_code_12) rfl (l' := #[.val (.ref c'), .val (.int (0 : Int32)), .val (.int (2 : Int32)), .val (.ref a9), .val (.int (2 : Int32)), .unset]) rfl k) ?_
  refine OGoal.mp (S' := (T21.setTop (mkF m 16 #[.val (.ref c'), .val (.int (0 : Int32)), .val (.int (2 : Int32)), .val (.ref a9), .val (.int (2 : Int32)), .unset] [(.int (2 : Int32))]))) (fun _ k => XS.iload X23.here hx rfl (hb hby own_d_jdk_52_method_16_code_14) rfl k) ?_
  refine OGoal.mp (S' := (T21.setTop (mkF m 17 #[.val (.ref c'), .val (.int (0 : Int32)), .val (.int (2 : Int32)), .val (.ref a9), .val (.int (2 : Int32)), .unset] [(.int (2 : Int32)), (.int (2 : Int32))]))) (fun _ k => XS.iloadN X23.here hx rfl (hb hby own_d_jdk_52_method_16_code_16) rfl k) ?_
  refine OGoal.mp (S' := (T21.setTop (mkF m 57 #[.val (.ref c'), .val (.int (0 : Int32)), .val (.int (2 : Int32)), .val (.ref a9), .val (.int (2 : Int32)), .unset] []))) (fun _ k => XS.icmpYes X23.here hx rfl (pc0 := 17) (pc' := 57) rfl (hb hby own_d_jdk_52_method_16_code_17) rfl (XT.ii_eq_t (by decide)) (by decide) (by decide) k) ?_
  refine OGoal.mp (S' := (T21.setTop (mkF m 58 #[.val (.ref c'), .val (.int (0 : Int32)), .val (.int (2 : Int32)), .val (.ref a9), .val (.int (2 : Int32)), .unset] [(.ref a9)]))) (fun _ k => XS.aloadN X23.here hx rfl (hb hby own_d_jdk_52_method_16_code_57) rfl rfl k) ?_
  refine oRetA X23 hx hlk hret rfl rfl (hb hby own_d_jdk_52_method_16_code_58) ?_ (by decide) (by decide)
  exact ⟨a9, _, rfl, N30, K31, S27, fr13, A29⟩
theorem own_ef_rmCF_2 (x0 : Addr) (x1 : Int32) (m : MethodId) : entryFrame m #[(.ref x0), (.int x1)] 2 = mkF m 0 #[.val (.ref x0), .val (.int x1)] [] := by first | (simp [entryFrame, mkF, argsToLocals, Value.category]; done) | rfl
set_option maxRecDepth 65536 in
set_option maxHeartbeats 40000000 in
theorem rmCF_2 (l : Launch) (Z : State) (a0 : Array Value) (hw : ∀ d ∈ tables_1, d.before a0 Z = true) (r : Addr) (h0 : Heap) (n0 : Nat) (Z0 : n0 ≤ h0.size) (gf : Nat → Value) (A : OArr Z h0 r .byte (2 : Int32) gf) :
    OCon l Z (⟨"java/lang/StringUTF16", "coderFromArrayLen", "([BI)B"⟩ : MethodName) jdk_52_method_15_code 2 (some .byte) ({ frames := 0, cells := 0, slots := 0, locals := 0 } : Room) #[(.ref r), (.int (2 : Int32))] h0 (fun v h L => v = some (.int (0 : Int32)) ∧ Fr n0 L ∧ h = h0) := by
  refine OConK.intro (y := (⟨"java/lang/StringUTF16", "coderFromArrayLen", "([BI)B"⟩ : MethodName)) (plainFor_of_name own_pn_java_lang_StringUTF16) (own_ef_rmCF_2 r (2 : Int32)) ?_
  intro p e s m below meth c s₁ hx hby hml hown hnm hret hlk hZ X0 e0
  show OGoal p e below s _ _ _ (s₁.setTop (mkF m 0 #[.val (.ref r), .val (.int (2 : Int32))] []))
  refine OGoal.mp (S' := (s₁.setTop (mkF m 1 #[.val (.ref r), .val (.int (2 : Int32))] [(.int (2 : Int32))]))) (fun _ k => XS.iloadN X0.here hx rfl (hb hby own_d_jdk_52_method_15_code_0) rfl k) ?_
  refine OGoal.mp (S' := (s₁.setTop (mkF m 2 #[.val (.ref r), .val (.int (2 : Int32))] [(.ref r), (.int (2 : Int32))]))) (fun _ k => XS.aloadN X0.here hx rfl (hb hby own_d_jdk_52_method_15_code_1) rfl rfl k) ?_
  refine OGoal.mp (S' := (s₁.setTop (mkF m 3 #[.val (.ref r), .val (.int (2 : Int32))] [(.int (2 : Int32)), (.int (2 : Int32))]))) (fun _ k => oLen X0 hx hZ e0 A (g := mkF m 2 #[.val (.ref r), .val (.int (2 : Int32))] [(.ref r), (.int (2 : Int32))]) rfl rfl (hb hby own_d_jdk_52_method_15_code_2) k) ?_
  refine OGoal.mp (S' := (s₁.setTop (mkF m 4 #[.val (.ref r), .val (.int (2 : Int32))] [(.int ((2 : Int32) - (2 : Int32)))]))) (fun _ k => XS.isub X0.here hx rfl (hb hby own_d_jdk_52_method_15_code_3) rfl k) ?_
  rw [show ((2 : Int32) - (2 : Int32)) = (0 : Int32) by decide]
  show OGoal p e below s _ _ _ (s₁.setTop (mkF m 4 #[.val (.ref r), .val (.int (2 : Int32))] [(.int (0 : Int32))]))
  refine OGoal.mp (S' := (s₁.setTop (mkF m 6 #[.val (.ref r), .val (.int (2 : Int32))] [(.int (31 : Int32)), (.int (0 : Int32))]))) (fun _ k => XS.bipush X0.here hx rfl (hb hby own_d_jdk_52_method_15_code_4) k) ?_
  refine OGoal.mp (S' := (s₁.setTop (mkF m 7 #[.val (.ref r), .val (.int (2 : Int32))] [(.int (XT.ushr (0 : Int32) (31 : Int32)))]))) (fun _ k => XT.iushr X0.here hx rfl (hb hby own_d_jdk_52_method_15_code_6) rfl k) ?_
  rw [show (XT.ushr (0 : Int32) (31 : Int32)) = (0 : Int32) by decide]
  show OGoal p e below s _ _ _ (s₁.setTop (mkF m 7 #[.val (.ref r), .val (.int (2 : Int32))] [(.int (0 : Int32))]))
  refine OGoal.mp (S' := (s₁.setTop (mkF m 8 #[.val (.ref r), .val (.int (2 : Int32))] [(.int (((0 : Int32)).toInt8.toInt32))]))) (fun _ k => XT.i2b X0.here hx rfl (hb hby own_d_jdk_52_method_15_code_7) rfl k) ?_
  rw [show (((0 : Int32)).toInt8.toInt32) = (0 : Int32) by decide]
  show OGoal p e below s _ _ _ (s₁.setTop (mkF m 8 #[.val (.ref r), .val (.int (2 : Int32))] [(.int (0 : Int32))]))
  refine oRetB X0 hx hlk hret (by decide) (hb hby own_d_jdk_52_method_15_code_8) ?_ (by decide) (by decide)
  exact ⟨rfl, (Fr.nil n0), e0⟩
theorem own_ef_rmSI_2 (x0 : Addr) (x1 : Addr) (x2 : Int32) (x3 : Int32) (m : MethodId) : entryFrame m #[(.ref x0), (.ref x1), (.int x2), (.int x3), .null] 6 = mkF m 0 #[.val (.ref x0), .val (.ref x1), .val (.int x2), .val (.int x3), .val .null, .unset] [] := by first | (simp [entryFrame, mkF, argsToLocals, Value.category]; done) | rfl
set_option maxRecDepth 65536 in
set_option maxHeartbeats 40000000 in
theorem rmSI_2 (l : Launch) (Z : State) (a0 : Array Value) (hw : ∀ d ∈ tables_1, d.before a0 Z = true) (a c' : Addr) (h0 : Heap) (n0 : Nat) (Z0 : n0 ≤ h0.size) (cs : Int32) (hcs : ¬ cs = 0) (St : Stt Z h0 cs) (f : Nat → Int32) (hL : Lt f) (Ac : OArr Z h0 c' .char (2 : Int32) (fun k => .int (f k))) (E : Exa Z h0 a "java/lang/String") (Fv : Fld Z h0 a "java/lang/String" "value" "[B" .null) (Fc : Fld Z h0 a "java/lang/String" "coder" "B" (.int (0 : Int32))) (ab : n0 ≤ a) :
    OCon l Z (⟨"java/lang/String", "<init>", "([CIILjava/lang/Void;)V"⟩ : MethodName) jdk_42_method_149_code 6 none ({ frames := 2, cells := 1, slots := 2, locals := 35 } : Room) #[(.ref a), (.ref c'), (.int (0 : Int32)), (.int (2 : Int32)), .null] h0 (fun v h L => v = none ∧ Fr n0 L ∧ Keep h0 h [a] ∧ Stt Z h cs ∧ StrN Z h a (2 : Int32)) := by
  refine OConK.intro (y := (⟨"java/lang/String", "<init>", "([CIILjava/lang/Void;)V"⟩ : MethodName)) (plainFor_of_name own_pn_java_lang_String) (own_ef_rmSI_2 a c' (0 : Int32) (2 : Int32)) ?_
  intro p e s m below meth c s₁ hx hby hml hown hnm hret hlk hZ X0 e0
  show OGoal p e below s _ _ _ (s₁.setTop (mkF m 0 #[.val (.ref a), .val (.ref c'), .val (.int (0 : Int32)), .val (.int (2 : Int32)), .val .null, .unset] []))
  refine OGoal.mp (S' := (s₁.setTop (mkF m 1 #[.val (.ref a), .val (.ref c'), .val (.int (0 : Int32)), .val (.int (2 : Int32)), .val .null, .unset] [(.ref a)]))) (fun _ k => XS.aloadN X0.here hx rfl (hb hby own_d_jdk_42_method_149_code_0) rfl rfl k) ?_
  obtain ⟨T1, X2, e3, st4⟩ := initO X0 hx hZ hown (hw _ (List.mem_of_getElem? (i := 15) rfl)) (hw _ (List.mem_of_getElem? (i := 16) rfl)) (hw _ (List.mem_of_getElem? (i := 17) rfl)) e0 (g := mkF m 1 #[.val (.ref a), .val (.ref c'), .val (.int (0 : Int32)), .val (.int (2 : Int32)), .val .null, .unset] [(.ref a)]) rfl (by rw [hml]; rfl) rfl (hb hby own_d_jdk_42_method_149_code_1) (by decide) (W := 0) (by show 2 * 0 + _ ≤ _; exact Nat.le_of_eq rfl) (by decide)
  refine OGoal.mp (S' := (T1.setTop (mkF m 4 #[.val (.ref a), .val (.ref c'), .val (.int (0 : Int32)), .val (.int (2 : Int32)), .val .null, .unset] []))) (fun _ k => st4 _ k) ?_
  refine OGoal.mp (S' := (T1.setTop (mkF m 5 #[.val (.ref a), .val (.ref c'), .val (.int (0 : Int32)), .val (.int (2 : Int32)), .val .null, .unset] [(.int (2 : Int32))]))) (fun _ k => XS.iloadN X2.here hx rfl (hb hby own_d_jdk_42_method_149_code_4) rfl k) ?_
  refine OGoal.mp (S' := (T1.setTop (mkF m 27 #[.val (.ref a), .val (.ref c'), .val (.int (0 : Int32)), .val (.int (2 : Int32)), .val .null, .unset] []))) (fun _ k => XS.ifYes X2.here hx rfl (pc0 := 5) (pc' := 27) rfl (hb hby own_d_jdk_42_method_149_code_5) rfl (XT.i0_ne_t (by decide)) (by decide) (by decide) k) ?_
  obtain ⟨T5, X6, e7, st8⟩ := getS X2 hx hZ hown (host := "") (hw _ (List.mem_of_getElem? (i := 53) rfl)) Via.refl e3 St (g := mkF m 27 #[.val (.ref a), .val (.ref c'), .val (.int (0 : Int32)), .val (.int (2 : Int32)), .val .null, .unset] []) rfl (hb hby own_d_jdk_42_method_149_code_27)
  refine OGoal.mp (S' := (T5.setTop (mkF m 30 #[.val (.ref a), .val (.ref c'), .val (.int (0 : Int32)), .val (.int (2 : Int32)), .val .null, .unset] [(.int cs)]))) (fun _ k => st8 _ k) ?_
  refine OGoal.mp (S' := (T5.setTop (mkF m 33 #[.val (.ref a), .val (.ref c'), .val (.int (0 : Int32)), .val (.int (2 : Int32)), .val .null, .unset] []))) (fun _ k => XS.ifNo X6.here hx rfl (hb hby own_d_jdk_42_method_149_code_30) rfl (XT.i0_eq_f hcs) k) ?_
  refine OGoal.mp (S' := (T5.setTop (mkF m 34 #[.val (.ref a), .val (.ref c'), .val (.int (0 : Int32)), .val (.int (2 : Int32)), .val .null, .unset] [(.ref c')]))) (fun _ k => XS.aloadN X6.here hx rfl (hb hby own_d_jdk_42_method_149_code_33) rfl rfl k) ?_
  refine OGoal.mp (S' := (T5.setTop (mkF m 35 #[.val (.ref a), .val (.ref c'), .val (.int (0 : Int32)), .val (.int (2 : Int32)), .val .null, .unset] [(.int (0 : Int32)), (.ref c')]))) (fun _ k => XS.iloadN X6.here hx rfl (hb hby own_d_jdk_42_method_149_code_34) rfl k) ?_
  refine OGoal.mp (S' := (T5.setTop (mkF m 36 #[.val (.ref a), .val (.ref c'), .val (.int (0 : Int32)), .val (.int (2 : Int32)), .val .null, .unset] [(.int (2 : Int32)), (.int (0 : Int32)), (.ref c')]))) (fun _ k => XS.iloadN X6.here hx rfl (hb hby own_d_jdk_42_method_149_code_35) rfl k) ?_
  refine oCallS (y := (⟨"java/lang/StringUTF16", "compress", "([CII)[B"⟩ : MethodName)) X6 hx hZ hown (hw _ (List.mem_of_getElem? (i := 64) rfl)) (hw _ (List.mem_of_getElem? (i := 65) rfl)) (hw _ (List.mem_of_getElem? (i := 66) rfl)) (hw _ (List.mem_of_getElem? (i := 67) rfl)) (by decide) (rmC2_2 l Z a0 hw c' h0 n0 Z0 cs hcs St f hL Ac) e7 [(.ref c'), (.int (0 : Int32)), (.int (2 : Int32))] [] rfl rfl (by rw [hml]; rfl) (lenOf own_pd___CII__B rfl) 0 (Nat.le_of_eq rfl) (by decide) (by decide) (by decide) (by decide) (hb hby own_d_jdk_42_method_149_code_36) ?_
  intro v11 T12 L13 X14 q15
  obtain ⟨r9, gf10, rfl, N16, K17, S18, hr19, A20⟩ := q15
  have N21 := Fr.app (Fr.nil n0) N16
  have lt22 : a < r9 := Nat.lt_of_lt_of_le E.lt hr19
  have F23 := E.keep K17
  have F24 := Fv.keep K17 nin0
  have F25 := Fc.keep K17 nin0
  have K26 : Keep h0 T12.heap [a] := (Keep.refl h0 [a]).trans K17 (fun x q => nomatch q)
  have Z27 : n0 ≤ T12.heap.size := Nat.le_trans Z0 K17.1
  show OGoal p e below s _ _ _ (T12.setTop (mkF m 39 #[.val (.ref a), .val (.ref c'), .val (.int (0 : Int32)), .val (.int (2 : Int32)), .val .null, .unset] [(.ref r9)]))
  refine OGoal.mp (S' := (T12.setTop (mkF m 41 #[.val (.ref a), .val (.ref c'), .val (.int (0 : Int32)), .val (.int (2 : Int32)), .val .null, .val (.ref r9)] []))) (fun _ k => XS.astore X14.here hx rfl (hb hby own_d_jdk_42_method_149_code_39) rfl rfl (l' := #[.val (.ref a), .val (.ref c'), .val (.int (0 : Int32)), .val (.int (2 : Int32)), .val .null, .val (.ref r9)]) rfl k) ?_
  refine OGoal.mp (S' := (T12.setTop (mkF m 42 #[.val (.ref a), .val (.ref c'), .val (.int (0 : Int32)), .val (.int (2 : Int32)), .val .null, .val (.ref r9)] [(.ref a)]))) (fun _ k => XS.aloadN X14.here hx rfl (hb hby own_d_jdk_42_method_149_code_41) rfl rfl k) ?_
  refine OGoal.mp (S' := (T12.setTop (mkF m 44 #[.val (.ref a), .val (.ref c'), .val (.int (0 : Int32)), .val (.int (2 : Int32)), .val .null, .val (.ref r9)] [(.ref r9), (.ref a)]))) (fun _ k => XS.aload X14.here hx rfl (hb hby own_d_jdk_42_method_149_code_42) rfl rfl k) ?_
  refine OGoal.mp (S' := (T12.setTop (mkF m 45 #[.val (.ref a), .val (.ref c'), .val (.int (0 : Int32)), .val (.int (2 : Int32)), .val .null, .val (.ref r9)] [(.int (2 : Int32)), (.ref r9), (.ref a)]))) (fun _ k => XS.iloadN X14.here hx rfl (hb hby own_d_jdk_42_method_149_code_44) rfl k) ?_
  refine oCallS (y := (⟨"java/lang/StringUTF16", "coderFromArrayLen", "([BI)B"⟩ : MethodName)) X14 hx hZ hown (hw _ (List.mem_of_getElem? (i := 71) rfl)) (hw _ (List.mem_of_getElem? (i := 72) rfl)) (hw _ (List.mem_of_getElem? (i := 66) rfl)) (hw _ (List.mem_of_getElem? (i := 73) rfl)) (by decide) (rmCF_2 l Z a0 hw r9 T12.heap n0 Z27 _ A20) rfl [(.ref r9), (.int (2 : Int32))] [(.ref a)] rfl rfl (by rw [hml]; rfl) (lenOf own_pd___BI_B rfl) 1 (Nat.le_of_eq rfl) (by decide) (by decide) (by decide) (by decide) (hb hby own_d_jdk_42_method_149_code_45) ?_
  intro v28 T29 L30 X31 q32
  obtain ⟨rfl, N33, e34⟩ := q32
  have N35 := Fr.app N21 N33
  show OGoal p e below s _ _ _ (T29.setTop (mkF m 48 #[.val (.ref a), .val (.ref c'), .val (.int (0 : Int32)), .val (.int (2 : Int32)), .val .null, .val (.ref r9)] [(.int (0 : Int32)), (.ref a)]))
  obtain ⟨T36, h40, X37, e38, W41, st39⟩ := putF X31 hx hZ hown (host := "") (Or.inl (hw _ (List.mem_of_getElem? (i := 25) rfl))) Via.refl e34 F25 F23 (Or.inr ⟨(hw _ (List.mem_of_getElem? (i := 21) rfl)), rfl, hnm⟩) (hw _ (List.mem_of_getElem? (i := 6) rfl)) (ty := .byte) (by decide) rfl rfl (g := mkF m 48 #[.val (.ref a), .val (.ref c'), .val (.int (0 : Int32)), .val (.int (2 : Int32)), .val .null, .val (.ref r9)] [(.int (0 : Int32)), (.ref a)]) rfl rfl (hb hby own_d_jdk_42_method_149_code_48)
  have N42 := Fr.snoc X37 N35 ab
  have Z43 : n0 ≤ h40.size := Nat.le_trans Z27 (Keep.of_wr W41).1
  have K44 : Keep h0 h40 [a] := K26.wr W41 (Or.inl (by simp))
  have F45 := S18.wr W41
  have F46 := A20.other W41 (Nat.ne_of_gt lt22)
  have F47 := F23.wr W41
  have F48 := F24.other W41 (Or.inr (slot_ne (a0 := a0) (C := "java/lang/String") (t := (.array .byte)) (t' := .byte) (Or.inr (hw _ (List.mem_of_getElem? (i := 20) rfl))) (Or.inr (hw _ (List.mem_of_getElem? (i := 21) rfl))) (by decide) (by decide) (by decide)))
  have F49 := F25.same W41
  refine OGoal.mp (S' := (T36.setTop (mkF m 51 #[.val (.ref a), .val (.ref c'), .val (.int (0 : Int32)), .val (.int (2 : Int32)), .val .null, .val (.ref r9)] []))) (fun _ k => st39 _ k) ?_
  refine OGoal.mp (S' := (T36.setTop (mkF m 52 #[.val (.ref a), .val (.ref c'), .val (.int (0 : Int32)), .val (.int (2 : Int32)), .val .null, .val (.ref r9)] [(.ref a)]))) (fun _ k => XS.aloadN X37.here hx rfl (hb hby own_d_jdk_42_method_149_code_51) rfl rfl k) ?_
  refine OGoal.mp (S' := (T36.setTop (mkF m 54 #[.val (.ref a), .val (.ref c'), .val (.int (0 : Int32)), .val (.int (2 : Int32)), .val .null, .val (.ref r9)] [(.ref r9), (.ref a)]))) (fun _ k => XS.aload X37.here hx rfl (hb hby own_d_jdk_42_method_149_code_52) rfl rfl k) ?_
  obtain ⟨T50, h54, X51, e52, W55, st53⟩ := putF X37 hx hZ hown (host := "") (Or.inl (hw _ (List.mem_of_getElem? (i := 24) rfl))) Via.refl e38 F48 F47 (Or.inr ⟨(hw _ (List.mem_of_getElem? (i := 20) rfl)), rfl, hnm⟩) (hw _ (List.mem_of_getElem? (i := 6) rfl)) (ty := (.array .byte)) (by decide) rfl rfl (g := mkF m 54 #[.val (.ref a), .val (.ref c'), .val (.int (0 : Int32)), .val (.int (2 : Int32)), .val .null, .val (.ref r9)] [(.ref r9), (.ref a)]) rfl rfl (hb hby own_d_jdk_42_method_149_code_54)
  have N56 := Fr.snoc X51 N42 ab
  have Z57 : n0 ≤ h54.size := Nat.le_trans Z43 (Keep.of_wr W55).1
  have K58 : Keep h0 h54 [a] := K44.wr W55 (Or.inl (by simp))
  have F59 := F45.wr W55
  have F60 := F46.other W55 (Nat.ne_of_gt lt22)
  have F61 := F47.wr W55
  have F62 := F48.same W55
  have F63 := F49.other W55 (Or.inr (slot_ne (a0 := a0) (C := "java/lang/String") (t := .byte) (t' := (.array .byte)) (Or.inr (hw _ (List.mem_of_getElem? (i := 21) rfl))) (Or.inr (hw _ (List.mem_of_getElem? (i := 20) rfl))) (by decide) (by decide) (by decide)))
  refine OGoal.mp (S' := (T50.setTop (mkF m 57 #[.val (.ref a), .val (.ref c'), .val (.int (0 : Int32)), .val (.int (2 : Int32)), .val .null, .val (.ref r9)] []))) (fun _ k => st53 _ k) ?_
  refine oRetV X51 hx hlk hret (hb hby own_d_jdk_42_method_149_code_57) ?_ (by decide) (by decide)
  rw [e52]; exact ⟨rfl, N56, K58, F59, r9, _, F61, F62, F63, F60⟩
theorem own_ef_rmS1_2 (x0 : Addr) (x1 : Addr) (m : MethodId) : entryFrame m #[(.ref x0), (.ref x1)] 2 = mkF m 0 #[.val (.ref x0), .val (.ref x1)] [] := by first | (simp [entryFrame, mkF, argsToLocals, Value.category]; done) | rfl
set_option maxRecDepth 65536 in
set_option maxHeartbeats 40000000 in
theorem rmS1_2 (l : Launch) (Z : State) (a0 : Array Value) (hw : ∀ d ∈ tables_1, d.before a0 Z = true) (a c' : Addr) (h0 : Heap) (n0 : Nat) (Z0 : n0 ≤ h0.size) (cs : Int32) (hcs : ¬ cs = 0) (St : Stt Z h0 cs) (f : Nat → Int32) (hL : Lt f) (Ac : OArr Z h0 c' .char (2 : Int32) (fun k => .int (f k))) (E : Exa Z h0 a "java/lang/String") (Fv : Fld Z h0 a "java/lang/String" "value" "[B" .null) (Fc : Fld Z h0 a "java/lang/String" "coder" "B" (.int (0 : Int32))) (ab : n0 ≤ a) :
    OCon l Z (⟨"java/lang/String", "<init>", "([C)V"⟩ : MethodName) jdk_42_method_3_code 2 none ({ frames := 3, cells := 1, slots := 2, locals := 52 } : Room) #[(.ref a), (.ref c')] h0 (fun v h L => v = none ∧ Fr n0 L ∧ Keep h0 h [a] ∧ Stt Z h cs ∧ StrN Z h a (2 : Int32)) := by
  refine OConK.intro (y := (⟨"java/lang/String", "<init>", "([C)V"⟩ : MethodName)) (plainFor_of_name own_pn_java_lang_String) (own_ef_rmS1_2 a c') ?_
  intro p e s m below meth c s₁ hx hby hml hown hnm hret hlk hZ X0 e0
  show OGoal p e below s _ _ _ (s₁.setTop (mkF m 0 #[.val (.ref a), .val (.ref c')] []))
  refine OGoal.mp (S' := (s₁.setTop (mkF m 1 #[.val (.ref a), .val (.ref c')] [(.ref a)]))) (fun _ k => XS.aloadN X0.here hx rfl (hb hby own_d_jdk_42_method_3_code_0) rfl rfl k) ?_
  refine OGoal.mp (S' := (s₁.setTop (mkF m 2 #[.val (.ref a), .val (.ref c')] [(.ref c'), (.ref a)]))) (fun _ k => XS.aloadN X0.here hx rfl (hb hby own_d_jdk_42_method_3_code_1) rfl rfl k) ?_
  refine OGoal.mp (S' := (s₁.setTop (mkF m 3 #[.val (.ref a), .val (.ref c')] [(.int (0 : Int32)), (.ref c'), (.ref a)]))) (fun _ k => XS.iconst X0.here hx rfl (hb hby own_d_jdk_42_method_3_code_2) k) ?_
  refine OGoal.mp (S' := (s₁.setTop (mkF m 4 #[.val (.ref a), .val (.ref c')] [(.ref c'), (.int (0 : Int32)), (.ref c'), (.ref a)]))) (fun _ k => XS.aloadN X0.here hx rfl (hb hby own_d_jdk_42_method_3_code_3) rfl rfl k) ?_
  refine OGoal.mp (S' := (s₁.setTop (mkF m 5 #[.val (.ref a), .val (.ref c')] [(.int (2 : Int32)), (.int (0 : Int32)), (.ref c'), (.ref a)]))) (fun _ k => oLen X0 hx hZ e0 Ac (g := mkF m 4 #[.val (.ref a), .val (.ref c')] [(.ref c'), (.int (0 : Int32)), (.ref c'), (.ref a)]) rfl rfl (hb hby own_d_jdk_42_method_3_code_4) k) ?_
  refine OGoal.mp (S' := (s₁.setTop (mkF m 6 #[.val (.ref a), .val (.ref c')] [.null, (.int (2 : Int32)), (.int (0 : Int32)), (.ref c'), (.ref a)]))) (fun _ k => XS.aconstNull X0.here hx rfl (hb hby own_d_jdk_42_method_3_code_5) k) ?_
  refine oCallN (y := (⟨"java/lang/String", "<init>", "([CIILjava/lang/Void;)V"⟩ : MethodName)) X0 hx hZ rfl hown (hw _ (List.mem_of_getElem? (i := 11) rfl)) (hw _ (List.mem_of_getElem? (i := 12) rfl)) (hw _ (List.mem_of_getElem? (i := 7) rfl)) (hw _ (List.mem_of_getElem? (i := 14) rfl)) (by decide) (rmSI_2 l Z a0 hw a c' h0 n0 Z0 cs hcs St f hL Ac E Fv Fc ab) e0 [(.ref c'), (.int (0 : Int32)), (.int (2 : Int32)), .null] [] rfl rfl (by rw [hml]; rfl) (lenOf own_pd___CIILjava_lang_Void__V rfl) 0 (Nat.le_of_eq rfl) (by decide) (by decide) (by decide) (by decide) (hb hby own_d_jdk_42_method_3_code_6) ?_
  intro v1 T2 L3 X4 q5
  obtain ⟨rfl, N6, K7, S8, D9⟩ := q5
  have N10 := Fr.app (Fr.nil n0) N6
  show OGoal p e below s _ _ _ (T2.setTop (mkF m 9 #[.val (.ref a), .val (.ref c')] []))
  refine oRetV X4 hx hlk hret (hb hby own_d_jdk_42_method_3_code_9) ?_ (by decide) (by decide)
  exact ⟨rfl, N10, K7, S8, D9⟩
theorem own_ef_rmC1_3 (x0 : Addr) (x1 : Int32) (x2 : Addr) (x3 : Int32) (x4 : Int32) (m : MethodId) : entryFrame m #[(.ref x0), (.int x1), (.ref x2), (.int x3), (.int x4)] 7 = mkF m 0 #[.val (.ref x0), .val (.int x1), .val (.ref x2), .val (.int x3), .val (.int x4), .unset, .unset] [] := by first | (simp [entryFrame, mkF, argsToLocals, Value.category]; done) | rfl
set_option maxRecDepth 65536 in
set_option maxHeartbeats 40000000 in
theorem rmC1_3 (l : Launch) (Z : State) (a0 : Array Value) (hw : ∀ d ∈ tables_1, d.before a0 Z = true) (c' d : Addr) (h0 : Heap) (n0 : Nat) (Z0 : n0 ≤ h0.size) (cs : Int32) (hcs : ¬ cs = 0) (St : Stt Z h0 cs) (f : Nat → Int32) (hL : Lt f) (Ac : OArr Z h0 c' .char (3 : Int32) (fun k => .int (f k))) (Ad : OArr Z h0 d .byte (3 : Int32) (fun _ => .int 0)) (ncd : c' ≠ d) (ab : n0 ≤ d) :
    OCon l Z (⟨"java/lang/StringUTF16", "compress", "([CI[BII)I"⟩ : MethodName) jdk_52_method_21_code 7 (some .int) ({ frames := 0, cells := 0, slots := 0, locals := 0 } : Room) #[(.ref c'), (.int (0 : Int32)), (.ref d), (.int (0 : Int32)), (.int (3 : Int32))] h0 (fun v h L => v = some (.int (3 : Int32)) ∧ Fr n0 L ∧ Keep h0 h [d] ∧ Stt Z h cs ∧ ∃ gf, OArr Z h d .byte (3 : Int32) gf) := by
  refine OConK.intro (y := (⟨"java/lang/StringUTF16", "compress", "([CI[BII)I"⟩ : MethodName)) (plainFor_of_name own_pn_java_lang_StringUTF16) (own_ef_rmC1_3 c' (0 : Int32) d (0 : Int32) (3 : Int32)) ?_
  intro p e s m below meth c s₁ hx hby hml hown hnm hret hlk hZ X0 e0
  show OGoal p e below s _ _ _ (s₁.setTop (mkF m 0 #[.val (.ref c'), .val (.int (0 : Int32)), .val (.ref d), .val (.int (0 : Int32)), .val (.int (3 : Int32)), .unset, .unset] []))
  refine OGoal.mp (S' := (s₁.setTop (mkF m 1 #[.val (.ref c'), .val (.int (0 : Int32)), .val (.ref d), .val (.int (0 : Int32)), .val (.int (3 : Int32)), .unset, .unset] [(.int (0 : Int32))]))) (fun _ k => XS.iconst X0.here hx rfl (hb hby own_d_jdk_52_method_21_code_0) k) ?_
  refine OGoal.mp (S' := (s₁.setTop (mkF m 3 #[.val (.ref c'), .val (.int (0 : Int32)), .val (.ref d), .val (.int (0 : Int32)), .val (.int (3 : Int32)), .val (.int (0 : Int32)), .unset] []))) (fun _ k => XS.istore X0.here hx rfl (hb hby own_d_jdk_52_method_21_code_1) rfl (l' := #[.val (.ref c'), .val (.int (0 : Int32)), .val (.ref d), .val (.int (0 : Int32)), .val (.int (3 : Int32)), .val (.int (0 : Int32)), .unset]) rfl k) ?_
  refine OGoal.mp (S' := (s₁.setTop (mkF m 5 #[.val (.ref c'), .val (.int (0 : Int32)), .val (.ref d), .val (.int (0 : Int32)), .val (.int (3 : Int32)), .val (.int (0 : Int32)), .unset] [(.int (0 : Int32))]))) (fun _ k => XS.iload X0.here hx rfl (hb hby own_d_jdk_52_method_21_code_3) rfl k) ?_
  refine OGoal.mp (S' := (s₁.setTop (mkF m 7 #[.val (.ref c'), .val (.int (0 : Int32)), .val (.ref d), .val (.int (0 : Int32)), .val (.int (3 : Int32)), .val (.int (0 : Int32)), .unset] [(.int (3 : Int32)), (.int (0 : Int32))]))) (fun _ k => XS.iload X0.here hx rfl (hb hby own_d_jdk_52_method_21_code_5) rfl k) ?_
  refine OGoal.mp (S' := (s₁.setTop (mkF m 10 #[.val (.ref c'), .val (.int (0 : Int32)), .val (.ref d), .val (.int (0 : Int32)), .val (.int (3 : Int32)), .val (.int (0 : Int32)), .unset] []))) (fun _ k => XS.icmpNo X0.here hx rfl (hb hby own_d_jdk_52_method_21_code_7) rfl (XT.ii_ge_f (by decide)) k) ?_
  refine OGoal.mp (S' := (s₁.setTop (mkF m 11 #[.val (.ref c'), .val (.int (0 : Int32)), .val (.ref d), .val (.int (0 : Int32)), .val (.int (3 : Int32)), .val (.int (0 : Int32)), .unset] [(.ref c')]))) (fun _ k => XS.aloadN X0.here hx rfl (hb hby own_d_jdk_52_method_21_code_10) rfl rfl k) ?_
  refine OGoal.mp (S' := (s₁.setTop (mkF m 12 #[.val (.ref c'), .val (.int (0 : Int32)), .val (.ref d), .val (.int (0 : Int32)), .val (.int (3 : Int32)), .val (.int (0 : Int32)), .unset] [(.int (0 : Int32)), (.ref c')]))) (fun _ k => XS.iloadN X0.here hx rfl (hb hby own_d_jdk_52_method_21_code_11) rfl k) ?_
  refine OGoal.mp (S' := (s₁.setTop (mkF m 13 #[.val (.ref c'), .val (.int (0 : Int32)), .val (.ref d), .val (.int (0 : Int32)), .val (.int (3 : Int32)), .val (.int (0 : Int32)), .unset] [(.int (f 0))]))) (fun _ k => oLdC X0 hx hZ e0 Ac (by decide) (by decide) rfl (g := mkF m 12 #[.val (.ref c'), .val (.int (0 : Int32)), .val (.ref d), .val (.int (0 : Int32)), .val (.int (3 : Int32)), .val (.int (0 : Int32)), .unset] [(.int (0 : Int32)), (.ref c')]) rfl rfl (hb hby own_d_jdk_52_method_21_code_12) k) ?_
  refine OGoal.mp (S' := (s₁.setTop (mkF m 15 #[.val (.ref c'), .val (.int (0 : Int32)), .val (.ref d), .val (.int (0 : Int32)), .val (.int (3 : Int32)), .val (.int (0 : Int32)), .val (.int (f 0))] []))) (fun _ k => XS.istore X0.here hx rfl (hb hby own_d_jdk_52_method_21_code_13) rfl (l' := #[.val (.ref c'), .val (.int (0 : Int32)), .val (.ref d), .val (.int (0 : Int32)), .val (.int (3 : Int32)), .val (.int (0 : Int32)), .val (.int (f 0))]) rfl k) ?_
  refine OGoal.mp (S' := (s₁.setTop (mkF m 17 #[.val (.ref c'), .val (.int (0 : Int32)), .val (.ref d), .val (.int (0 : Int32)), .val (.int (3 : Int32)), .val (.int (0 : Int32)), .val (.int (f 0))] [(.int (f 0))]))) (fun _ k => XS.iload X0.here hx rfl (hb hby own_d_jdk_52_method_21_code_15) rfl k) ?_
  refine OGoal.mp (S' := (s₁.setTop (mkF m 20 #[.val (.ref c'), .val (.int (0 : Int32)), .val (.ref d), .val (.int (0 : Int32)), .val (.int (3 : Int32)), .val (.int (0 : Int32)), .val (.int (f 0))] [(.int (255 : Int32)), (.int (f 0))]))) (fun _ k => XS.sipush X0.here hx rfl (hb hby own_d_jdk_52_method_21_code_17) k) ?_
  refine OGoal.mp (S' := (s₁.setTop (mkF m 26 #[.val (.ref c'), .val (.int (0 : Int32)), .val (.ref d), .val (.int (0 : Int32)), .val (.int (3 : Int32)), .val (.int (0 : Int32)), .val (.int (f 0))] []))) (fun _ k => XS.icmpYes X0.here hx rfl (pc0 := 20) (pc' := 26) rfl (hb hby own_d_jdk_52_method_21_code_20) rfl (XT.ii_le_t (hL.n _)) (by decide) (by decide) k) ?_
  refine OGoal.mp (S' := (s₁.setTop (mkF m 27 #[.val (.ref c'), .val (.int (0 : Int32)), .val (.ref d), .val (.int (0 : Int32)), .val (.int (3 : Int32)), .val (.int (0 : Int32)), .val (.int (f 0))] [(.ref d)]))) (fun _ k => XS.aloadN X0.here hx rfl (hb hby own_d_jdk_52_method_21_code_26) rfl rfl k) ?_
  refine OGoal.mp (S' := (s₁.setTop (mkF m 28 #[.val (.ref c'), .val (.int (0 : Int32)), .val (.ref d), .val (.int (0 : Int32)), .val (.int (3 : Int32)), .val (.int (0 : Int32)), .val (.int (f 0))] [(.int (0 : Int32)), (.ref d)]))) (fun _ k => XS.iloadN X0.here hx rfl (hb hby own_d_jdk_52_method_21_code_27) rfl k) ?_
  refine OGoal.mp (S' := (s₁.setTop (mkF m 30 #[.val (.ref c'), .val (.int (0 : Int32)), .val (.ref d), .val (.int (0 : Int32)), .val (.int (3 : Int32)), .val (.int (0 : Int32)), .val (.int (f 0))] [(.int (f 0)), (.int (0 : Int32)), (.ref d)]))) (fun _ k => XS.iload X0.here hx rfl (hb hby own_d_jdk_52_method_21_code_28) rfl k) ?_
  refine OGoal.mp (S' := (s₁.setTop (mkF m 31 #[.val (.ref c'), .val (.int (0 : Int32)), .val (.ref d), .val (.int (0 : Int32)), .val (.int (3 : Int32)), .val (.int (0 : Int32)), .val (.int (f 0))] [(.int (((f 0)).toInt8.toInt32)), (.int (0 : Int32)), (.ref d)]))) (fun _ k => XT.i2b X0.here hx rfl (hb hby own_d_jdk_52_method_21_code_30) rfl k) ?_
  obtain ⟨T1, h5, X2, e3, W6, st4⟩ := oStB X0 hx hZ e0 Ad (by decide) (by decide) (oNarBB _) (g := mkF m 31 #[.val (.ref c'), .val (.int (0 : Int32)), .val (.ref d), .val (.int (0 : Int32)), .val (.int (3 : Int32)), .val (.int (0 : Int32)), .val (.int (f 0))] [(.int (((f 0)).toInt8.toInt32)), (.int (0 : Int32)), (.ref d)]) rfl rfl (hb hby own_d_jdk_52_method_21_code_31)
  have N7 := Fr.snoc X2 (Fr.nil n0) ab
  have K8 : Keep h0 h5 [d] := (Keep.refl h0 [d]).wr W6 (Or.inl (by simp))
  have F9 := St.wr W6
  have F10 := Ac.other W6 ncd
  have F11 : OArr Z h5 d .byte (3 : Int32) (fun i => if i = ((0 : Int32)).toNatClampNeg then (.int (((f 0)).toInt8.toInt32)) else (fun _ => .int 0) i : Nat → Value) := Ad.set W6
  have Z12 : n0 ≤ h5.size := Nat.le_trans Z0 (Keep.of_wr W6).1
  refine OGoal.mp (S' := (T1.setTop (mkF m 32 #[.val (.ref c'), .val (.int (0 : Int32)), .val (.ref d), .val (.int (0 : Int32)), .val (.int (3 : Int32)), .val (.int (0 : Int32)), .val (.int (f 0))] []))) (fun _ k => st4 _ k) ?_
  refine OGoal.mp (S' := (T1.setTop (mkF m 35 #[.val (.ref c'), .val (.int ((0 : Int32) + (1 : Int32))), .val (.ref d), .val (.int (0 : Int32)), .val (.int (3 : Int32)), .val (.int (0 : Int32)), .val (.int (f 0))] []))) (fun _ k => XT.iincV X2.here hx rfl (1 : Int32) (hb hby own_d_jdk_52_method_21_code_32) rfl rfl (l' := #[.val (.ref c'), .val (.int ((0 : Int32) + (1 : Int32))), .val (.ref d), .val (.int (0 : Int32)), .val (.int (3 : Int32)), .val (.int (0 : Int32)), .val (.int (f 0))]) rfl k) ?_
  rw [show ((0 : Int32) + (1 : Int32)) = (1 : Int32) by decide]
  show OGoal p e below s _ _ _ (T1.setTop (mkF m 35 #[.val (.ref c'), .val (.int (1 : Int32)), .val (.ref d), .val (.int (0 : Int32)), .val (.int (3 : Int32)), .val (.int (0 : Int32)), .val (.int (f 0))] []))
  refine OGoal.mp (S' := (T1.setTop (mkF m 38 #[.val (.ref c'), .val (.int (1 : Int32)), .val (.ref d), .val (.int ((0 : Int32) + (1 : Int32))), .val (.int (3 : Int32)), .val (.int (0 : Int32)), .val (.int (f 0))] []))) (fun _ k => XT.iincV X2.here hx rfl (1 : Int32) (hb hby own_d_jdk_52_method_21_code_35) rfl rfl (l' := #[.val (.ref c'), .val (.int (1 : Int32)), .val (.ref d), .val (.int ((0 : Int32) + (1 : Int32))), .val (.int (3 : Int32)), .val (.int (0 : Int32)), .val (.int (f 0))]) rfl k) ?_
  rw [show ((0 : Int32) + (1 : Int32)) = (1 : Int32) by decide]
  show OGoal p e below s _ _ _ (T1.setTop (mkF m 38 #[.val (.ref c'), .val (.int (1 : Int32)), .val (.ref d), .val (.int (1 : Int32)), .val (.int (3 : Int32)), .val (.int (0 : Int32)), .val (.int (f 0))] []))
  refine OGoal.mp (S' := (T1.setTop (mkF m 41 #[.val (.ref c'), .val (.int (1 : Int32)), .val (.ref d), .val (.int (1 : Int32)), .val (.int (3 : Int32)), .val (.int ((0 : Int32) + (1 : Int32))), .val (.int (f 0))] []))) (fun _ k => XT.iincV X2.here hx rfl (1 : Int32) (hb hby own_d_jdk_52_method_21_code_38) rfl rfl (l' := #[.val (.ref c'), .val (.int (1 : Int32)), .val (.ref d), .val (.int (1 : Int32)), .val (.int (3 : Int32)), .val (.int ((0 : Int32) + (1 : Int32))), .val (.int (f 0))]) rfl k) ?_
  rw [show ((0 : Int32) + (1 : Int32)) = (1 : Int32) by decide]
  show OGoal p e below s _ _ _ (T1.setTop (mkF m 41 #[.val (.ref c'), .val (.int (1 : Int32)), .val (.ref d), .val (.int (1 : Int32)), .val (.int (3 : Int32)), .val (.int (1 : Int32)), .val (.int (f 0))] []))
  refine OGoal.mp (S' := (T1.setTop (mkF m 3 #[.val (.ref c'), .val (.int (1 : Int32)), .val (.ref d), .val (.int (1 : Int32)), .val (.int (3 : Int32)), .val (.int (1 : Int32)), .val (.int (f 0))] []))) (fun _ k => XS.goto X2.here hx rfl (pc0 := 41) (pc' := 3) rfl (hb hby own_d_jdk_52_method_21_code_41) (by decide) (by decide) k) ?_
  refine OGoal.mp (S' := (T1.setTop (mkF m 5 #[.val (.ref c'), .val (.int (1 : Int32)), .val (.ref d), .val (.int (1 : Int32)), .val (.int (3 : Int32)), .val (.int (1 : Int32)), .val (.int (f 0))] [(.int (1 : Int32))]))) (fun _ k => XS.iload X2.here hx rfl (hb hby own_d_jdk_52_method_21_code_3) rfl k) ?_
  refine OGoal.mp (S' := (T1.setTop (mkF m 7 #[.val (.ref c'), .val (.int (1 : Int32)), .val (.ref d), .val (.int (1 : Int32)), .val (.int (3 : Int32)), .val (.int (1 : Int32)), .val (.int (f 0))] [(.int (3 : Int32)), (.int (1 : Int32))]))) (fun _ k => XS.iload X2.here hx rfl (hb hby own_d_jdk_52_method_21_code_5) rfl k) ?_
  refine OGoal.mp (S' := (T1.setTop (mkF m 10 #[.val (.ref c'), .val (.int (1 : Int32)), .val (.ref d), .val (.int (1 : Int32)), .val (.int (3 : Int32)), .val (.int (1 : Int32)), .val (.int (f 0))] []))) (fun _ k => XS.icmpNo X2.here hx rfl (hb hby own_d_jdk_52_method_21_code_7) rfl (XT.ii_ge_f (by decide)) k) ?_
  refine OGoal.mp (S' := (T1.setTop (mkF m 11 #[.val (.ref c'), .val (.int (1 : Int32)), .val (.ref d), .val (.int (1 : Int32)), .val (.int (3 : Int32)), .val (.int (1 : Int32)), .val (.int (f 0))] [(.ref c')]))) (fun _ k => XS.aloadN X2.here hx rfl (hb hby own_d_jdk_52_method_21_code_10) rfl rfl k) ?_
  refine OGoal.mp (S' := (T1.setTop (mkF m 12 #[.val (.ref c'), .val (.int (1 : Int32)), .val (.ref d), .val (.int (1 : Int32)), .val (.int (3 : Int32)), .val (.int (1 : Int32)), .val (.int (f 0))] [(.int (1 : Int32)), (.ref c')]))) (fun _ k => XS.iloadN X2.here hx rfl (hb hby own_d_jdk_52_method_21_code_11) rfl k) ?_
  refine OGoal.mp (S' := (T1.setTop (mkF m 13 #[.val (.ref c'), .val (.int (1 : Int32)), .val (.ref d), .val (.int (1 : Int32)), .val (.int (3 : Int32)), .val (.int (1 : Int32)), .val (.int (f 0))] [(.int (f 1))]))) (fun _ k => oLdC X2 hx hZ e3 F10 (by decide) (by decide) rfl (g := mkF m 12 #[.val (.ref c'), .val (.int (1 : Int32)), .val (.ref d), .val (.int (1 : Int32)), .val (.int (3 : Int32)), .val (.int (1 : Int32)), .val (.int (f 0))] [(.int (1 : Int32)), (.ref c')]) rfl rfl (hb hby own_d_jdk_52_method_21_code_12) k) ?_
  refine OGoal.mp (S' := (T1.setTop (mkF m 15 #[.val (.ref c'), .val (.int (1 : Int32)), .val (.ref d), .val (.int (1 : Int32)), .val (.int (3 : Int32)), .val (.int (1 : Int32)), .val (.int (f 1))] []))) (fun _ k => XS.istore X2.here hx rfl (hb hby own_d_jdk_52_method_21_code_13) rfl (l' := #[.val (.ref c'), .val (.int (1 : Int32)), .val (.ref d), .val (.int (1 : Int32)), .val (.int (3 : Int32)), .val (.int (1 : Int32)), .val (.int (f 1))]) rfl k) ?_
  refine OGoal.mp (S' := (T1.setTop (mkF m 17 #[.val (.ref c'), .val (.int (1 : Int32)), .val (.ref d), .val (.int (1 : Int32)), .val (.int (3 : Int32)), .val (.int (1 : Int32)), .val (.int (f 1))] [(.int (f 1))]))) (fun _ k => XS.iload X2.here hx rfl (hb hby own_d_jdk_52_method_21_code_15) rfl k) ?_
  refine OGoal.mp (S' := (T1.setTop (mkF m 20 #[.val (.ref c'), .val (.int (1 : Int32)), .val (.ref d), .val (.int (1 : Int32)), .val (.int (3 : Int32)), .val (.int (1 : Int32)), .val (.int (f 1))] [(.int (255 : Int32)), (.int (f 1))]))) (fun _ k => XS.sipush X2.here hx rfl (hb hby own_d_jdk_52_method_21_code_17) k) ?_
  refine OGoal.mp (S' := (T1.setTop (mkF m 26 #[.val (.ref c'), .val (.int (1 : Int32)), .val (.ref d), .val (.int (1 : Int32)), .val (.int (3 : Int32)), .val (.int (1 : Int32)), .val (.int (f 1))] []))) (fun _ k => XS.icmpYes X2.here hx rfl (pc0 := 20) (pc' := 26) rfl (hb hby own_d_jdk_52_method_21_code_20) rfl (XT.ii_le_t (hL.n _)) (by decide) (by decide) k) ?_
  refine OGoal.mp (S' := (T1.setTop (mkF m 27 #[.val (.ref c'), .val (.int (1 : Int32)), .val (.ref d), .val (.int (1 : Int32)), .val (.int (3 : Int32)), .val (.int (1 : Int32)), .val (.int (f 1))] [(.ref d)]))) (fun _ k => XS.aloadN X2.here hx rfl (hb hby own_d_jdk_52_method_21_code_26) rfl rfl k) ?_
  refine OGoal.mp (S' := (T1.setTop (mkF m 28 #[.val (.ref c'), .val (.int (1 : Int32)), .val (.ref d), .val (.int (1 : Int32)), .val (.int (3 : Int32)), .val (.int (1 : Int32)), .val (.int (f 1))] [(.int (1 : Int32)), (.ref d)]))) (fun _ k => XS.iloadN X2.here hx rfl (hb hby own_d_jdk_52_method_21_code_27) rfl k) ?_
  refine OGoal.mp (S' := (T1.setTop (mkF m 30 #[.val (.ref c'), .val (.int (1 : Int32)), .val (.ref d), .val (.int (1 : Int32)), .val (.int (3 : Int32)), .val (.int (1 : Int32)), .val (.int (f 1))] [(.int (f 1)), (.int (1 : Int32)), (.ref d)]))) (fun _ k => XS.iload X2.here hx rfl (hb hby own_d_jdk_52_method_21_code_28) rfl k) ?_
  refine OGoal.mp (S' := (T1.setTop (mkF m 31 #[.val (.ref c'), .val (.int (1 : Int32)), .val (.ref d), .val (.int (1 : Int32)), .val (.int (3 : Int32)), .val (.int (1 : Int32)), .val (.int (f 1))] [(.int (((f 1)).toInt8.toInt32)), (.int (1 : Int32)), (.ref d)]))) (fun _ k => XT.i2b X2.here hx rfl (hb hby own_d_jdk_52_method_21_code_30) rfl k) ?_
  obtain ⟨T13, h17, X14, e15, W18, st16⟩ := oStB X2 hx hZ e3 F11 (by decide) (by decide) (oNarBB _) (g := mkF m 31 #[.val (.ref c'), .val (.int (1 : Int32)), .val (.ref d), .val (.int (1 : Int32)), .val (.int (3 : Int32)), .val (.int (1 : Int32)), .val (.int (f 1))] [(.int (((f 1)).toInt8.toInt32)), (.int (1 : Int32)), (.ref d)]) rfl rfl (hb hby own_d_jdk_52_method_21_code_31)
  have N19 := Fr.snoc X14 N7 ab
  have K20 : Keep h0 h17 [d] := K8.wr W18 (Or.inl (by simp))
  have F21 := F9.wr W18
  have F22 := F10.other W18 ncd
  have F23 : OArr Z h17 d .byte (3 : Int32) (fun i => if i = ((1 : Int32)).toNatClampNeg then (.int (((f 1)).toInt8.toInt32)) else (fun i => if i = ((0 : Int32)).toNatClampNeg then (.int (((f 0)).toInt8.toInt32)) else (fun _ => .int 0) i : Nat → Value) i : Nat → Value) := F11.set W18
  have Z24 : n0 ≤ h17.size := Nat.le_trans Z12 (Keep.of_wr W18).1
  refine OGoal.mp (S' := (T13.setTop (mkF m 32 #[.val (.ref c'), .val (.int (1 : Int32)), .val (.ref d), .val (.int (1 : Int32)), .val (.int (3 : Int32)), .val (.int (1 : Int32)), .val (.int (f 1))] []))) (fun _ k => st16 _ k) ?_
  refine OGoal.mp (S' := (T13.setTop (mkF m 35 #[.val (.ref c'), .val (.int ((1 : Int32) + (1 : Int32))), .val (.ref d), .val (.int (1 : Int32)), .val (.int (3 : Int32)), .val (.int (1 : Int32)), .val (.int (f 1))] []))) (fun _ k => XT.iincV X14.here hx rfl (1 : Int32) (hb hby own_d_jdk_52_method_21_code_32) rfl rfl (l' := #[.val (.ref c'), .val (.int ((1 : Int32) + (1 : Int32))), .val (.ref d), .val (.int (1 : Int32)), .val (.int (3 : Int32)), .val (.int (1 : Int32)), .val (.int (f 1))]) rfl k) ?_
  rw [show ((1 : Int32) + (1 : Int32)) = (2 : Int32) by decide]
  show OGoal p e below s _ _ _ (T13.setTop (mkF m 35 #[.val (.ref c'), .val (.int (2 : Int32)), .val (.ref d), .val (.int (1 : Int32)), .val (.int (3 : Int32)), .val (.int (1 : Int32)), .val (.int (f 1))] []))
  refine OGoal.mp (S' := (T13.setTop (mkF m 38 #[.val (.ref c'), .val (.int (2 : Int32)), .val (.ref d), .val (.int ((1 : Int32) + (1 : Int32))), .val (.int (3 : Int32)), .val (.int (1 : Int32)), .val (.int (f 1))] []))) (fun _ k => XT.iincV X14.here hx rfl (1 : Int32) (hb hby own_d_jdk_52_method_21_code_35) rfl rfl (l' := #[.val (.ref c'), .val (.int (2 : Int32)), .val (.ref d), .val (.int ((1 : Int32) + (1 : Int32))), .val (.int (3 : Int32)), .val (.int (1 : Int32)), .val (.int (f 1))]) rfl k) ?_
  rw [show ((1 : Int32) + (1 : Int32)) = (2 : Int32) by decide]
  show OGoal p e below s _ _ _ (T13.setTop (mkF m 38 #[.val (.ref c'), .val (.int (2 : Int32)), .val (.ref d), .val (.int (2 : Int32)), .val (.int (3 : Int32)), .val (.int (1 : Int32)), .val (.int (f 1))] []))
  refine OGoal.mp (S' := (T13.setTop (mkF m 41 #[.val (.ref c'), .val (.int (2 : Int32)), .val (.ref d), .val (.int (2 : Int32)), .val (.int (3 : Int32)), .val (.int ((1 : Int32) + (1 : Int32))), .val (.int (f 1))] []))) (fun _ k => XT.iincV X14.here hx rfl (1 : Int32) (hb hby own_d_jdk_52_method_21_code_38) rfl rfl (l' := #[.val (.ref c'), .val (.int (2 : Int32)), .val (.ref d), .val (.int (2 : Int32)), .val (.int (3 : Int32)), .val (.int ((1 : Int32) + (1 : Int32))), .val (.int (f 1))]) rfl k) ?_
  rw [show ((1 : Int32) + (1 : Int32)) = (2 : Int32) by decide]
  show OGoal p e below s _ _ _ (T13.setTop (mkF m 41 #[.val (.ref c'), .val (.int (2 : Int32)), .val (.ref d), .val (.int (2 : Int32)), .val (.int (3 : Int32)), .val (.int (2 : Int32)), .val (.int (f 1))] []))
  refine OGoal.mp (S' := (T13.setTop (mkF m 3 #[.val (.ref c'), .val (.int (2 : Int32)), .val (.ref d), .val (.int (2 : Int32)), .val (.int (3 : Int32)), .val (.int (2 : Int32)), .val (.int (f 1))] []))) (fun _ k => XS.goto X14.here hx rfl (pc0 := 41) (pc' := 3) rfl (hb hby own_d_jdk_52_method_21_code_41) (by decide) (by decide) k) ?_
  refine OGoal.mp (S' := (T13.setTop (mkF m 5 #[.val (.ref c'), .val (.int (2 : Int32)), .val (.ref d), .val (.int (2 : Int32)), .val (.int (3 : Int32)), .val (.int (2 : Int32)), .val (.int (f 1))] [(.int (2 : Int32))]))) (fun _ k => XS.iload X14.here hx rfl (hb hby own_d_jdk_52_method_21_code_3) rfl k) ?_
  refine OGoal.mp (S' := (T13.setTop (mkF m 7 #[.val (.ref c'), .val (.int (2 : Int32)), .val (.ref d), .val (.int (2 : Int32)), .val (.int (3 : Int32)), .val (.int (2 : Int32)), .val (.int (f 1))] [(.int (3 : Int32)), (.int (2 : Int32))]))) (fun _ k => XS.iload X14.here hx rfl (hb hby own_d_jdk_52_method_21_code_5) rfl k) ?_
  refine OGoal.mp (S' := (T13.setTop (mkF m 10 #[.val (.ref c'), .val (.int (2 : Int32)), .val (.ref d), .val (.int (2 : Int32)), .val (.int (3 : Int32)), .val (.int (2 : Int32)), .val (.int (f 1))] []))) (fun _ k => XS.icmpNo X14.here hx rfl (hb hby own_d_jdk_52_method_21_code_7) rfl (XT.ii_ge_f (by decide)) k) ?_
  refine OGoal.mp (S' := (T13.setTop (mkF m 11 #[.val (.ref c'), .val (.int (2 : Int32)), .val (.ref d), .val (.int (2 : Int32)), .val (.int (3 : Int32)), .val (.int (2 : Int32)), .val (.int (f 1))] [(.ref c')]))) (fun _ k => XS.aloadN X14.here hx rfl (hb hby own_d_jdk_52_method_21_code_10) rfl rfl k) ?_
  refine OGoal.mp (S' := (T13.setTop (mkF m 12 #[.val (.ref c'), .val (.int (2 : Int32)), .val (.ref d), .val (.int (2 : Int32)), .val (.int (3 : Int32)), .val (.int (2 : Int32)), .val (.int (f 1))] [(.int (2 : Int32)), (.ref c')]))) (fun _ k => XS.iloadN X14.here hx rfl (hb hby own_d_jdk_52_method_21_code_11) rfl k) ?_
  refine OGoal.mp (S' := (T13.setTop (mkF m 13 #[.val (.ref c'), .val (.int (2 : Int32)), .val (.ref d), .val (.int (2 : Int32)), .val (.int (3 : Int32)), .val (.int (2 : Int32)), .val (.int (f 1))] [(.int (f 2))]))) (fun _ k => oLdC X14 hx hZ e15 F22 (by decide) (by decide) rfl (g := mkF m 12 #[.val (.ref c'), .val (.int (2 : Int32)), .val (.ref d), .val (.int (2 : Int32)), .val (.int (3 : Int32)), .val (.int (2 : Int32)), .val (.int (f 1))] [(.int (2 : Int32)), (.ref c')]) rfl rfl (hb hby own_d_jdk_52_method_21_code_12) k) ?_
  refine OGoal.mp (S' := (T13.setTop (mkF m 15 #[.val (.ref c'), .val (.int (2 : Int32)), .val (.ref d), .val (.int (2 : Int32)), .val (.int (3 : Int32)), .val (.int (2 : Int32)), .val (.int (f 2))] []))) (fun _ k => XS.istore X14.here hx rfl (hb hby own_d_jdk_52_method_21_code_13) rfl (l' := #[.val (.ref c'), .val (.int (2 : Int32)), .val (.ref d), .val (.int (2 : Int32)), .val (.int (3 : Int32)), .val (.int (2 : Int32)), .val (.int (f 2))]) rfl k) ?_
  refine OGoal.mp (S' := (T13.setTop (mkF m 17 #[.val (.ref c'), .val (.int (2 : Int32)), .val (.ref d), .val (.int (2 : Int32)), .val (.int (3 : Int32)), .val (.int (2 : Int32)), .val (.int (f 2))] [(.int (f 2))]))) (fun _ k => XS.iload X14.here hx rfl (hb hby own_d_jdk_52_method_21_code_15) rfl k) ?_
  refine OGoal.mp (S' := (T13.setTop (mkF m 20 #[.val (.ref c'), .val (.int (2 : Int32)), .val (.ref d), .val (.int (2 : Int32)), .val (.int (3 : Int32)), .val (.int (2 : Int32)), .val (.int (f 2))] [(.int (255 : Int32)), (.int (f 2))]))) (fun _ k => XS.sipush X14.here hx rfl (hb hby own_d_jdk_52_method_21_code_17) k) ?_
  refine OGoal.mp (S' := (T13.setTop (mkF m 26 #[.val (.ref c'), .val (.int (2 : Int32)), .val (.ref d), .val (.int (2 : Int32)), .val (.int (3 : Int32)), .val (.int (2 : Int32)), .val (.int (f 2))] []))) (fun _ k => XS.icmpYes X14.here hx rfl (pc0 := 20) (pc' := 26) rfl (hb hby own_d_jdk_52_method_21_code_20) rfl (XT.ii_le_t (hL.n _)) (by decide) (by decide) k) ?_
  refine OGoal.mp (S' := (T13.setTop (mkF m 27 #[.val (.ref c'), .val (.int (2 : Int32)), .val (.ref d), .val (.int (2 : Int32)), .val (.int (3 : Int32)), .val (.int (2 : Int32)), .val (.int (f 2))] [(.ref d)]))) (fun _ k => XS.aloadN X14.here hx rfl (hb hby own_d_jdk_52_method_21_code_26) rfl rfl k) ?_
  refine OGoal.mp (S' := (T13.setTop (mkF m 28 #[.val (.ref c'), .val (.int (2 : Int32)), .val (.ref d), .val (.int (2 : Int32)), .val (.int (3 : Int32)), .val (.int (2 : Int32)), .val (.int (f 2))] [(.int (2 : Int32)), (.ref d)]))) (fun _ k => XS.iloadN X14.here hx rfl (hb hby own_d_jdk_52_method_21_code_27) rfl k) ?_
  refine OGoal.mp (S' := (T13.setTop (mkF m 30 #[.val (.ref c'), .val (.int (2 : Int32)), .val (.ref d), .val (.int (2 : Int32)), .val (.int (3 : Int32)), .val (.int (2 : Int32)), .val (.int (f 2))] [(.int (f 2)), (.int (2 : Int32)), (.ref d)]))) (fun _ k => XS.iload X14.here hx rfl (hb hby own_d_jdk_52_method_21_code_28) rfl k) ?_
  refine OGoal.mp (S' := (T13.setTop (mkF m 31 #[.val (.ref c'), .val (.int (2 : Int32)), .val (.ref d), .val (.int (2 : Int32)), .val (.int (3 : Int32)), .val (.int (2 : Int32)), .val (.int (f 2))] [(.int (((f 2)).toInt8.toInt32)), (.int (2 : Int32)), (.ref d)]))) (fun _ k => XT.i2b X14.here hx rfl (hb hby own_d_jdk_52_method_21_code_30) rfl k) ?_
  obtain ⟨T25, h29, X26, e27, W30, st28⟩ := oStB X14 hx hZ e15 F23 (by decide) (by decide) (oNarBB _) (g := mkF m 31 #[.val (.ref c'), .val (.int (2 : Int32)), .val (.ref d), .val (.int (2 : Int32)), .val (.int (3 : Int32)), .val (.int (2 : Int32)), .val (.int (f 2))] [(.int (((f 2)).toInt8.toInt32)), (.int (2 : Int32)), (.ref d)]) rfl rfl (hb hby own_d_jdk_52_method_21_code_31)
  have N31 := Fr.snoc X26 N19 ab
  have K32 : Keep h0 h29 [d] := K20.wr W30 (Or.inl (by simp))
  have F33 := F21.wr W30
  have F34 := F22.other W30 ncd
  have F35 : OArr Z h29 d .byte (3 : Int32) (fun i => if i = ((2 : Int32)).toNatClampNeg then (.int (((f 2)).toInt8.toInt32)) else (fun i => if i = ((1 : Int32)).toNatClampNeg then (.int (((f 1)).toInt8.toInt32)) else (fun i => if i = ((0 : Int32)).toNatClampNeg then (.int (((f 0)).toInt8.toInt32)) else (fun _ => .int 0) i : Nat → Value) i : Nat → Value) i : Nat → Value) := F23.set W30
  have Z36 : n0 ≤ h29.size := Nat.le_trans Z24 (Keep.of_wr W30).1
  refine OGoal.mp (S' := (T25.setTop (mkF m 32 #[.val (.ref c'), .val (.int (2 : Int32)), .val (.ref d), .val (.int (2 : Int32)), .val (.int (3 : Int32)), .val (.int (2 : Int32)), .val (.int (f 2))] []))) (fun _ k => st28 _ k) ?_
  refine OGoal.mp (S' := (T25.setTop (mkF m 35 #[.val (.ref c'), .val (.int ((2 : Int32) + (1 : Int32))), .val (.ref d), .val (.int (2 : Int32)), .val (.int (3 : Int32)), .val (.int (2 : Int32)), .val (.int (f 2))] []))) (fun _ k => XT.iincV X26.here hx rfl (1 : Int32) (hb hby own_d_jdk_52_method_21_code_32) rfl rfl (l' := #[.val (.ref c'), .val (.int ((2 : Int32) + (1 : Int32))), .val (.ref d), .val (.int (2 : Int32)), .val (.int (3 : Int32)), .val (.int (2 : Int32)), .val (.int (f 2))]) rfl k) ?_
  rw [show ((2 : Int32) + (1 : Int32)) = (3 : Int32) by decide]
  show OGoal p e below s _ _ _ (T25.setTop (mkF m 35 #[.val (.ref c'), .val (.int (3 : Int32)), .val (.ref d), .val (.int (2 : Int32)), .val (.int (3 : Int32)), .val (.int (2 : Int32)), .val (.int (f 2))] []))
  refine OGoal.mp (S' := (T25.setTop (mkF m 38 #[.val (.ref c'), .val (.int (3 : Int32)), .val (.ref d), .val (.int ((2 : Int32) + (1 : Int32))), .val (.int (3 : Int32)), .val (.int (2 : Int32)), .val (.int (f 2))] []))) (fun _ k => XT.iincV X26.here hx rfl (1 : Int32) (hb hby own_d_jdk_52_method_21_code_35) rfl rfl (l' := #[.val (.ref c'), .val (.int (3 : Int32)), .val (.ref d), .val (.int ((2 : Int32) + (1 : Int32))), .val (.int (3 : Int32)), .val (.int (2 : Int32)), .val (.int (f 2))]) rfl k) ?_
  rw [show ((2 : Int32) + (1 : Int32)) = (3 : Int32) by decide]
  show OGoal p e below s _ _ _ (T25.setTop (mkF m 38 #[.val (.ref c'), .val (.int (3 : Int32)), .val (.ref d), .val (.int (3 : Int32)), .val (.int (3 : Int32)), .val (.int (2 : Int32)), .val (.int (f 2))] []))
  refine OGoal.mp (S' := (T25.setTop (mkF m 41 #[.val (.ref c'), .val (.int (3 : Int32)), .val (.ref d), .val (.int (3 : Int32)), .val (.int (3 : Int32)), .val (.int ((2 : Int32) + (1 : Int32))), .val (.int (f 2))] []))) (fun _ k => XT.iincV X26.here hx rfl (1 : Int32) (hb hby own_d_jdk_52_method_21_code_38) rfl rfl (l' := #[.val (.ref c'), .val (.int (3 : Int32)), .val (.ref d), .val (.int (3 : Int32)), .val (.int (3 : Int32)), .val (.int ((2 : Int32) + (1 : Int32))), .val (.int (f 2))]) rfl k) ?_
  rw [show ((2 : Int32) + (1 : Int32)) = (3 : Int32) by decide]
  show OGoal p e below s _ _ _ (T25.setTop (mkF m 41 #[.val (.ref c'), .val (.int (3 : Int32)), .val (.ref d), .val (.int (3 : Int32)), .val (.int (3 : Int32)), .val (.int (3 : Int32)), .val (.int (f 2))] []))
  refine OGoal.mp (S' := (T25.setTop (mkF m 3 #[.val (.ref c'), .val (.int (3 : Int32)), .val (.ref d), .val (.int (3 : Int32)), .val (.int (3 : Int32)), .val (.int (3 : Int32)), .val (.int (f 2))] []))) (fun _ k => XS.goto X26.here hx rfl (pc0 := 41) (pc' := 3) rfl (hb hby own_d_jdk_52_method_21_code_41) (by decide) (by decide) k) ?_
  refine OGoal.mp (S' := (T25.setTop (mkF m 5 #[.val (.ref c'), .val (.int (3 : Int32)), .val (.ref d), .val (.int (3 : Int32)), .val (.int (3 : Int32)), .val (.int (3 : Int32)), .val (.int (f 2))] [(.int (3 : Int32))]))) (fun _ k => XS.iload X26.here hx rfl (hb hby own_d_jdk_52_method_21_code_3) rfl k) ?_
  refine OGoal.mp (S' := (T25.setTop (mkF m 7 #[.val (.ref c'), .val (.int (3 : Int32)), .val (.ref d), .val (.int (3 : Int32)), .val (.int (3 : Int32)), .val (.int (3 : Int32)), .val (.int (f 2))] [(.int (3 : Int32)), (.int (3 : Int32))]))) (fun _ k => XS.iload X26.here hx rfl (hb hby own_d_jdk_52_method_21_code_5) rfl k) ?_
  refine OGoal.mp (S' := (T25.setTop (mkF m 44 #[.val (.ref c'), .val (.int (3 : Int32)), .val (.ref d), .val (.int (3 : Int32)), .val (.int (3 : Int32)), .val (.int (3 : Int32)), .val (.int (f 2))] []))) (fun _ k => XS.icmpYes X26.here hx rfl (pc0 := 7) (pc' := 44) rfl (hb hby own_d_jdk_52_method_21_code_7) rfl (XT.ii_ge_t (by decide)) (by decide) (by decide) k) ?_
  refine OGoal.mp (S' := (T25.setTop (mkF m 46 #[.val (.ref c'), .val (.int (3 : Int32)), .val (.ref d), .val (.int (3 : Int32)), .val (.int (3 : Int32)), .val (.int (3 : Int32)), .val (.int (f 2))] [(.int (3 : Int32))]))) (fun _ k => XS.iload X26.here hx rfl (hb hby own_d_jdk_52_method_21_code_44) rfl k) ?_
  refine oRetI X26 hx hlk hret (hb hby own_d_jdk_52_method_21_code_46) ?_ (by decide) (by decide)
  rw [e27]; exact ⟨rfl, N31, K32, F33, _, F35⟩
theorem own_ef_rmC2_3 (x0 : Addr) (x1 : Int32) (x2 : Int32) (m : MethodId) : entryFrame m #[(.ref x0), (.int x1), (.int x2)] 6 = mkF m 0 #[.val (.ref x0), .val (.int x1), .val (.int x2), .unset, .unset, .unset] [] := by first | (simp [entryFrame, mkF, argsToLocals, Value.category]; done) | rfl
set_option maxRecDepth 65536 in
set_option maxHeartbeats 40000000 in
theorem rmC2_3 (l : Launch) (Z : State) (a0 : Array Value) (hw : ∀ d ∈ tables_1, d.before a0 Z = true) (c' : Addr) (h0 : Heap) (n0 : Nat) (Z0 : n0 ≤ h0.size) (cs : Int32) (hcs : ¬ cs = 0) (St : Stt Z h0 cs) (f : Nat → Int32) (hL : Lt f) (Ac : OArr Z h0 c' .char (3 : Int32) (fun k => .int (f k))) :
    OCon l Z (⟨"java/lang/StringUTF16", "compress", "([CII)[B"⟩ : MethodName) jdk_52_method_16_code 6 (some (.array .byte)) ({ frames := 1, cells := 1, slots := 3, locals := 18 } : Room) #[(.ref c'), (.int (0 : Int32)), (.int (3 : Int32))] h0 (fun v h L => ∃ r gf, v = some (.ref r) ∧ Fr n0 L ∧ Keep h0 h [] ∧ Stt Z h cs ∧ h0.size ≤ r ∧ OArr Z h r .byte (3 : Int32) gf) := by
  refine OConK.intro (y := (⟨"java/lang/StringUTF16", "compress", "([CII)[B"⟩ : MethodName)) (plainFor_of_name own_pn_java_lang_StringUTF16) (own_ef_rmC2_3 c' (0 : Int32) (3 : Int32)) ?_
  intro p e s m below meth c s₁ hx hby hml hown hnm hret hlk hZ X0 e0
  show OGoal p e below s _ _ _ (s₁.setTop (mkF m 0 #[.val (.ref c'), .val (.int (0 : Int32)), .val (.int (3 : Int32)), .unset, .unset, .unset] []))
  refine OGoal.mp (S' := (s₁.setTop (mkF m 1 #[.val (.ref c'), .val (.int (0 : Int32)), .val (.int (3 : Int32)), .unset, .unset, .unset] [(.int (3 : Int32))]))) (fun _ k => XS.iloadN X0.here hx rfl (hb hby own_d_jdk_52_method_16_code_0) rfl k) ?_
  obtain ⟨T1, h5, c8, X2, e3, E6, A7, XA11, st4⟩ := newPE X0 hx hZ (hw _ (List.mem_of_getElem? (i := 19) rfl)) e0 (g := mkF m 1 #[.val (.ref c'), .val (.int (0 : Int32)), .val (.int (3 : Int32)), .unset, .unset, .unset] [(.int (3 : Int32))]) rfl (hb hby own_d_jdk_52_method_16_code_1) rfl (by decide) (cap := 3) (by decide) (by decide) (by decide) (by decide) (ad := "[B") (by rfl)
  obtain ⟨a9, g10⟩ : ∃ z, z = h0.size := ⟨_, rfl⟩
  rw [← g10] at A7 XA11 st4
  have lt12 : c' < a9 := by rw [g10]; exact Ac.lt
  have fr13 : h0.size ≤ a9 := by rw [g10]; exact (Keep.refl h0 []).1
  have K14 : Keep h0 h5 [] := (Keep.refl h0 []).ext E6
  have F15 := St.ext E6
  have F16 := Ac.ext E6
  have F17 : OArr Z h5 a9 .byte (3 : Int32) (fun _ => .int 0 : Nat → Value) := OArr.new A7 (by decide)
  have Z18 : n0 ≤ h5.size := Nat.le_trans Z0 E6.1
  have ab19 : n0 ≤ a9 := Nat.le_trans Z0 (Nat.le_of_eq g10.symm)
  refine OGoal.mp (S' := (T1.setTop (mkF m 3 #[.val (.ref c'), .val (.int (0 : Int32)), .val (.int (3 : Int32)), .unset, .unset, .unset] [(.ref a9)]))) (fun _ k => st4 _ k) ?_
  refine OGoal.mp (S' := (T1.setTop (mkF m 4 #[.val (.ref c'), .val (.int (0 : Int32)), .val (.int (3 : Int32)), .val (.ref a9), .unset, .unset] []))) (fun _ k => XS.astoreN X2.here hx rfl (hb hby own_d_jdk_52_method_16_code_3) rfl rfl (l' := #[.val (.ref c'), .val (.int (0 : Int32)), .val (.int (3 : Int32)), .val (.ref a9), .unset, .unset]) rfl k) ?_
  refine OGoal.mp (S' := (T1.setTop (mkF m 5 #[.val (.ref c'), .val (.int (0 : Int32)), .val (.int (3 : Int32)), .val (.ref a9), .unset, .unset] [(.ref c')]))) (fun _ k => XS.aloadN X2.here hx rfl (hb hby own_d_jdk_52_method_16_code_4) rfl rfl k) ?_
  refine OGoal.mp (S' := (T1.setTop (mkF m 6 #[.val (.ref c'), .val (.int (0 : Int32)), .val (.int (3 : Int32)), .val (.ref a9), .unset, .unset] [(.int (0 : Int32)), (.ref c')]))) (fun _ k => XS.iloadN X2.here hx rfl (hb hby own_d_jdk_52_method_16_code_5) rfl k) ?_
  refine OGoal.mp (S' := (T1.setTop (mkF m 7 #[.val (.ref c'), .val (.int (0 : Int32)), .val (.int (3 : Int32)), .val (.ref a9), .unset, .unset] [(.ref a9), (.int (0 : Int32)), (.ref c')]))) (fun _ k => XS.aloadN X2.here hx rfl (hb hby own_d_jdk_52_method_16_code_6) rfl rfl k) ?_
  refine OGoal.mp (S' := (T1.setTop (mkF m 8 #[.val (.ref c'), .val (.int (0 : Int32)), .val (.int (3 : Int32)), .val (.ref a9), .unset, .unset] [(.int (0 : Int32)), (.ref a9), (.int (0 : Int32)), (.ref c')]))) (fun _ k => XS.iconst X2.here hx rfl (hb hby own_d_jdk_52_method_16_code_7) k) ?_
  refine OGoal.mp (S' := (T1.setTop (mkF m 9 #[.val (.ref c'), .val (.int (0 : Int32)), .val (.int (3 : Int32)), .val (.ref a9), .unset, .unset] [(.int (3 : Int32)), (.int (0 : Int32)), (.ref a9), (.int (0 : Int32)), (.ref c')]))) (fun _ k => XS.iloadN X2.here hx rfl (hb hby own_d_jdk_52_method_16_code_8) rfl k) ?_
  refine oCallS (y := (⟨"java/lang/StringUTF16", "compress", "([CI[BII)I"⟩ : MethodName)) X2 hx hZ hown (hw _ (List.mem_of_getElem? (i := 68) rfl)) (hw _ (List.mem_of_getElem? (i := 69) rfl)) (hw _ (List.mem_of_getElem? (i := 66) rfl)) (hw _ (List.mem_of_getElem? (i := 70) rfl)) (by decide) (rmC1_3 l Z a0 hw c' a9 h5 n0 Z18 cs hcs F15 f hL F16 F17 (Nat.ne_of_lt lt12) ab19) e3 [(.ref c'), (.int (0 : Int32)), (.ref a9), (.int (0 : Int32)), (.int (3 : Int32))] [] rfl rfl (by rw [hml]; rfl) (lenOf own_pd___CI_BII_I rfl) 0 (Nat.le_of_eq rfl) (by decide) (by decide) (by decide) (by decide) (hb hby own_d_jdk_52_method_16_code_9) ?_
  intro v20 T21 L22 X23 q24
  obtain ⟨rfl, N25, K26, S27, gf28, A29⟩ := q24
  have N30 := Fr.app (Fr.nil n0) N25
  have K31 : Keep h0 T21.heap [] := K14.trans K26 (allS (Or.inr fr13) all0)
  have Z32 : n0 ≤ T21.heap.size := Nat.le_trans Z18 K26.1
  show OGoal p e below s _ _ _ (T21.setTop (mkF m 12 #[.val (.ref c'), .val (.int (0 : Int32)), .val (.int (3 : Int32)), .val (.ref a9), .unset, .unset] [(.int (3 : Int32))]))
  refine OGoal.mp (S' := (T21.setTop (mkF m 14 #[.val (.ref c'), .val (.int (0 : Int32)), .val (.int (3 : Int32)), .val (.ref a9), .val (.int (3 : Int32)), .unset] []))) (fun _ k => XS.istore X23.here hx rfl (hb hby own_d_jdk_52_method_16_code_12) rfl (l' := #[.val (.ref c'), .val (.int (0 : Int32)), .val (.int (3 : Int32)), .val (.ref a9), .val (.int (3 : Int32)), .unset]) rfl k) ?_
  refine OGoal.mp (S' := (T21.setTop (mkF m 16 #[.val (.ref c'), .val (.int (0 : Int32)), .val (.int (3 : Int32)), .val (.ref a9), .val (.int (3 : Int32)), .unset] [(.int (3 : Int32))]))) (fun _ k => XS.iload X23.here hx rfl (hb hby own_d_jdk_52_method_16_code_14) rfl k) ?_
  refine OGoal.mp (S' := (T21.setTop (mkF m 17 #[.val (.ref c'), .val (.int (0 : Int32)), .val (.int (3 : Int32)), .val (.ref a9), .val (.int (3 : Int32)), .unset] [(.int (3 : Int32)), (.int (3 : Int32))]))) (fun _ k => XS.iloadN X23.here hx rfl (hb hby own_d_jdk_52_method_16_code_16) rfl k) ?_
  refine OGoal.mp (S' := (T21.setTop (mkF m 57 #[.val (.ref c'), .val (.int (0 : Int32)), .val (.int (3 : Int32)), .val (.ref a9), .val (.int (3 : Int32)), .unset] []))) (fun _ k => XS.icmpYes X23.here hx rfl (pc0 := 17) (pc' := 57) rfl (hb hby own_d_jdk_52_method_16_code_17) rfl (XT.ii_eq_t (by decide)) (by decide) (by decide) k) ?_
  refine OGoal.mp (S' := (T21.setTop (mkF m 58 #[.val (.ref c'), .val (.int (0 : Int32)), .val (.int (3 : Int32)), .val (.ref a9), .val (.int (3 : Int32)), .unset] [(.ref a9)]))) (fun _ k => XS.aloadN X23.here hx rfl (hb hby own_d_jdk_52_method_16_code_57) rfl rfl k) ?_
  refine oRetA X23 hx hlk hret rfl rfl (hb hby own_d_jdk_52_method_16_code_58) ?_ (by decide) (by decide)
  exact ⟨a9, _, rfl, N30, K31, S27, fr13, A29⟩
theorem own_ef_rmCF_3 (x0 : Addr) (x1 : Int32) (m : MethodId) : entryFrame m #[(.ref x0), (.int x1)] 2 = mkF m 0 #[.val (.ref x0), .val (.int x1)] [] := by first | (simp [entryFrame, mkF, argsToLocals, Value.category]; done) | rfl
set_option maxRecDepth 65536 in
set_option maxHeartbeats 40000000 in
theorem rmCF_3 (l : Launch) (Z : State) (a0 : Array Value) (hw : ∀ d ∈ tables_1, d.before a0 Z = true) (r : Addr) (h0 : Heap) (n0 : Nat) (Z0 : n0 ≤ h0.size) (gf : Nat → Value) (A : OArr Z h0 r .byte (3 : Int32) gf) :
    OCon l Z (⟨"java/lang/StringUTF16", "coderFromArrayLen", "([BI)B"⟩ : MethodName) jdk_52_method_15_code 2 (some .byte) ({ frames := 0, cells := 0, slots := 0, locals := 0 } : Room) #[(.ref r), (.int (3 : Int32))] h0 (fun v h L => v = some (.int (0 : Int32)) ∧ Fr n0 L ∧ h = h0) := by
  refine OConK.intro (y := (⟨"java/lang/StringUTF16", "coderFromArrayLen", "([BI)B"⟩ : MethodName)) (plainFor_of_name own_pn_java_lang_StringUTF16) (own_ef_rmCF_3 r (3 : Int32)) ?_
  intro p e s m below meth c s₁ hx hby hml hown hnm hret hlk hZ X0 e0
  show OGoal p e below s _ _ _ (s₁.setTop (mkF m 0 #[.val (.ref r), .val (.int (3 : Int32))] []))
  refine OGoal.mp (S' := (s₁.setTop (mkF m 1 #[.val (.ref r), .val (.int (3 : Int32))] [(.int (3 : Int32))]))) (fun _ k => XS.iloadN X0.here hx rfl (hb hby own_d_jdk_52_method_15_code_0) rfl k) ?_
  refine OGoal.mp (S' := (s₁.setTop (mkF m 2 #[.val (.ref r), .val (.int (3 : Int32))] [(.ref r), (.int (3 : Int32))]))) (fun _ k => XS.aloadN X0.here hx rfl (hb hby own_d_jdk_52_method_15_code_1) rfl rfl k) ?_
  refine OGoal.mp (S' := (s₁.setTop (mkF m 3 #[.val (.ref r), .val (.int (3 : Int32))] [(.int (3 : Int32)), (.int (3 : Int32))]))) (fun _ k => oLen X0 hx hZ e0 A (g := mkF m 2 #[.val (.ref r), .val (.int (3 : Int32))] [(.ref r), (.int (3 : Int32))]) rfl rfl (hb hby own_d_jdk_52_method_15_code_2) k) ?_
  refine OGoal.mp (S' := (s₁.setTop (mkF m 4 #[.val (.ref r), .val (.int (3 : Int32))] [(.int ((3 : Int32) - (3 : Int32)))]))) (fun _ k => XS.isub X0.here hx rfl (hb hby own_d_jdk_52_method_15_code_3) rfl k) ?_
  rw [show ((3 : Int32) - (3 : Int32)) = (0 : Int32) by decide]
  show OGoal p e below s _ _ _ (s₁.setTop (mkF m 4 #[.val (.ref r), .val (.int (3 : Int32))] [(.int (0 : Int32))]))
  refine OGoal.mp (S' := (s₁.setTop (mkF m 6 #[.val (.ref r), .val (.int (3 : Int32))] [(.int (31 : Int32)), (.int (0 : Int32))]))) (fun _ k => XS.bipush X0.here hx rfl (hb hby own_d_jdk_52_method_15_code_4) k) ?_
  refine OGoal.mp (S' := (s₁.setTop (mkF m 7 #[.val (.ref r), .val (.int (3 : Int32))] [(.int (XT.ushr (0 : Int32) (31 : Int32)))]))) (fun _ k => XT.iushr X0.here hx rfl (hb hby own_d_jdk_52_method_15_code_6) rfl k) ?_
  rw [show (XT.ushr (0 : Int32) (31 : Int32)) = (0 : Int32) by decide]
  show OGoal p e below s _ _ _ (s₁.setTop (mkF m 7 #[.val (.ref r), .val (.int (3 : Int32))] [(.int (0 : Int32))]))
  refine OGoal.mp (S' := (s₁.setTop (mkF m 8 #[.val (.ref r), .val (.int (3 : Int32))] [(.int (((0 : Int32)).toInt8.toInt32))]))) (fun _ k => XT.i2b X0.here hx rfl (hb hby own_d_jdk_52_method_15_code_7) rfl k) ?_
  rw [show (((0 : Int32)).toInt8.toInt32) = (0 : Int32) by decide]
  show OGoal p e below s _ _ _ (s₁.setTop (mkF m 8 #[.val (.ref r), .val (.int (3 : Int32))] [(.int (0 : Int32))]))
  refine oRetB X0 hx hlk hret (by decide) (hb hby own_d_jdk_52_method_15_code_8) ?_ (by decide) (by decide)
  exact ⟨rfl, (Fr.nil n0), e0⟩
theorem own_ef_rmSI_3 (x0 : Addr) (x1 : Addr) (x2 : Int32) (x3 : Int32) (m : MethodId) : entryFrame m #[(.ref x0), (.ref x1), (.int x2), (.int x3), .null] 6 = mkF m 0 #[.val (.ref x0), .val (.ref x1), .val (.int x2), .val (.int x3), .val .null, .unset] [] := by first | (simp [entryFrame, mkF, argsToLocals, Value.category]; done) | rfl
set_option maxRecDepth 65536 in
set_option maxHeartbeats 40000000 in
theorem rmSI_3 (l : Launch) (Z : State) (a0 : Array Value) (hw : ∀ d ∈ tables_1, d.before a0 Z = true) (a c' : Addr) (h0 : Heap) (n0 : Nat) (Z0 : n0 ≤ h0.size) (cs : Int32) (hcs : ¬ cs = 0) (St : Stt Z h0 cs) (f : Nat → Int32) (hL : Lt f) (Ac : OArr Z h0 c' .char (3 : Int32) (fun k => .int (f k))) (E : Exa Z h0 a "java/lang/String") (Fv : Fld Z h0 a "java/lang/String" "value" "[B" .null) (Fc : Fld Z h0 a "java/lang/String" "coder" "B" (.int (0 : Int32))) (ab : n0 ≤ a) :
    OCon l Z (⟨"java/lang/String", "<init>", "([CIILjava/lang/Void;)V"⟩ : MethodName) jdk_42_method_149_code 6 none ({ frames := 2, cells := 1, slots := 3, locals := 35 } : Room) #[(.ref a), (.ref c'), (.int (0 : Int32)), (.int (3 : Int32)), .null] h0 (fun v h L => v = none ∧ Fr n0 L ∧ Keep h0 h [a] ∧ Stt Z h cs ∧ StrN Z h a (3 : Int32)) := by
  refine OConK.intro (y := (⟨"java/lang/String", "<init>", "([CIILjava/lang/Void;)V"⟩ : MethodName)) (plainFor_of_name own_pn_java_lang_String) (own_ef_rmSI_3 a c' (0 : Int32) (3 : Int32)) ?_
  intro p e s m below meth c s₁ hx hby hml hown hnm hret hlk hZ X0 e0
  show OGoal p e below s _ _ _ (s₁.setTop (mkF m 0 #[.val (.ref a), .val (.ref c'), .val (.int (0 : Int32)), .val (.int (3 : Int32)), .val .null, .unset] []))
  refine OGoal.mp (S' := (s₁.setTop (mkF m 1 #[.val (.ref a), .val (.ref c'), .val (.int (0 : Int32)), .val (.int (3 : Int32)), .val .null, .unset] [(.ref a)]))) (fun _ k => XS.aloadN X0.here hx rfl (hb hby own_d_jdk_42_method_149_code_0) rfl rfl k) ?_
  obtain ⟨T1, X2, e3, st4⟩ := initO X0 hx hZ hown (hw _ (List.mem_of_getElem? (i := 15) rfl)) (hw _ (List.mem_of_getElem? (i := 16) rfl)) (hw _ (List.mem_of_getElem? (i := 17) rfl)) e0 (g := mkF m 1 #[.val (.ref a), .val (.ref c'), .val (.int (0 : Int32)), .val (.int (3 : Int32)), .val .null, .unset] [(.ref a)]) rfl (by rw [hml]; rfl) rfl (hb hby own_d_jdk_42_method_149_code_1) (by decide) (W := 0) (by show 2 * 0 + _ ≤ _; exact Nat.le_of_eq rfl) (by decide)
  refine OGoal.mp (S' := (T1.setTop (mkF m 4 #[.val (.ref a), .val (.ref c'), .val (.int (0 : Int32)), .val (.int (3 : Int32)), .val .null, .unset] []))) (fun _ k => st4 _ k) ?_
  refine OGoal.mp (S' := (T1.setTop (mkF m 5 #[.val (.ref a), .val (.ref c'), .val (.int (0 : Int32)), .val (.int (3 : Int32)), .val .null, .unset] [(.int (3 : Int32))]))) (fun _ k => XS.iloadN X2.here hx rfl (hb hby own_d_jdk_42_method_149_code_4) rfl k) ?_
  refine OGoal.mp (S' := (T1.setTop (mkF m 27 #[.val (.ref a), .val (.ref c'), .val (.int (0 : Int32)), .val (.int (3 : Int32)), .val .null, .unset] []))) (fun _ k => XS.ifYes X2.here hx rfl (pc0 := 5) (pc' := 27) rfl (hb hby own_d_jdk_42_method_149_code_5) rfl (XT.i0_ne_t (by decide)) (by decide) (by decide) k) ?_
  obtain ⟨T5, X6, e7, st8⟩ := getS X2 hx hZ hown (host := "") (hw _ (List.mem_of_getElem? (i := 53) rfl)) Via.refl e3 St (g := mkF m 27 #[.val (.ref a), .val (.ref c'), .val (.int (0 : Int32)), .val (.int (3 : Int32)), .val .null, .unset] []) rfl (hb hby own_d_jdk_42_method_149_code_27)
  refine OGoal.mp (S' := (T5.setTop (mkF m 30 #[.val (.ref a), .val (.ref c'), .val (.int (0 : Int32)), .val (.int (3 : Int32)), .val .null, .unset] [(.int cs)]))) (fun _ k => st8 _ k) ?_
  refine OGoal.mp (S' := (T5.setTop (mkF m 33 #[.val (.ref a), .val (.ref c'), .val (.int (0 : Int32)), .val (.int (3 : Int32)), .val .null, .unset] []))) (fun _ k => XS.ifNo X6.here hx rfl (hb hby own_d_jdk_42_method_149_code_30) rfl (XT.i0_eq_f hcs) k) ?_
  refine OGoal.mp (S' := (T5.setTop (mkF m 34 #[.val (.ref a), .val (.ref c'), .val (.int (0 : Int32)), .val (.int (3 : Int32)), .val .null, .unset] [(.ref c')]))) (fun _ k => XS.aloadN X6.here hx rfl (hb hby own_d_jdk_42_method_149_code_33) rfl rfl k) ?_
  refine OGoal.mp (S' := (T5.setTop (mkF m 35 #[.val (.ref a), .val (.ref c'), .val (.int (0 : Int32)), .val (.int (3 : Int32)), .val .null, .unset] [(.int (0 : Int32)), (.ref c')]))) (fun _ k => XS.iloadN X6.here hx rfl (hb hby own_d_jdk_42_method_149_code_34) rfl k) ?_
  refine OGoal.mp (S' := (T5.setTop (mkF m 36 #[.val (.ref a), .val (.ref c'), .val (.int (0 : Int32)), .val (.int (3 : Int32)), .val .null, .unset] [(.int (3 : Int32)), (.int (0 : Int32)), (.ref c')]))) (fun _ k => XS.iloadN X6.here hx rfl (hb hby own_d_jdk_42_method_149_code_35) rfl k) ?_
  refine oCallS (y := (⟨"java/lang/StringUTF16", "compress", "([CII)[B"⟩ : MethodName)) X6 hx hZ hown (hw _ (List.mem_of_getElem? (i := 64) rfl)) (hw _ (List.mem_of_getElem? (i := 65) rfl)) (hw _ (List.mem_of_getElem? (i := 66) rfl)) (hw _ (List.mem_of_getElem? (i := 67) rfl)) (by decide) (rmC2_3 l Z a0 hw c' h0 n0 Z0 cs hcs St f hL Ac) e7 [(.ref c'), (.int (0 : Int32)), (.int (3 : Int32))] [] rfl rfl (by rw [hml]; rfl) (lenOf own_pd___CII__B rfl) 0 (Nat.le_of_eq rfl) (by decide) (by decide) (by decide) (by decide) (hb hby own_d_jdk_42_method_149_code_36) ?_
  intro v11 T12 L13 X14 q15
  obtain ⟨r9, gf10, rfl, N16, K17, S18, hr19, A20⟩ := q15
  have N21 := Fr.app (Fr.nil n0) N16
  have lt22 : a < r9 := Nat.lt_of_lt_of_le E.lt hr19
  have F23 := E.keep K17
  have F24 := Fv.keep K17 nin0
  have F25 := Fc.keep K17 nin0
  have K26 : Keep h0 T12.heap [a] := (Keep.refl h0 [a]).trans K17 (fun x q => nomatch q)
  have Z27 : n0 ≤ T12.heap.size := Nat.le_trans Z0 K17.1
  show OGoal p e below s _ _ _ (T12.setTop (mkF m 39 #[.val (.ref a), .val (.ref c'), .val (.int (0 : Int32)), .val (.int (3 : Int32)), .val .null, .unset] [(.ref r9)]))
  refine OGoal.mp (S' := (T12.setTop (mkF m 41 #[.val (.ref a), .val (.ref c'), .val (.int (0 : Int32)), .val (.int (3 : Int32)), .val .null, .val (.ref r9)] []))) (fun _ k => XS.astore X14.here hx rfl (hb hby own_d_jdk_42_method_149_code_39) rfl rfl (l' := #[.val (.ref a), .val (.ref c'), .val (.int (0 : Int32)), .val (.int (3 : Int32)), .val .null, .val (.ref r9)]) rfl k) ?_
  refine OGoal.mp (S' := (T12.setTop (mkF m 42 #[.val (.ref a), .val (.ref c'), .val (.int (0 : Int32)), .val (.int (3 : Int32)), .val .null, .val (.ref r9)] [(.ref a)]))) (fun _ k => XS.aloadN X14.here hx rfl (hb hby own_d_jdk_42_method_149_code_41) rfl rfl k) ?_
  refine OGoal.mp (S' := (T12.setTop (mkF m 44 #[.val (.ref a), .val (.ref c'), .val (.int (0 : Int32)), .val (.int (3 : Int32)), .val .null, .val (.ref r9)] [(.ref r9), (.ref a)]))) (fun _ k => XS.aload X14.here hx rfl (hb hby own_d_jdk_42_method_149_code_42) rfl rfl k) ?_
  refine OGoal.mp (S' := (T12.setTop (mkF m 45 #[.val (.ref a), .val (.ref c'), .val (.int (0 : Int32)), .val (.int (3 : Int32)), .val .null, .val (.ref r9)] [(.int (3 : Int32)), (.ref r9), (.ref a)]))) (fun _ k => XS.iloadN X14.here hx rfl (hb hby own_d_jdk_42_method_149_code_44) rfl k) ?_
  refine oCallS (y := (⟨"java/lang/StringUTF16", "coderFromArrayLen", "([BI)B"⟩ : MethodName)) X14 hx hZ hown (hw _ (List.mem_of_getElem? (i := 71) rfl)) (hw _ (List.mem_of_getElem? (i := 72) rfl)) (hw _ (List.mem_of_getElem? (i := 66) rfl)) (hw _ (List.mem_of_getElem? (i := 73) rfl)) (by decide) (rmCF_3 l Z a0 hw r9 T12.heap n0 Z27 _ A20) rfl [(.ref r9), (.int (3 : Int32))] [(.ref a)] rfl rfl (by rw [hml]; rfl) (lenOf own_pd___BI_B rfl) 1 (Nat.le_of_eq rfl) (by decide) (by decide) (by decide) (by decide) (hb hby own_d_jdk_42_method_149_code_45) ?_
  intro v28 T29 L30 X31 q32
  obtain ⟨rfl, N33, e34⟩ := q32
  have N35 := Fr.app N21 N33
  show OGoal p e below s _ _ _ (T29.setTop (mkF m 48 #[.val (.ref a), .val (.ref c'), .val (.int (0 : Int32)), .val (.int (3 : Int32)), .val .null, .val (.ref r9)] [(.int (0 : Int32)), (.ref a)]))
  obtain ⟨T36, h40, X37, e38, W41, st39⟩ := putF X31 hx hZ hown (host := "") (Or.inl (hw _ (List.mem_of_getElem? (i := 25) rfl))) Via.refl e34 F25 F23 (Or.inr ⟨(hw _ (List.mem_of_getElem? (i := 21) rfl)), rfl, hnm⟩) (hw _ (List.mem_of_getElem? (i := 6) rfl)) (ty := .byte) (by decide) rfl rfl (g := mkF m 48 #[.val (.ref a), .val (.ref c'), .val (.int (0 : Int32)), .val (.int (3 : Int32)), .val .null, .val (.ref r9)] [(.int (0 : Int32)), (.ref a)]) rfl rfl (hb hby own_d_jdk_42_method_149_code_48)
  have N42 := Fr.snoc X37 N35 ab
  have Z43 : n0 ≤ h40.size := Nat.le_trans Z27 (Keep.of_wr W41).1
  have K44 : Keep h0 h40 [a] := K26.wr W41 (Or.inl (by simp))
  have F45 := S18.wr W41
  have F46 := A20.other W41 (Nat.ne_of_gt lt22)
  have F47 := F23.wr W41
  have F48 := F24.other W41 (Or.inr (slot_ne (a0 := a0) (C := "java/lang/String") (t := (.array .byte)) (t' := .byte) (Or.inr (hw _ (List.mem_of_getElem? (i := 20) rfl))) (Or.inr (hw _ (List.mem_of_getElem? (i := 21) rfl))) (by decide) (by decide) (by decide)))
  have F49 := F25.same W41
  refine OGoal.mp (S' := (T36.setTop (mkF m 51 #[.val (.ref a), .val (.ref c'), .val (.int (0 : Int32)), .val (.int (3 : Int32)), .val .null, .val (.ref r9)] []))) (fun _ k => st39 _ k) ?_
  refine OGoal.mp (S' := (T36.setTop (mkF m 52 #[.val (.ref a), .val (.ref c'), .val (.int (0 : Int32)), .val (.int (3 : Int32)), .val .null, .val (.ref r9)] [(.ref a)]))) (fun _ k => XS.aloadN X37.here hx rfl (hb hby own_d_jdk_42_method_149_code_51) rfl rfl k) ?_
  refine OGoal.mp (S' := (T36.setTop (mkF m 54 #[.val (.ref a), .val (.ref c'), .val (.int (0 : Int32)), .val (.int (3 : Int32)), .val .null, .val (.ref r9)] [(.ref r9), (.ref a)]))) (fun _ k => XS.aload X37.here hx rfl (hb hby own_d_jdk_42_method_149_code_52) rfl rfl k) ?_
  obtain ⟨T50, h54, X51, e52, W55, st53⟩ := putF X37 hx hZ hown (host := "") (Or.inl (hw _ (List.mem_of_getElem? (i := 24) rfl))) Via.refl e38 F48 F47 (Or.inr ⟨(hw _ (List.mem_of_getElem? (i := 20) rfl)), rfl, hnm⟩) (hw _ (List.mem_of_getElem? (i := 6) rfl)) (ty := (.array .byte)) (by decide) rfl rfl (g := mkF m 54 #[.val (.ref a), .val (.ref c'), .val (.int (0 : Int32)), .val (.int (3 : Int32)), .val .null, .val (.ref r9)] [(.ref r9), (.ref a)]) rfl rfl (hb hby own_d_jdk_42_method_149_code_54)
  have N56 := Fr.snoc X51 N42 ab
  have Z57 : n0 ≤ h54.size := Nat.le_trans Z43 (Keep.of_wr W55).1
  have K58 : Keep h0 h54 [a] := K44.wr W55 (Or.inl (by simp))
  have F59 := F45.wr W55
  have F60 := F46.other W55 (Nat.ne_of_gt lt22)
  have F61 := F47.wr W55
  have F62 := F48.same W55
  have F63 := F49.other W55 (Or.inr (slot_ne (a0 := a0) (C := "java/lang/String") (t := .byte) (t' := (.array .byte)) (Or.inr (hw _ (List.mem_of_getElem? (i := 21) rfl))) (Or.inr (hw _ (List.mem_of_getElem? (i := 20) rfl))) (by decide) (by decide) (by decide)))
  refine OGoal.mp (S' := (T50.setTop (mkF m 57 #[.val (.ref a), .val (.ref c'), .val (.int (0 : Int32)), .val (.int (3 : Int32)), .val .null, .val (.ref r9)] []))) (fun _ k => st53 _ k) ?_
  refine oRetV X51 hx hlk hret (hb hby own_d_jdk_42_method_149_code_57) ?_ (by decide) (by decide)
  rw [e52]; exact ⟨rfl, N56, K58, F59, r9, _, F61, F62, F63, F60⟩
theorem own_ef_rmS1_3 (x0 : Addr) (x1 : Addr) (m : MethodId) : entryFrame m #[(.ref x0), (.ref x1)] 2 = mkF m 0 #[.val (.ref x0), .val (.ref x1)] [] := by first | (simp [entryFrame, mkF, argsToLocals, Value.category]; done) | rfl
set_option maxRecDepth 65536 in
set_option maxHeartbeats 40000000 in
theorem rmS1_3 (l : Launch) (Z : State) (a0 : Array Value) (hw : ∀ d ∈ tables_1, d.before a0 Z = true) (a c' : Addr) (h0 : Heap) (n0 : Nat) (Z0 : n0 ≤ h0.size) (cs : Int32) (hcs : ¬ cs = 0) (St : Stt Z h0 cs) (f : Nat → Int32) (hL : Lt f) (Ac : OArr Z h0 c' .char (3 : Int32) (fun k => .int (f k))) (E : Exa Z h0 a "java/lang/String") (Fv : Fld Z h0 a "java/lang/String" "value" "[B" .null) (Fc : Fld Z h0 a "java/lang/String" "coder" "B" (.int (0 : Int32))) (ab : n0 ≤ a) :
    OCon l Z (⟨"java/lang/String", "<init>", "([C)V"⟩ : MethodName) jdk_42_method_3_code 2 none ({ frames := 3, cells := 1, slots := 3, locals := 52 } : Room) #[(.ref a), (.ref c')] h0 (fun v h L => v = none ∧ Fr n0 L ∧ Keep h0 h [a] ∧ Stt Z h cs ∧ StrN Z h a (3 : Int32)) := by
  refine OConK.intro (y := (⟨"java/lang/String", "<init>", "([C)V"⟩ : MethodName)) (plainFor_of_name own_pn_java_lang_String) (own_ef_rmS1_3 a c') ?_
  intro p e s m below meth c s₁ hx hby hml hown hnm hret hlk hZ X0 e0
  show OGoal p e below s _ _ _ (s₁.setTop (mkF m 0 #[.val (.ref a), .val (.ref c')] []))
  refine OGoal.mp (S' := (s₁.setTop (mkF m 1 #[.val (.ref a), .val (.ref c')] [(.ref a)]))) (fun _ k => XS.aloadN X0.here hx rfl (hb hby own_d_jdk_42_method_3_code_0) rfl rfl k) ?_
  refine OGoal.mp (S' := (s₁.setTop (mkF m 2 #[.val (.ref a), .val (.ref c')] [(.ref c'), (.ref a)]))) (fun _ k => XS.aloadN X0.here hx rfl (hb hby own_d_jdk_42_method_3_code_1) rfl rfl k) ?_
  refine OGoal.mp (S' := (s₁.setTop (mkF m 3 #[.val (.ref a), .val (.ref c')] [(.int (0 : Int32)), (.ref c'), (.ref a)]))) (fun _ k => XS.iconst X0.here hx rfl (hb hby own_d_jdk_42_method_3_code_2) k) ?_
  refine OGoal.mp (S' := (s₁.setTop (mkF m 4 #[.val (.ref a), .val (.ref c')] [(.ref c'), (.int (0 : Int32)), (.ref c'), (.ref a)]))) (fun _ k => XS.aloadN X0.here hx rfl (hb hby own_d_jdk_42_method_3_code_3) rfl rfl k) ?_
  refine OGoal.mp (S' := (s₁.setTop (mkF m 5 #[.val (.ref a), .val (.ref c')] [(.int (3 : Int32)), (.int (0 : Int32)), (.ref c'), (.ref a)]))) (fun _ k => oLen X0 hx hZ e0 Ac (g := mkF m 4 #[.val (.ref a), .val (.ref c')] [(.ref c'), (.int (0 : Int32)), (.ref c'), (.ref a)]) rfl rfl (hb hby own_d_jdk_42_method_3_code_4) k) ?_
  refine OGoal.mp (S' := (s₁.setTop (mkF m 6 #[.val (.ref a), .val (.ref c')] [.null, (.int (3 : Int32)), (.int (0 : Int32)), (.ref c'), (.ref a)]))) (fun _ k => XS.aconstNull X0.here hx rfl (hb hby own_d_jdk_42_method_3_code_5) k) ?_
  refine oCallN (y := (⟨"java/lang/String", "<init>", "([CIILjava/lang/Void;)V"⟩ : MethodName)) X0 hx hZ rfl hown (hw _ (List.mem_of_getElem? (i := 11) rfl)) (hw _ (List.mem_of_getElem? (i := 12) rfl)) (hw _ (List.mem_of_getElem? (i := 7) rfl)) (hw _ (List.mem_of_getElem? (i := 14) rfl)) (by decide) (rmSI_3 l Z a0 hw a c' h0 n0 Z0 cs hcs St f hL Ac E Fv Fc ab) e0 [(.ref c'), (.int (0 : Int32)), (.int (3 : Int32)), .null] [] rfl rfl (by rw [hml]; rfl) (lenOf own_pd___CIILjava_lang_Void__V rfl) 0 (Nat.le_of_eq rfl) (by decide) (by decide) (by decide) (by decide) (hb hby own_d_jdk_42_method_3_code_6) ?_
  intro v1 T2 L3 X4 q5
  obtain ⟨rfl, N6, K7, S8, D9⟩ := q5
  have N10 := Fr.app (Fr.nil n0) N6
  show OGoal p e below s _ _ _ (T2.setTop (mkF m 9 #[.val (.ref a), .val (.ref c')] []))
  refine oRetV X4 hx hlk hret (hb hby own_d_jdk_42_method_3_code_9) ?_ (by decide) (by decide)
  exact ⟨rfl, N10, K7, S8, D9⟩
theorem own_d_method_2_code_0 : decode method_2_code 0 = .ok (.iload_n 1, 1) := by decide +kernel
theorem own_d_method_2_code_1 : decode method_2_code 1 = .ok (.sipush 255, 3) := by decide +kernel
theorem own_d_method_2_code_4 : decode method_2_code 4 = .ok (.iand, 1) := by decide +kernel
theorem own_d_method_2_code_5 : decode method_2_code 5 = .ok (.i2c, 1) := by decide +kernel
theorem own_d_method_2_code_6 : decode method_2_code 6 = .ok (.istore_n 3, 1) := by decide +kernel
theorem own_d_method_2_code_7 : decode method_2_code 7 = .ok (.iload_n 1, 1) := by decide +kernel
theorem own_d_method_2_code_8 : decode method_2_code 8 = .ok (.bipush 8, 2) := by decide +kernel
theorem own_d_method_2_code_10 : decode method_2_code 10 = .ok (.iushr, 1) := by decide +kernel
theorem own_d_method_2_code_11 : decode method_2_code 11 = .ok (.sipush 255, 3) := by decide +kernel
theorem own_d_method_2_code_14 : decode method_2_code 14 = .ok (.iand, 1) := by decide +kernel
theorem own_d_method_2_code_15 : decode method_2_code 15 = .ok (.i2c, 1) := by decide +kernel
theorem own_d_method_2_code_16 : decode method_2_code 16 = .ok (.istore 4, 2) := by decide +kernel
theorem own_d_method_2_code_18 : decode method_2_code 18 = .ok (.iload_n 2, 1) := by decide +kernel
theorem own_d_method_2_code_19 : decode method_2_code 19 = .ok (.sipush 255, 3) := by decide +kernel
theorem own_d_method_2_code_22 : decode method_2_code 22 = .ok (.iand, 1) := by decide +kernel
theorem own_d_method_2_code_23 : decode method_2_code 23 = .ok (.i2c, 1) := by decide +kernel
theorem own_d_method_2_code_24 : decode method_2_code 24 = .ok (.istore 5, 2) := by decide +kernel
theorem own_d_method_2_code_26 : decode method_2_code 26 = .ok (.iload_n 0, 1) := by decide +kernel
theorem own_d_method_2_code_27 : decode method_2_code 27 = .ok (.ifCond .ne 11, 3) := by decide +kernel
theorem own_d_method_2_code_30 : decode method_2_code 30 = .ok (.iconst 0, 1) := by decide +kernel
theorem own_d_method_2_code_31 : decode method_2_code 31 = .ok (.newarray .char, 2) := by decide +kernel
theorem own_d_method_2_code_33 : decode method_2_code 33 = .ok (.astore 6, 2) := by decide +kernel
theorem own_d_method_2_code_35 : decode method_2_code 35 = .ok (.goto 61, 3) := by decide +kernel
theorem own_d_method_2_code_96 : decode method_2_code 96 = .ok (.new 7, 3) := by decide +kernel
theorem own_d_method_2_code_99 : decode method_2_code 99 = .ok (.dup, 1) := by decide +kernel
theorem own_d_method_2_code_100 : decode method_2_code 100 = .ok (.aload 6, 2) := by decide +kernel
theorem own_d_method_2_code_102 : decode method_2_code 102 = .ok (.invokespecial 9, 3) := by decide +kernel
theorem own_pd___C_V : parseMethodDescriptor "([C)V" = some ⟨[(.array .char)], none⟩ := by decide +kernel
theorem own_d_method_2_code_105 : decode method_2_code 105 = .ok (.areturn, 1) := by decide +kernel
theorem own_pn_com_example_deadlock_to_diagnosis_deadlocktodiagnosis_reader_LineScannerAtEndPinLaw : plainName "com/example/deadlock_to_diagnosis/deadlocktodiagnosis/reader/LineScannerAtEndPinLaw" = true := by first | (simp [plainName, overriddenIn]; done) | decide +kernel
theorem own_ef_rmDr0 (x0 : Int32) (x1 : Int32) (x2 : Int32) (m : MethodId) : entryFrame m #[(.int x0), (.int x1), (.int x2)] 7 = mkF m 0 #[.val (.int x0), .val (.int x1), .val (.int x2), .unset, .unset, .unset, .unset] [] := by first | (simp [entryFrame, mkF, argsToLocals, Value.category]; done) | rfl
set_option maxRecDepth 65536 in
set_option maxHeartbeats 40000000 in
theorem rmDr0 (l : Launch) (Z : State) (a0 : Array Value) (hw : ∀ d ∈ tables_1, d.before a0 Z = true) (x1 x2 : Int32) (h0 : Heap) (n0 : Nat) (Z0 : n0 ≤ h0.size) (cs : Int32) (hcs : ¬ cs = 0) (St : Stt Z h0 cs)  (hkp : ∀ (b : Addr) (cl : Cell), Z.heap[b]? = some cl → h0[b]? = some cl) (hcw : Jvm.Lit.compactW.before a0 Z = true) (hch : Jvm.Lit.constHeld Z "java/lang/String" 7) :
    OConW l Z (⟨"com/example/deadlock_to_diagnosis/deadlocktodiagnosis/reader/LineScannerAtEndPinLaw", "drawn", "(III)Ljava/lang/String;"⟩ : MethodName) method_2_code 7 (some (.object "java/lang/String")) ({ frames := 3, cells := 4, slots := 8, locals := 43 } : Room) #[(.int (0 : Int32)), (.int x1), (.int x2)] h0 (fun v h L => ∃ a, v = some (.ref a) ∧ Fr n0 L ∧ Keep h0 h [] ∧ Stt Z h cs ∧ StrN Z h a (0 : Int32)) := by
  refine OConKW.intro (y := (⟨"com/example/deadlock_to_diagnosis/deadlocktodiagnosis/reader/LineScannerAtEndPinLaw", "drawn", "(III)Ljava/lang/String;"⟩ : MethodName)) (plainFor_of_name own_pn_com_example_deadlock_to_diagnosis_deadlocktodiagnosis_reader_LineScannerAtEndPinLaw) (own_ef_rmDr0 (0 : Int32) x1 x2) ?_
  intro p e s m below meth c s₁ hx hby hml hown hnm hret hlk hZ hI hsh hS0 X0 e0
  have := rng32 x1
  have := rng32 x2
  have l1 : (255 : Int32).toInt = 255 := by decide
  show OGoalW p e below s _ _ _ (s₁.setTop (mkF m 0 #[.val (.int (0 : Int32)), .val (.int x1), .val (.int x2), .unset, .unset, .unset, .unset] []))
  refine OGoalW.mp (S' := (s₁.setTop (mkF m 1 #[.val (.int (0 : Int32)), .val (.int x1), .val (.int x2), .unset, .unset, .unset, .unset] [(.int x1)]))) (fun _ k => XS.iloadN X0.here hx rfl (hb hby own_d_method_2_code_0) rfl k) ?_
  refine OGoalW.mp (S' := (s₁.setTop (mkF m 4 #[.val (.int (0 : Int32)), .val (.int x1), .val (.int x2), .unset, .unset, .unset, .unset] [(.int (255 : Int32)), (.int x1)]))) (fun _ k => XS.sipush X0.here hx rfl (hb hby own_d_method_2_code_1) k) ?_
  refine OGoalW.mp (S' := (s₁.setTop (mkF m 5 #[.val (.int (0 : Int32)), .val (.int x1), .val (.int x2), .unset, .unset, .unset, .unset] [(.int (x1 &&& (255 : Int32)))]))) (fun _ k => XS.iand X0.here hx rfl (hb hby own_d_method_2_code_4) rfl k) ?_
  obtain ⟨u2, hu2⟩ : ∃ z : Int32, z = (x1 &&& (255 : Int32)) := ⟨_, rfl⟩
  rw [← hu2]
  have t3 : u2.toInt = (x1).toInt % 256 := by rw [hu2]; exact c_mask x1 (255 : Int32) 8 (by decide) (by decide)
  have r4 := rng32 u2
  refine OGoalW.mp (S' := (s₁.setTop (mkF m 6 #[.val (.int (0 : Int32)), .val (.int x1), .val (.int x2), .unset, .unset, .unset, .unset] [(.int ((u2).toUInt32.toUInt16.toUInt32.toInt32))]))) (fun _ k => XT.i2c X0.here hx rfl (hb hby own_d_method_2_code_5) rfl k) ?_
  obtain ⟨u5, hu5⟩ : ∃ z : Int32, z = ((u2).toUInt32.toUInt16.toUInt32.toInt32) := ⟨_, rfl⟩
  rw [← hu5]
  have t6 : (u5.toInt - (u2).toInt) % 65536 = 0 ∧ 0 ≤ u5.toInt ∧ u5.toInt < 65536 := by rw [hu5]; exact c_i2c u2
  have r7 := rng32 u5
  refine OGoalW.mp (S' := (s₁.setTop (mkF m 7 #[.val (.int (0 : Int32)), .val (.int x1), .val (.int x2), .val (.int u5), .unset, .unset, .unset] []))) (fun _ k => XS.istoreN X0.here hx rfl (hb hby own_d_method_2_code_6) rfl (l' := #[.val (.int (0 : Int32)), .val (.int x1), .val (.int x2), .val (.int u5), .unset, .unset, .unset]) rfl k) ?_
  refine OGoalW.mp (S' := (s₁.setTop (mkF m 8 #[.val (.int (0 : Int32)), .val (.int x1), .val (.int x2), .val (.int u5), .unset, .unset, .unset] [(.int x1)]))) (fun _ k => XS.iloadN X0.here hx rfl (hb hby own_d_method_2_code_7) rfl k) ?_
  refine OGoalW.mp (S' := (s₁.setTop (mkF m 10 #[.val (.int (0 : Int32)), .val (.int x1), .val (.int x2), .val (.int u5), .unset, .unset, .unset] [(.int (8 : Int32)), (.int x1)]))) (fun _ k => XS.bipush X0.here hx rfl (hb hby own_d_method_2_code_8) k) ?_
  refine OGoalW.mp (S' := (s₁.setTop (mkF m 11 #[.val (.int (0 : Int32)), .val (.int x1), .val (.int x2), .val (.int u5), .unset, .unset, .unset] [(.int (XT.ushr x1 (8 : Int32)))]))) (fun _ k => XT.iushr X0.here hx rfl (hb hby own_d_method_2_code_10) rfl k) ?_
  obtain ⟨u8, hu8⟩ : ∃ z : Int32, z = (XT.ushr x1 (8 : Int32)) := ⟨_, rfl⟩
  rw [← hu8]
  have l9 : (8 : Int32).toInt = 8 := by decide
  have t10 : u8.toInt = (x1).toInt % 4294967296 / 256 := by rw [hu8]; exact c_iushr x1 (8 : Int32) 8 (by decide) (by decide)
  have r11 := rng32 u8
  refine OGoalW.mp (S' := (s₁.setTop (mkF m 14 #[.val (.int (0 : Int32)), .val (.int x1), .val (.int x2), .val (.int u5), .unset, .unset, .unset] [(.int (255 : Int32)), (.int u8)]))) (fun _ k => XS.sipush X0.here hx rfl (hb hby own_d_method_2_code_11) k) ?_
  refine OGoalW.mp (S' := (s₁.setTop (mkF m 15 #[.val (.int (0 : Int32)), .val (.int x1), .val (.int x2), .val (.int u5), .unset, .unset, .unset] [(.int (u8 &&& (255 : Int32)))]))) (fun _ k => XS.iand X0.here hx rfl (hb hby own_d_method_2_code_14) rfl k) ?_
  obtain ⟨u12, hu12⟩ : ∃ z : Int32, z = (u8 &&& (255 : Int32)) := ⟨_, rfl⟩
  rw [← hu12]
  have t13 : u12.toInt = (u8).toInt % 256 := by rw [hu12]; exact c_mask u8 (255 : Int32) 8 (by decide) (by decide)
  have r14 := rng32 u12
  refine OGoalW.mp (S' := (s₁.setTop (mkF m 16 #[.val (.int (0 : Int32)), .val (.int x1), .val (.int x2), .val (.int u5), .unset, .unset, .unset] [(.int ((u12).toUInt32.toUInt16.toUInt32.toInt32))]))) (fun _ k => XT.i2c X0.here hx rfl (hb hby own_d_method_2_code_15) rfl k) ?_
  obtain ⟨u15, hu15⟩ : ∃ z : Int32, z = ((u12).toUInt32.toUInt16.toUInt32.toInt32) := ⟨_, rfl⟩
  rw [← hu15]
  have t16 : (u15.toInt - (u12).toInt) % 65536 = 0 ∧ 0 ≤ u15.toInt ∧ u15.toInt < 65536 := by rw [hu15]; exact c_i2c u12
  have r17 := rng32 u15
  refine OGoalW.mp (S' := (s₁.setTop (mkF m 18 #[.val (.int (0 : Int32)), .val (.int x1), .val (.int x2), .val (.int u5), .val (.int u15), .unset, .unset] []))) (fun _ k => XS.istore X0.here hx rfl (hb hby own_d_method_2_code_16) rfl (l' := #[.val (.int (0 : Int32)), .val (.int x1), .val (.int x2), .val (.int u5), .val (.int u15), .unset, .unset]) rfl k) ?_
  refine OGoalW.mp (S' := (s₁.setTop (mkF m 19 #[.val (.int (0 : Int32)), .val (.int x1), .val (.int x2), .val (.int u5), .val (.int u15), .unset, .unset] [(.int x2)]))) (fun _ k => XS.iloadN X0.here hx rfl (hb hby own_d_method_2_code_18) rfl k) ?_
  refine OGoalW.mp (S' := (s₁.setTop (mkF m 22 #[.val (.int (0 : Int32)), .val (.int x1), .val (.int x2), .val (.int u5), .val (.int u15), .unset, .unset] [(.int (255 : Int32)), (.int x2)]))) (fun _ k => XS.sipush X0.here hx rfl (hb hby own_d_method_2_code_19) k) ?_
  refine OGoalW.mp (S' := (s₁.setTop (mkF m 23 #[.val (.int (0 : Int32)), .val (.int x1), .val (.int x2), .val (.int u5), .val (.int u15), .unset, .unset] [(.int (x2 &&& (255 : Int32)))]))) (fun _ k => XS.iand X0.here hx rfl (hb hby own_d_method_2_code_22) rfl k) ?_
  obtain ⟨u18, hu18⟩ : ∃ z : Int32, z = (x2 &&& (255 : Int32)) := ⟨_, rfl⟩
  rw [← hu18]
  have t19 : u18.toInt = (x2).toInt % 256 := by rw [hu18]; exact c_mask x2 (255 : Int32) 8 (by decide) (by decide)
  have r20 := rng32 u18
  refine OGoalW.mp (S' := (s₁.setTop (mkF m 24 #[.val (.int (0 : Int32)), .val (.int x1), .val (.int x2), .val (.int u5), .val (.int u15), .unset, .unset] [(.int ((u18).toUInt32.toUInt16.toUInt32.toInt32))]))) (fun _ k => XT.i2c X0.here hx rfl (hb hby own_d_method_2_code_23) rfl k) ?_
  obtain ⟨u21, hu21⟩ : ∃ z : Int32, z = ((u18).toUInt32.toUInt16.toUInt32.toInt32) := ⟨_, rfl⟩
  rw [← hu21]
  have t22 : (u21.toInt - (u18).toInt) % 65536 = 0 ∧ 0 ≤ u21.toInt ∧ u21.toInt < 65536 := by rw [hu21]; exact c_i2c u18
  have r23 := rng32 u21
  refine OGoalW.mp (S' := (s₁.setTop (mkF m 26 #[.val (.int (0 : Int32)), .val (.int x1), .val (.int x2), .val (.int u5), .val (.int u15), .val (.int u21), .unset] []))) (fun _ k => XS.istore X0.here hx rfl (hb hby own_d_method_2_code_24) rfl (l' := #[.val (.int (0 : Int32)), .val (.int x1), .val (.int x2), .val (.int u5), .val (.int u15), .val (.int u21), .unset]) rfl k) ?_
  refine OGoalW.mp (S' := (s₁.setTop (mkF m 27 #[.val (.int (0 : Int32)), .val (.int x1), .val (.int x2), .val (.int u5), .val (.int u15), .val (.int u21), .unset] [(.int (0 : Int32))]))) (fun _ k => XS.iloadN X0.here hx rfl (hb hby own_d_method_2_code_26) rfl k) ?_
  refine OGoalW.mp (S' := (s₁.setTop (mkF m 30 #[.val (.int (0 : Int32)), .val (.int x1), .val (.int x2), .val (.int u5), .val (.int u15), .val (.int u21), .unset] []))) (fun _ k => XS.ifNo X0.here hx rfl (hb hby own_d_method_2_code_27) rfl (XT.i0_ne_f (by decide)) k) ?_
  refine OGoalW.mp (S' := (s₁.setTop (mkF m 31 #[.val (.int (0 : Int32)), .val (.int x1), .val (.int x2), .val (.int u5), .val (.int u15), .val (.int u21), .unset] [(.int (0 : Int32))]))) (fun _ k => XS.iconst X0.here hx rfl (hb hby own_d_method_2_code_30) k) ?_
  obtain ⟨T24, h28, c31, X25, e26, E29, A30, XA34, st27⟩ := newPE X0 hx hZ (hw _ (List.mem_of_getElem? (i := 4) rfl)) e0 (g := mkF m 31 #[.val (.int (0 : Int32)), .val (.int x1), .val (.int x2), .val (.int u5), .val (.int u15), .val (.int u21), .unset] [(.int (0 : Int32))]) rfl (hb hby own_d_method_2_code_31) rfl (by decide) (cap := 0) (by decide) (by decide) (by decide) (by decide) (ad := "[C") (by rfl)
  obtain ⟨a32, g33⟩ : ∃ z, z = h0.size := ⟨_, rfl⟩
  rw [← g33] at A30 XA34 st27
  have fr35 : h0.size ≤ a32 := by rw [g33]; exact (Keep.refl h0 []).1
  have K36 : Keep h0 h28 [] := (Keep.refl h0 []).ext E29
  have F37 := St.ext E29
  have F38 : OArr Z h28 a32 .char (0 : Int32) (fun _ => .int 0 : Nat → Value) := OArr.new A30 (by decide)
  have Z39 : n0 ≤ h28.size := Nat.le_trans Z0 E29.1
  have ab40 : n0 ≤ a32 := Nat.le_trans Z0 (Nat.le_of_eq g33.symm)
  refine OGoalW.mp (S' := (T24.setTop (mkF m 33 #[.val (.int (0 : Int32)), .val (.int x1), .val (.int x2), .val (.int u5), .val (.int u15), .val (.int u21), .unset] [(.ref a32)]))) (fun _ k => st27 _ k) ?_
  refine OGoalW.mp (S' := (T24.setTop (mkF m 35 #[.val (.int (0 : Int32)), .val (.int x1), .val (.int x2), .val (.int u5), .val (.int u15), .val (.int u21), .val (.ref a32)] []))) (fun _ k => XS.astore X25.here hx rfl (hb hby own_d_method_2_code_33) rfl rfl (l' := #[.val (.int (0 : Int32)), .val (.int x1), .val (.int x2), .val (.int u5), .val (.int u15), .val (.int u21), .val (.ref a32)]) rfl k) ?_
  refine OGoalW.mp (S' := (T24.setTop (mkF m 96 #[.val (.int (0 : Int32)), .val (.int x1), .val (.int x2), .val (.int u5), .val (.int u15), .val (.int u21), .val (.ref a32)] []))) (fun _ k => XS.goto X25.here hx rfl (pc0 := 35) (pc' := 96) rfl (hb hby own_d_method_2_code_35) (by decide) (by decide) k) ?_
  obtain ⟨T41, h45, X42, e43, E46, A47, D48, -, st44⟩ := newO X25 hx hZ hown (hw _ (List.mem_of_getElem? (i := 5) rfl)) (hw _ (List.mem_of_getElem? (i := 6) rfl)) (hw _ (List.mem_of_getElem? (i := 7) rfl)) e26 (g := mkF m 96 #[.val (.int (0 : Int32)), .val (.int x1), .val (.int x2), .val (.int u5), .val (.int u15), .val (.int u21), .val (.ref a32)] []) rfl (hb hby own_d_method_2_code_96) (by decide) (by decide)
  obtain ⟨a49, g50⟩ : ∃ z, z = h28.size := ⟨_, rfl⟩
  rw [← g50] at A47 D48 st44
  have lt51 : a32 < a49 := by rw [g50]; exact F38.lt
  have fr52 : h0.size ≤ a49 := by rw [g50]; exact K36.1
  have K53 : Keep h0 h45 [] := K36.ext E46
  have F54 := F37.ext E46
  have F55 := F38.ext E46
  have F56 := XA34.ext E46
  have F57 : Fld Z h45 a49 "java/lang/String" "value" "[B" .null := D48 (Or.inr (hw _ (List.mem_of_getElem? (i := 20) rfl))) (ty := (.array .byte)) (by decide)
  have F58 : Fld Z h45 a49 "java/lang/String" "coder" "B" (.int (0 : Int32)) := D48 (Or.inr (hw _ (List.mem_of_getElem? (i := 21) rfl))) (ty := .byte) (by decide)
  have Z59 : n0 ≤ h45.size := Nat.le_trans Z39 E46.1
  have ab60 : n0 ≤ a49 := Nat.le_trans Z39 (Nat.le_of_eq g50.symm)
  refine OGoalW.mp (S' := (T41.setTop (mkF m 99 #[.val (.int (0 : Int32)), .val (.int x1), .val (.int x2), .val (.int u5), .val (.int u15), .val (.int u21), .val (.ref a32)] [(.ref a49)]))) (fun _ k => st44 _ k) ?_
  refine OGoalW.mp (S' := (T41.setTop (mkF m 100 #[.val (.int (0 : Int32)), .val (.int x1), .val (.int x2), .val (.int u5), .val (.int u15), .val (.int u21), .val (.ref a32)] [(.ref a49), (.ref a49)]))) (fun _ k => XS.dup X42.here hx rfl (hb hby own_d_method_2_code_99) rfl rfl k) ?_
  refine OGoalW.mp (S' := (T41.setTop (mkF m 102 #[.val (.int (0 : Int32)), .val (.int x1), .val (.int x2), .val (.int u5), .val (.int u15), .val (.int u21), .val (.ref a32)] [(.ref a32), (.ref a49), (.ref a49)]))) (fun _ k => XS.aload X42.here hx rfl (hb hby own_d_method_2_code_100) rfl rfl k) ?_
  refine oCallNS (y := (⟨"java/lang/String", "<init>", "([C)V"⟩ : MethodName)) X42 hx hS0 (Nat.le_trans (Nat.le_trans (Nat.le_trans (Nat.le_of_eq (congrArg Array.size hsh)) E29.1) E46.1) (Nat.le_of_eq (congrArg Array.size e43).symm)) hI hZ rfl hown (hw _ (List.mem_of_getElem? (i := 8) rfl)) (hw _ (List.mem_of_getElem? (i := 9) rfl)) (hw _ (List.mem_of_getElem? (i := 7) rfl)) (hw _ (List.mem_of_getElem? (i := 10) rfl)) (by decide) (rmS1_0 l Z a0 hw a49 a32 h45 n0 Z59 cs hcs F54 F55 A47 F57 F58 ab60 (fun b cl q => K53.2.1 b cl (hkp b cl q) nin0) hcw hch) e43 [(.ref a32)] [(.ref a49)] rfl rfl (by rw [hml]; rfl) (lenOf own_pd___C_V rfl) 1 (Nat.le_of_eq rfl) (by decide) (by decide) (by decide) (by decide) (hb hby own_d_method_2_code_102) ?_
  intro v61 T62 L63 X64 hS66 hg67 hZ hown q65
  obtain ⟨rfl, N68, K69, S70, D71⟩ := q65
  have N72 := Fr.app (Fr.nil n0) N68
  have K73 : Keep h0 T62.heap [] := K53.trans K69 (allS (Or.inr fr52) all0)
  show OGoalW p e below s _ _ _ (T62.setTop (mkF m 105 #[.val (.int (0 : Int32)), .val (.int x1), .val (.int x2), .val (.int u5), .val (.int u15), .val (.int u21), .val (.ref a32)] [(.ref a49)]))
  refine oRetAW X64 hS66 (Nat.le_trans (Nat.le_refl _) (Nat.le_of_eq (congrArg Array.size rfl).symm)) hx hlk hret rfl rfl (hb hby own_d_method_2_code_105) ?_ (by decide) (by decide)
  exact ⟨a49, rfl, N72, K73, S70, D71⟩
theorem own_d_method_2_code_38 : decode method_2_code 38 = .ok (.iload_n 0, 1) := by decide +kernel
theorem own_d_method_2_code_39 : decode method_2_code 39 = .ok (.iconst 1, 1) := by decide +kernel
theorem own_d_method_2_code_40 : decode method_2_code 40 = .ok (.if_icmp .ne 15, 3) := by decide +kernel
theorem own_d_method_2_code_43 : decode method_2_code 43 = .ok (.iconst 1, 1) := by decide +kernel
theorem own_d_method_2_code_44 : decode method_2_code 44 = .ok (.newarray .char, 2) := by decide +kernel
theorem own_d_method_2_code_46 : decode method_2_code 46 = .ok (.dup, 1) := by decide +kernel
theorem own_d_method_2_code_47 : decode method_2_code 47 = .ok (.iconst 0, 1) := by decide +kernel
theorem own_d_method_2_code_48 : decode method_2_code 48 = .ok (.iload_n 3, 1) := by decide +kernel
theorem own_d_method_2_code_49 : decode method_2_code 49 = .ok (.castore, 1) := by decide +kernel
theorem own_d_method_2_code_50 : decode method_2_code 50 = .ok (.astore 6, 2) := by decide +kernel
theorem own_d_method_2_code_52 : decode method_2_code 52 = .ok (.goto 44, 3) := by decide +kernel
theorem own_ef_rmDr1 (x0 : Int32) (x1 : Int32) (x2 : Int32) (m : MethodId) : entryFrame m #[(.int x0), (.int x1), (.int x2)] 7 = mkF m 0 #[.val (.int x0), .val (.int x1), .val (.int x2), .unset, .unset, .unset, .unset] [] := by first | (simp [entryFrame, mkF, argsToLocals, Value.category]; done) | rfl
set_option maxRecDepth 65536 in
set_option maxHeartbeats 40000000 in
theorem rmDr1 (l : Launch) (Z : State) (a0 : Array Value) (hw : ∀ d ∈ tables_1, d.before a0 Z = true) (x1 x2 : Int32) (h0 : Heap) (n0 : Nat) (Z0 : n0 ≤ h0.size) (cs : Int32) (hcs : ¬ cs = 0) (St : Stt Z h0 cs)  :
    OCon l Z (⟨"com/example/deadlock_to_diagnosis/deadlocktodiagnosis/reader/LineScannerAtEndPinLaw", "drawn", "(III)Ljava/lang/String;"⟩ : MethodName) method_2_code 7 (some (.object "java/lang/String")) ({ frames := 4, cells := 3, slots := 6, locals := 66 } : Room) #[(.int (1 : Int32)), (.int x1), (.int x2)] h0 (fun v h L => ∃ a, v = some (.ref a) ∧ Fr n0 L ∧ Keep h0 h [] ∧ Stt Z h cs ∧ StrN Z h a (1 : Int32)) := by
  refine OConK.intro (y := (⟨"com/example/deadlock_to_diagnosis/deadlocktodiagnosis/reader/LineScannerAtEndPinLaw", "drawn", "(III)Ljava/lang/String;"⟩ : MethodName)) (plainFor_of_name own_pn_com_example_deadlock_to_diagnosis_deadlocktodiagnosis_reader_LineScannerAtEndPinLaw) (own_ef_rmDr1 (1 : Int32) x1 x2) ?_
  intro p e s m below meth c s₁ hx hby hml hown hnm hret hlk hZ X0 e0
  have := rng32 x1
  have := rng32 x2
  have l1 : (255 : Int32).toInt = 255 := by decide
  show OGoal p e below s _ _ _ (s₁.setTop (mkF m 0 #[.val (.int (1 : Int32)), .val (.int x1), .val (.int x2), .unset, .unset, .unset, .unset] []))
  refine OGoal.mp (S' := (s₁.setTop (mkF m 1 #[.val (.int (1 : Int32)), .val (.int x1), .val (.int x2), .unset, .unset, .unset, .unset] [(.int x1)]))) (fun _ k => XS.iloadN X0.here hx rfl (hb hby own_d_method_2_code_0) rfl k) ?_
  refine OGoal.mp (S' := (s₁.setTop (mkF m 4 #[.val (.int (1 : Int32)), .val (.int x1), .val (.int x2), .unset, .unset, .unset, .unset] [(.int (255 : Int32)), (.int x1)]))) (fun _ k => XS.sipush X0.here hx rfl (hb hby own_d_method_2_code_1) k) ?_
  refine OGoal.mp (S' := (s₁.setTop (mkF m 5 #[.val (.int (1 : Int32)), .val (.int x1), .val (.int x2), .unset, .unset, .unset, .unset] [(.int (x1 &&& (255 : Int32)))]))) (fun _ k => XS.iand X0.here hx rfl (hb hby own_d_method_2_code_4) rfl k) ?_
  obtain ⟨u2, hu2⟩ : ∃ z : Int32, z = (x1 &&& (255 : Int32)) := ⟨_, rfl⟩
  rw [← hu2]
  have t3 : u2.toInt = (x1).toInt % 256 := by rw [hu2]; exact c_mask x1 (255 : Int32) 8 (by decide) (by decide)
  have r4 := rng32 u2
  refine OGoal.mp (S' := (s₁.setTop (mkF m 6 #[.val (.int (1 : Int32)), .val (.int x1), .val (.int x2), .unset, .unset, .unset, .unset] [(.int ((u2).toUInt32.toUInt16.toUInt32.toInt32))]))) (fun _ k => XT.i2c X0.here hx rfl (hb hby own_d_method_2_code_5) rfl k) ?_
  obtain ⟨u5, hu5⟩ : ∃ z : Int32, z = ((u2).toUInt32.toUInt16.toUInt32.toInt32) := ⟨_, rfl⟩
  rw [← hu5]
  have t6 : (u5.toInt - (u2).toInt) % 65536 = 0 ∧ 0 ≤ u5.toInt ∧ u5.toInt < 65536 := by rw [hu5]; exact c_i2c u2
  have r7 := rng32 u5
  refine OGoal.mp (S' := (s₁.setTop (mkF m 7 #[.val (.int (1 : Int32)), .val (.int x1), .val (.int x2), .val (.int u5), .unset, .unset, .unset] []))) (fun _ k => XS.istoreN X0.here hx rfl (hb hby own_d_method_2_code_6) rfl (l' := #[.val (.int (1 : Int32)), .val (.int x1), .val (.int x2), .val (.int u5), .unset, .unset, .unset]) rfl k) ?_
  refine OGoal.mp (S' := (s₁.setTop (mkF m 8 #[.val (.int (1 : Int32)), .val (.int x1), .val (.int x2), .val (.int u5), .unset, .unset, .unset] [(.int x1)]))) (fun _ k => XS.iloadN X0.here hx rfl (hb hby own_d_method_2_code_7) rfl k) ?_
  refine OGoal.mp (S' := (s₁.setTop (mkF m 10 #[.val (.int (1 : Int32)), .val (.int x1), .val (.int x2), .val (.int u5), .unset, .unset, .unset] [(.int (8 : Int32)), (.int x1)]))) (fun _ k => XS.bipush X0.here hx rfl (hb hby own_d_method_2_code_8) k) ?_
  refine OGoal.mp (S' := (s₁.setTop (mkF m 11 #[.val (.int (1 : Int32)), .val (.int x1), .val (.int x2), .val (.int u5), .unset, .unset, .unset] [(.int (XT.ushr x1 (8 : Int32)))]))) (fun _ k => XT.iushr X0.here hx rfl (hb hby own_d_method_2_code_10) rfl k) ?_
  obtain ⟨u8, hu8⟩ : ∃ z : Int32, z = (XT.ushr x1 (8 : Int32)) := ⟨_, rfl⟩
  rw [← hu8]
  have l9 : (8 : Int32).toInt = 8 := by decide
  have t10 : u8.toInt = (x1).toInt % 4294967296 / 256 := by rw [hu8]; exact c_iushr x1 (8 : Int32) 8 (by decide) (by decide)
  have r11 := rng32 u8
  refine OGoal.mp (S' := (s₁.setTop (mkF m 14 #[.val (.int (1 : Int32)), .val (.int x1), .val (.int x2), .val (.int u5), .unset, .unset, .unset] [(.int (255 : Int32)), (.int u8)]))) (fun _ k => XS.sipush X0.here hx rfl (hb hby own_d_method_2_code_11) k) ?_
  refine OGoal.mp (S' := (s₁.setTop (mkF m 15 #[.val (.int (1 : Int32)), .val (.int x1), .val (.int x2), .val (.int u5), .unset, .unset, .unset] [(.int (u8 &&& (255 : Int32)))]))) (fun _ k => XS.iand X0.here hx rfl (hb hby own_d_method_2_code_14) rfl k) ?_
  obtain ⟨u12, hu12⟩ : ∃ z : Int32, z = (u8 &&& (255 : Int32)) := ⟨_, rfl⟩
  rw [← hu12]
  have t13 : u12.toInt = (u8).toInt % 256 := by rw [hu12]; exact c_mask u8 (255 : Int32) 8 (by decide) (by decide)
  have r14 := rng32 u12
  refine OGoal.mp (S' := (s₁.setTop (mkF m 16 #[.val (.int (1 : Int32)), .val (.int x1), .val (.int x2), .val (.int u5), .unset, .unset, .unset] [(.int ((u12).toUInt32.toUInt16.toUInt32.toInt32))]))) (fun _ k => XT.i2c X0.here hx rfl (hb hby own_d_method_2_code_15) rfl k) ?_
  obtain ⟨u15, hu15⟩ : ∃ z : Int32, z = ((u12).toUInt32.toUInt16.toUInt32.toInt32) := ⟨_, rfl⟩
  rw [← hu15]
  have t16 : (u15.toInt - (u12).toInt) % 65536 = 0 ∧ 0 ≤ u15.toInt ∧ u15.toInt < 65536 := by rw [hu15]; exact c_i2c u12
  have r17 := rng32 u15
  refine OGoal.mp (S' := (s₁.setTop (mkF m 18 #[.val (.int (1 : Int32)), .val (.int x1), .val (.int x2), .val (.int u5), .val (.int u15), .unset, .unset] []))) (fun _ k => XS.istore X0.here hx rfl (hb hby own_d_method_2_code_16) rfl (l' := #[.val (.int (1 : Int32)), .val (.int x1), .val (.int x2), .val (.int u5), .val (.int u15), .unset, .unset]) rfl k) ?_
  refine OGoal.mp (S' := (s₁.setTop (mkF m 19 #[.val (.int (1 : Int32)), .val (.int x1), .val (.int x2), .val (.int u5), .val (.int u15), .unset, .unset] [(.int x2)]))) (fun _ k => XS.iloadN X0.here hx rfl (hb hby own_d_method_2_code_18) rfl k) ?_
  refine OGoal.mp (S' := (s₁.setTop (mkF m 22 #[.val (.int (1 : Int32)), .val (.int x1), .val (.int x2), .val (.int u5), .val (.int u15), .unset, .unset] [(.int (255 : Int32)), (.int x2)]))) (fun _ k => XS.sipush X0.here hx rfl (hb hby own_d_method_2_code_19) k) ?_
  refine OGoal.mp (S' := (s₁.setTop (mkF m 23 #[.val (.int (1 : Int32)), .val (.int x1), .val (.int x2), .val (.int u5), .val (.int u15), .unset, .unset] [(.int (x2 &&& (255 : Int32)))]))) (fun _ k => XS.iand X0.here hx rfl (hb hby own_d_method_2_code_22) rfl k) ?_
  obtain ⟨u18, hu18⟩ : ∃ z : Int32, z = (x2 &&& (255 : Int32)) := ⟨_, rfl⟩
  rw [← hu18]
  have t19 : u18.toInt = (x2).toInt % 256 := by rw [hu18]; exact c_mask x2 (255 : Int32) 8 (by decide) (by decide)
  have r20 := rng32 u18
  refine OGoal.mp (S' := (s₁.setTop (mkF m 24 #[.val (.int (1 : Int32)), .val (.int x1), .val (.int x2), .val (.int u5), .val (.int u15), .unset, .unset] [(.int ((u18).toUInt32.toUInt16.toUInt32.toInt32))]))) (fun _ k => XT.i2c X0.here hx rfl (hb hby own_d_method_2_code_23) rfl k) ?_
  obtain ⟨u21, hu21⟩ : ∃ z : Int32, z = ((u18).toUInt32.toUInt16.toUInt32.toInt32) := ⟨_, rfl⟩
  rw [← hu21]
  have t22 : (u21.toInt - (u18).toInt) % 65536 = 0 ∧ 0 ≤ u21.toInt ∧ u21.toInt < 65536 := by rw [hu21]; exact c_i2c u18
  have r23 := rng32 u21
  refine OGoal.mp (S' := (s₁.setTop (mkF m 26 #[.val (.int (1 : Int32)), .val (.int x1), .val (.int x2), .val (.int u5), .val (.int u15), .val (.int u21), .unset] []))) (fun _ k => XS.istore X0.here hx rfl (hb hby own_d_method_2_code_24) rfl (l' := #[.val (.int (1 : Int32)), .val (.int x1), .val (.int x2), .val (.int u5), .val (.int u15), .val (.int u21), .unset]) rfl k) ?_
  refine OGoal.mp (S' := (s₁.setTop (mkF m 27 #[.val (.int (1 : Int32)), .val (.int x1), .val (.int x2), .val (.int u5), .val (.int u15), .val (.int u21), .unset] [(.int (1 : Int32))]))) (fun _ k => XS.iloadN X0.here hx rfl (hb hby own_d_method_2_code_26) rfl k) ?_
  refine OGoal.mp (S' := (s₁.setTop (mkF m 38 #[.val (.int (1 : Int32)), .val (.int x1), .val (.int x2), .val (.int u5), .val (.int u15), .val (.int u21), .unset] []))) (fun _ k => XS.ifYes X0.here hx rfl (pc0 := 27) (pc' := 38) rfl (hb hby own_d_method_2_code_27) rfl (XT.i0_ne_t (by decide)) (by decide) (by decide) k) ?_
  refine OGoal.mp (S' := (s₁.setTop (mkF m 39 #[.val (.int (1 : Int32)), .val (.int x1), .val (.int x2), .val (.int u5), .val (.int u15), .val (.int u21), .unset] [(.int (1 : Int32))]))) (fun _ k => XS.iloadN X0.here hx rfl (hb hby own_d_method_2_code_38) rfl k) ?_
  refine OGoal.mp (S' := (s₁.setTop (mkF m 40 #[.val (.int (1 : Int32)), .val (.int x1), .val (.int x2), .val (.int u5), .val (.int u15), .val (.int u21), .unset] [(.int (1 : Int32)), (.int (1 : Int32))]))) (fun _ k => XS.iconst X0.here hx rfl (hb hby own_d_method_2_code_39) k) ?_
  refine OGoal.mp (S' := (s₁.setTop (mkF m 43 #[.val (.int (1 : Int32)), .val (.int x1), .val (.int x2), .val (.int u5), .val (.int u15), .val (.int u21), .unset] []))) (fun _ k => XS.icmpNo X0.here hx rfl (hb hby own_d_method_2_code_40) rfl (XT.ii_ne_f (by decide)) k) ?_
  refine OGoal.mp (S' := (s₁.setTop (mkF m 44 #[.val (.int (1 : Int32)), .val (.int x1), .val (.int x2), .val (.int u5), .val (.int u15), .val (.int u21), .unset] [(.int (1 : Int32))]))) (fun _ k => XS.iconst X0.here hx rfl (hb hby own_d_method_2_code_43) k) ?_
  obtain ⟨T24, h28, c31, X25, e26, E29, A30, XA34, st27⟩ := newPE X0 hx hZ (hw _ (List.mem_of_getElem? (i := 4) rfl)) e0 (g := mkF m 44 #[.val (.int (1 : Int32)), .val (.int x1), .val (.int x2), .val (.int u5), .val (.int u15), .val (.int u21), .unset] [(.int (1 : Int32))]) rfl (hb hby own_d_method_2_code_44) rfl (by decide) (cap := 1) (by decide) (by decide) (by decide) (by decide) (ad := "[C") (by rfl)
  obtain ⟨a32, g33⟩ : ∃ z, z = h0.size := ⟨_, rfl⟩
  rw [← g33] at A30 XA34 st27
  have fr35 : h0.size ≤ a32 := by rw [g33]; exact (Keep.refl h0 []).1
  have K36 : Keep h0 h28 [] := (Keep.refl h0 []).ext E29
  have F37 := St.ext E29
  have F38 : OArr Z h28 a32 .char (1 : Int32) (fun _ => .int 0 : Nat → Value) := OArr.new A30 (by decide)
  have Z39 : n0 ≤ h28.size := Nat.le_trans Z0 E29.1
  have ab40 : n0 ≤ a32 := Nat.le_trans Z0 (Nat.le_of_eq g33.symm)
  refine OGoal.mp (S' := (T24.setTop (mkF m 46 #[.val (.int (1 : Int32)), .val (.int x1), .val (.int x2), .val (.int u5), .val (.int u15), .val (.int u21), .unset] [(.ref a32)]))) (fun _ k => st27 _ k) ?_
  refine OGoal.mp (S' := (T24.setTop (mkF m 47 #[.val (.int (1 : Int32)), .val (.int x1), .val (.int x2), .val (.int u5), .val (.int u15), .val (.int u21), .unset] [(.ref a32), (.ref a32)]))) (fun _ k => XS.dup X25.here hx rfl (hb hby own_d_method_2_code_46) rfl rfl k) ?_
  refine OGoal.mp (S' := (T24.setTop (mkF m 48 #[.val (.int (1 : Int32)), .val (.int x1), .val (.int x2), .val (.int u5), .val (.int u15), .val (.int u21), .unset] [(.int (0 : Int32)), (.ref a32), (.ref a32)]))) (fun _ k => XS.iconst X25.here hx rfl (hb hby own_d_method_2_code_47) k) ?_
  refine OGoal.mp (S' := (T24.setTop (mkF m 49 #[.val (.int (1 : Int32)), .val (.int x1), .val (.int x2), .val (.int u5), .val (.int u15), .val (.int u21), .unset] [(.int u5), (.int (0 : Int32)), (.ref a32), (.ref a32)]))) (fun _ k => XS.iloadN X25.here hx rfl (hb hby own_d_method_2_code_48) rfl k) ?_
  obtain ⟨T41, h45, X42, e43, W46, st44⟩ := oStC X25 hx hZ e26 F38 (by decide) (by decide) (oNarC (by omega)) (g := mkF m 49 #[.val (.int (1 : Int32)), .val (.int x1), .val (.int x2), .val (.int u5), .val (.int u15), .val (.int u21), .unset] [(.int u5), (.int (0 : Int32)), (.ref a32), (.ref a32)]) rfl rfl (hb hby own_d_method_2_code_49)
  have N47 := Fr.snoc X42 (Fr.nil n0) ab40
  have K48 : Keep h0 h45 [] := K36.wr W46 (Or.inr fr35)
  have F49 := F37.wr W46
  have F50 : OArr Z h45 a32 .char (1 : Int32) (fun i => if i = ((0 : Int32)).toNatClampNeg then (.int u5) else (fun _ => .int 0 : Nat → Value) i : Nat → Value) := F38.set W46
  have F51 := XA34.wr W46
  have Z52 : n0 ≤ h45.size := Nat.le_trans Z39 (Keep.of_wr W46).1
  refine OGoal.mp (S' := (T41.setTop (mkF m 50 #[.val (.int (1 : Int32)), .val (.int x1), .val (.int x2), .val (.int u5), .val (.int u15), .val (.int u21), .unset] [(.ref a32)]))) (fun _ k => st44 _ k) ?_
  refine OGoal.mp (S' := (T41.setTop (mkF m 52 #[.val (.int (1 : Int32)), .val (.int x1), .val (.int x2), .val (.int u5), .val (.int u15), .val (.int u21), .val (.ref a32)] []))) (fun _ k => XS.astore X42.here hx rfl (hb hby own_d_method_2_code_50) rfl rfl (l' := #[.val (.int (1 : Int32)), .val (.int x1), .val (.int x2), .val (.int u5), .val (.int u15), .val (.int u21), .val (.ref a32)]) rfl k) ?_
  refine OGoal.mp (S' := (T41.setTop (mkF m 96 #[.val (.int (1 : Int32)), .val (.int x1), .val (.int x2), .val (.int u5), .val (.int u15), .val (.int u21), .val (.ref a32)] []))) (fun _ k => XS.goto X42.here hx rfl (pc0 := 52) (pc' := 96) rfl (hb hby own_d_method_2_code_52) (by decide) (by decide) k) ?_
  have A53 : OArr Z h45 a32 .char (1 : Int32) (fun k => .int ((own_f u5 u15 u21) k)) := F50.imp (fun i hi => by have hi2 : i < 1 := hi; exact (match i, hi2 with | 0, _ => rfl))
  have hL : Lt (own_f u5 u15 u21) := by intro k; unfold own_f; split; exact ⟨by omega, by omega⟩; split; exact ⟨by omega, by omega⟩; exact ⟨by omega, by omega⟩
  obtain ⟨T54, h58, X55, e56, E59, A60, D61, -, st57⟩ := newO X42 hx hZ hown (hw _ (List.mem_of_getElem? (i := 5) rfl)) (hw _ (List.mem_of_getElem? (i := 6) rfl)) (hw _ (List.mem_of_getElem? (i := 7) rfl)) e43 (g := mkF m 96 #[.val (.int (1 : Int32)), .val (.int x1), .val (.int x2), .val (.int u5), .val (.int u15), .val (.int u21), .val (.ref a32)] []) rfl (hb hby own_d_method_2_code_96) (by decide) (by decide)
  obtain ⟨a62, g63⟩ : ∃ z, z = h45.size := ⟨_, rfl⟩
  rw [← g63] at A60 D61 st57
  have lt64 : a32 < a62 := by rw [g63]; exact A53.lt
  have fr65 : h0.size ≤ a62 := by rw [g63]; exact K48.1
  have K66 : Keep h0 h58 [] := K48.ext E59
  have F67 := F49.ext E59
  have F68 := A53.ext E59
  have F69 := F51.ext E59
  have F70 : Fld Z h58 a62 "java/lang/String" "value" "[B" .null := D61 (Or.inr (hw _ (List.mem_of_getElem? (i := 20) rfl))) (ty := (.array .byte)) (by decide)
  have F71 : Fld Z h58 a62 "java/lang/String" "coder" "B" (.int (0 : Int32)) := D61 (Or.inr (hw _ (List.mem_of_getElem? (i := 21) rfl))) (ty := .byte) (by decide)
  have Z72 : n0 ≤ h58.size := Nat.le_trans Z52 E59.1
  have ab73 : n0 ≤ a62 := Nat.le_trans Z52 (Nat.le_of_eq g63.symm)
  refine OGoal.mp (S' := (T54.setTop (mkF m 99 #[.val (.int (1 : Int32)), .val (.int x1), .val (.int x2), .val (.int u5), .val (.int u15), .val (.int u21), .val (.ref a32)] [(.ref a62)]))) (fun _ k => st57 _ k) ?_
  refine OGoal.mp (S' := (T54.setTop (mkF m 100 #[.val (.int (1 : Int32)), .val (.int x1), .val (.int x2), .val (.int u5), .val (.int u15), .val (.int u21), .val (.ref a32)] [(.ref a62), (.ref a62)]))) (fun _ k => XS.dup X55.here hx rfl (hb hby own_d_method_2_code_99) rfl rfl k) ?_
  refine OGoal.mp (S' := (T54.setTop (mkF m 102 #[.val (.int (1 : Int32)), .val (.int x1), .val (.int x2), .val (.int u5), .val (.int u15), .val (.int u21), .val (.ref a32)] [(.ref a32), (.ref a62), (.ref a62)]))) (fun _ k => XS.aload X55.here hx rfl (hb hby own_d_method_2_code_100) rfl rfl k) ?_
  refine oCallN (y := (⟨"java/lang/String", "<init>", "([C)V"⟩ : MethodName)) X55 hx hZ rfl hown (hw _ (List.mem_of_getElem? (i := 8) rfl)) (hw _ (List.mem_of_getElem? (i := 9) rfl)) (hw _ (List.mem_of_getElem? (i := 7) rfl)) (hw _ (List.mem_of_getElem? (i := 10) rfl)) (by decide) (rmS1_1 l Z a0 hw a62 a32 h58 n0 Z72 cs hcs F67 (own_f u5 u15 u21) hL F68 A60 F70 F71 ab73) e56 [(.ref a32)] [(.ref a62)] rfl rfl (by rw [hml]; rfl) (lenOf own_pd___C_V rfl) 1 (Nat.le_of_eq rfl) (by decide) (by decide) (by decide) (by decide) (hb hby own_d_method_2_code_102) ?_
  intro v74 T75 L76 X77 q78
  obtain ⟨rfl, N79, K80, S81, D82⟩ := q78
  have N83 := Fr.app N47 N79
  have K84 : Keep h0 T75.heap [] := K66.trans K80 (allS (Or.inr fr65) all0)
  show OGoal p e below s _ _ _ (T75.setTop (mkF m 105 #[.val (.int (1 : Int32)), .val (.int x1), .val (.int x2), .val (.int u5), .val (.int u15), .val (.int u21), .val (.ref a32)] [(.ref a62)]))
  refine oRetA X77 hx hlk hret rfl rfl (hb hby own_d_method_2_code_105) ?_ (by decide) (by decide)
  exact ⟨a62, rfl, N83, K84, S81, D82⟩
theorem own_d_method_2_code_55 : decode method_2_code 55 = .ok (.iload_n 0, 1) := by decide +kernel
theorem own_d_method_2_code_56 : decode method_2_code 56 = .ok (.iconst 2, 1) := by decide +kernel
theorem own_d_method_2_code_57 : decode method_2_code 57 = .ok (.if_icmp .ne 20, 3) := by decide +kernel
theorem own_d_method_2_code_60 : decode method_2_code 60 = .ok (.iconst 2, 1) := by decide +kernel
theorem own_d_method_2_code_61 : decode method_2_code 61 = .ok (.newarray .char, 2) := by decide +kernel
theorem own_d_method_2_code_63 : decode method_2_code 63 = .ok (.dup, 1) := by decide +kernel
theorem own_d_method_2_code_64 : decode method_2_code 64 = .ok (.iconst 0, 1) := by decide +kernel
theorem own_d_method_2_code_65 : decode method_2_code 65 = .ok (.iload_n 3, 1) := by decide +kernel
theorem own_d_method_2_code_66 : decode method_2_code 66 = .ok (.castore, 1) := by decide +kernel
theorem own_d_method_2_code_67 : decode method_2_code 67 = .ok (.dup, 1) := by decide +kernel
theorem own_d_method_2_code_68 : decode method_2_code 68 = .ok (.iconst 1, 1) := by decide +kernel
theorem own_d_method_2_code_69 : decode method_2_code 69 = .ok (.iload 4, 2) := by decide +kernel
theorem own_d_method_2_code_71 : decode method_2_code 71 = .ok (.castore, 1) := by decide +kernel
theorem own_d_method_2_code_72 : decode method_2_code 72 = .ok (.astore 6, 2) := by decide +kernel
theorem own_d_method_2_code_74 : decode method_2_code 74 = .ok (.goto 22, 3) := by decide +kernel
theorem own_ef_rmDr2 (x0 : Int32) (x1 : Int32) (x2 : Int32) (m : MethodId) : entryFrame m #[(.int x0), (.int x1), (.int x2)] 7 = mkF m 0 #[.val (.int x0), .val (.int x1), .val (.int x2), .unset, .unset, .unset, .unset] [] := by first | (simp [entryFrame, mkF, argsToLocals, Value.category]; done) | rfl
set_option maxRecDepth 65536 in
set_option maxHeartbeats 40000000 in
theorem rmDr2 (l : Launch) (Z : State) (a0 : Array Value) (hw : ∀ d ∈ tables_1, d.before a0 Z = true) (x1 x2 : Int32) (h0 : Heap) (n0 : Nat) (Z0 : n0 ≤ h0.size) (cs : Int32) (hcs : ¬ cs = 0) (St : Stt Z h0 cs)  :
    OCon l Z (⟨"com/example/deadlock_to_diagnosis/deadlocktodiagnosis/reader/LineScannerAtEndPinLaw", "drawn", "(III)Ljava/lang/String;"⟩ : MethodName) method_2_code 7 (some (.object "java/lang/String")) ({ frames := 4, cells := 3, slots := 8, locals := 66 } : Room) #[(.int (2 : Int32)), (.int x1), (.int x2)] h0 (fun v h L => ∃ a, v = some (.ref a) ∧ Fr n0 L ∧ Keep h0 h [] ∧ Stt Z h cs ∧ StrN Z h a (2 : Int32)) := by
  refine OConK.intro (y := (⟨"com/example/deadlock_to_diagnosis/deadlocktodiagnosis/reader/LineScannerAtEndPinLaw", "drawn", "(III)Ljava/lang/String;"⟩ : MethodName)) (plainFor_of_name own_pn_com_example_deadlock_to_diagnosis_deadlocktodiagnosis_reader_LineScannerAtEndPinLaw) (own_ef_rmDr2 (2 : Int32) x1 x2) ?_
  intro p e s m below meth c s₁ hx hby hml hown hnm hret hlk hZ X0 e0
  have := rng32 x1
  have := rng32 x2
  have l1 : (255 : Int32).toInt = 255 := by decide
  show OGoal p e below s _ _ _ (s₁.setTop (mkF m 0 #[.val (.int (2 : Int32)), .val (.int x1), .val (.int x2), .unset, .unset, .unset, .unset] []))
  refine OGoal.mp (S' := (s₁.setTop (mkF m 1 #[.val (.int (2 : Int32)), .val (.int x1), .val (.int x2), .unset, .unset, .unset, .unset] [(.int x1)]))) (fun _ k => XS.iloadN X0.here hx rfl (hb hby own_d_method_2_code_0) rfl k) ?_
  refine OGoal.mp (S' := (s₁.setTop (mkF m 4 #[.val (.int (2 : Int32)), .val (.int x1), .val (.int x2), .unset, .unset, .unset, .unset] [(.int (255 : Int32)), (.int x1)]))) (fun _ k => XS.sipush X0.here hx rfl (hb hby own_d_method_2_code_1) k) ?_
  refine OGoal.mp (S' := (s₁.setTop (mkF m 5 #[.val (.int (2 : Int32)), .val (.int x1), .val (.int x2), .unset, .unset, .unset, .unset] [(.int (x1 &&& (255 : Int32)))]))) (fun _ k => XS.iand X0.here hx rfl (hb hby own_d_method_2_code_4) rfl k) ?_
  obtain ⟨u2, hu2⟩ : ∃ z : Int32, z = (x1 &&& (255 : Int32)) := ⟨_, rfl⟩
  rw [← hu2]
  have t3 : u2.toInt = (x1).toInt % 256 := by rw [hu2]; exact c_mask x1 (255 : Int32) 8 (by decide) (by decide)
  have r4 := rng32 u2
  refine OGoal.mp (S' := (s₁.setTop (mkF m 6 #[.val (.int (2 : Int32)), .val (.int x1), .val (.int x2), .unset, .unset, .unset, .unset] [(.int ((u2).toUInt32.toUInt16.toUInt32.toInt32))]))) (fun _ k => XT.i2c X0.here hx rfl (hb hby own_d_method_2_code_5) rfl k) ?_
  obtain ⟨u5, hu5⟩ : ∃ z : Int32, z = ((u2).toUInt32.toUInt16.toUInt32.toInt32) := ⟨_, rfl⟩
  rw [← hu5]
  have t6 : (u5.toInt - (u2).toInt) % 65536 = 0 ∧ 0 ≤ u5.toInt ∧ u5.toInt < 65536 := by rw [hu5]; exact c_i2c u2
  have r7 := rng32 u5
  refine OGoal.mp (S' := (s₁.setTop (mkF m 7 #[.val (.int (2 : Int32)), .val (.int x1), .val (.int x2), .val (.int u5), .unset, .unset, .unset] []))) (fun _ k => XS.istoreN X0.here hx rfl (hb hby own_d_method_2_code_6) rfl (l' := #[.val (.int (2 : Int32)), .val (.int x1), .val (.int x2), .val (.int u5), .unset, .unset, .unset]) rfl k) ?_
  refine OGoal.mp (S' := (s₁.setTop (mkF m 8 #[.val (.int (2 : Int32)), .val (.int x1), .val (.int x2), .val (.int u5), .unset, .unset, .unset] [(.int x1)]))) (fun _ k => XS.iloadN X0.here hx rfl (hb hby own_d_method_2_code_7) rfl k) ?_
  refine OGoal.mp (S' := (s₁.setTop (mkF m 10 #[.val (.int (2 : Int32)), .val (.int x1), .val (.int x2), .val (.int u5), .unset, .unset, .unset] [(.int (8 : Int32)), (.int x1)]))) (fun _ k => XS.bipush X0.here hx rfl (hb hby own_d_method_2_code_8) k) ?_
  refine OGoal.mp (S' := (s₁.setTop (mkF m 11 #[.val (.int (2 : Int32)), .val (.int x1), .val (.int x2), .val (.int u5), .unset, .unset, .unset] [(.int (XT.ushr x1 (8 : Int32)))]))) (fun _ k => XT.iushr X0.here hx rfl (hb hby own_d_method_2_code_10) rfl k) ?_
  obtain ⟨u8, hu8⟩ : ∃ z : Int32, z = (XT.ushr x1 (8 : Int32)) := ⟨_, rfl⟩
  rw [← hu8]
  have l9 : (8 : Int32).toInt = 8 := by decide
  have t10 : u8.toInt = (x1).toInt % 4294967296 / 256 := by rw [hu8]; exact c_iushr x1 (8 : Int32) 8 (by decide) (by decide)
  have r11 := rng32 u8
  refine OGoal.mp (S' := (s₁.setTop (mkF m 14 #[.val (.int (2 : Int32)), .val (.int x1), .val (.int x2), .val (.int u5), .unset, .unset, .unset] [(.int (255 : Int32)), (.int u8)]))) (fun _ k => XS.sipush X0.here hx rfl (hb hby own_d_method_2_code_11) k) ?_
  refine OGoal.mp (S' := (s₁.setTop (mkF m 15 #[.val (.int (2 : Int32)), .val (.int x1), .val (.int x2), .val (.int u5), .unset, .unset, .unset] [(.int (u8 &&& (255 : Int32)))]))) (fun _ k => XS.iand X0.here hx rfl (hb hby own_d_method_2_code_14) rfl k) ?_
  obtain ⟨u12, hu12⟩ : ∃ z : Int32, z = (u8 &&& (255 : Int32)) := ⟨_, rfl⟩
  rw [← hu12]
  have t13 : u12.toInt = (u8).toInt % 256 := by rw [hu12]; exact c_mask u8 (255 : Int32) 8 (by decide) (by decide)
  have r14 := rng32 u12
  refine OGoal.mp (S' := (s₁.setTop (mkF m 16 #[.val (.int (2 : Int32)), .val (.int x1), .val (.int x2), .val (.int u5), .unset, .unset, .unset] [(.int ((u12).toUInt32.toUInt16.toUInt32.toInt32))]))) (fun _ k => XT.i2c X0.here hx rfl (hb hby own_d_method_2_code_15) rfl k) ?_
  obtain ⟨u15, hu15⟩ : ∃ z : Int32, z = ((u12).toUInt32.toUInt16.toUInt32.toInt32) := ⟨_, rfl⟩
  rw [← hu15]
  have t16 : (u15.toInt - (u12).toInt) % 65536 = 0 ∧ 0 ≤ u15.toInt ∧ u15.toInt < 65536 := by rw [hu15]; exact c_i2c u12
  have r17 := rng32 u15
  refine OGoal.mp (S' := (s₁.setTop (mkF m 18 #[.val (.int (2 : Int32)), .val (.int x1), .val (.int x2), .val (.int u5), .val (.int u15), .unset, .unset] []))) (fun _ k => XS.istore X0.here hx rfl (hb hby own_d_method_2_code_16) rfl (l' := #[.val (.int (2 : Int32)), .val (.int x1), .val (.int x2), .val (.int u5), .val (.int u15), .unset, .unset]) rfl k) ?_
  refine OGoal.mp (S' := (s₁.setTop (mkF m 19 #[.val (.int (2 : Int32)), .val (.int x1), .val (.int x2), .val (.int u5), .val (.int u15), .unset, .unset] [(.int x2)]))) (fun _ k => XS.iloadN X0.here hx rfl (hb hby own_d_method_2_code_18) rfl k) ?_
  refine OGoal.mp (S' := (s₁.setTop (mkF m 22 #[.val (.int (2 : Int32)), .val (.int x1), .val (.int x2), .val (.int u5), .val (.int u15), .unset, .unset] [(.int (255 : Int32)), (.int x2)]))) (fun _ k => XS.sipush X0.here hx rfl (hb hby own_d_method_2_code_19) k) ?_
  refine OGoal.mp (S' := (s₁.setTop (mkF m 23 #[.val (.int (2 : Int32)), .val (.int x1), .val (.int x2), .val (.int u5), .val (.int u15), .unset, .unset] [(.int (x2 &&& (255 : Int32)))]))) (fun _ k => XS.iand X0.here hx rfl (hb hby own_d_method_2_code_22) rfl k) ?_
  obtain ⟨u18, hu18⟩ : ∃ z : Int32, z = (x2 &&& (255 : Int32)) := ⟨_, rfl⟩
  rw [← hu18]
  have t19 : u18.toInt = (x2).toInt % 256 := by rw [hu18]; exact c_mask x2 (255 : Int32) 8 (by decide) (by decide)
  have r20 := rng32 u18
  refine OGoal.mp (S' := (s₁.setTop (mkF m 24 #[.val (.int (2 : Int32)), .val (.int x1), .val (.int x2), .val (.int u5), .val (.int u15), .unset, .unset] [(.int ((u18).toUInt32.toUInt16.toUInt32.toInt32))]))) (fun _ k => XT.i2c X0.here hx rfl (hb hby own_d_method_2_code_23) rfl k) ?_
  obtain ⟨u21, hu21⟩ : ∃ z : Int32, z = ((u18).toUInt32.toUInt16.toUInt32.toInt32) := ⟨_, rfl⟩
  rw [← hu21]
  have t22 : (u21.toInt - (u18).toInt) % 65536 = 0 ∧ 0 ≤ u21.toInt ∧ u21.toInt < 65536 := by rw [hu21]; exact c_i2c u18
  have r23 := rng32 u21
  refine OGoal.mp (S' := (s₁.setTop (mkF m 26 #[.val (.int (2 : Int32)), .val (.int x1), .val (.int x2), .val (.int u5), .val (.int u15), .val (.int u21), .unset] []))) (fun _ k => XS.istore X0.here hx rfl (hb hby own_d_method_2_code_24) rfl (l' := #[.val (.int (2 : Int32)), .val (.int x1), .val (.int x2), .val (.int u5), .val (.int u15), .val (.int u21), .unset]) rfl k) ?_
  refine OGoal.mp (S' := (s₁.setTop (mkF m 27 #[.val (.int (2 : Int32)), .val (.int x1), .val (.int x2), .val (.int u5), .val (.int u15), .val (.int u21), .unset] [(.int (2 : Int32))]))) (fun _ k => XS.iloadN X0.here hx rfl (hb hby own_d_method_2_code_26) rfl k) ?_
  refine OGoal.mp (S' := (s₁.setTop (mkF m 38 #[.val (.int (2 : Int32)), .val (.int x1), .val (.int x2), .val (.int u5), .val (.int u15), .val (.int u21), .unset] []))) (fun _ k => XS.ifYes X0.here hx rfl (pc0 := 27) (pc' := 38) rfl (hb hby own_d_method_2_code_27) rfl (XT.i0_ne_t (by decide)) (by decide) (by decide) k) ?_
  refine OGoal.mp (S' := (s₁.setTop (mkF m 39 #[.val (.int (2 : Int32)), .val (.int x1), .val (.int x2), .val (.int u5), .val (.int u15), .val (.int u21), .unset] [(.int (2 : Int32))]))) (fun _ k => XS.iloadN X0.here hx rfl (hb hby own_d_method_2_code_38) rfl k) ?_
  refine OGoal.mp (S' := (s₁.setTop (mkF m 40 #[.val (.int (2 : Int32)), .val (.int x1), .val (.int x2), .val (.int u5), .val (.int u15), .val (.int u21), .unset] [(.int (1 : Int32)), (.int (2 : Int32))]))) (fun _ k => XS.iconst X0.here hx rfl (hb hby own_d_method_2_code_39) k) ?_
  refine OGoal.mp (S' := (s₁.setTop (mkF m 55 #[.val (.int (2 : Int32)), .val (.int x1), .val (.int x2), .val (.int u5), .val (.int u15), .val (.int u21), .unset] []))) (fun _ k => XS.icmpYes X0.here hx rfl (pc0 := 40) (pc' := 55) rfl (hb hby own_d_method_2_code_40) rfl (XT.ii_ne_t (by decide)) (by decide) (by decide) k) ?_
  refine OGoal.mp (S' := (s₁.setTop (mkF m 56 #[.val (.int (2 : Int32)), .val (.int x1), .val (.int x2), .val (.int u5), .val (.int u15), .val (.int u21), .unset] [(.int (2 : Int32))]))) (fun _ k => XS.iloadN X0.here hx rfl (hb hby own_d_method_2_code_55) rfl k) ?_
  refine OGoal.mp (S' := (s₁.setTop (mkF m 57 #[.val (.int (2 : Int32)), .val (.int x1), .val (.int x2), .val (.int u5), .val (.int u15), .val (.int u21), .unset] [(.int (2 : Int32)), (.int (2 : Int32))]))) (fun _ k => XS.iconst X0.here hx rfl (hb hby own_d_method_2_code_56) k) ?_
  refine OGoal.mp (S' := (s₁.setTop (mkF m 60 #[.val (.int (2 : Int32)), .val (.int x1), .val (.int x2), .val (.int u5), .val (.int u15), .val (.int u21), .unset] []))) (fun _ k => XS.icmpNo X0.here hx rfl (hb hby own_d_method_2_code_57) rfl (XT.ii_ne_f (by decide)) k) ?_
  refine OGoal.mp (S' := (s₁.setTop (mkF m 61 #[.val (.int (2 : Int32)), .val (.int x1), .val (.int x2), .val (.int u5), .val (.int u15), .val (.int u21), .unset] [(.int (2 : Int32))]))) (fun _ k => XS.iconst X0.here hx rfl (hb hby own_d_method_2_code_60) k) ?_
  obtain ⟨T24, h28, c31, X25, e26, E29, A30, XA34, st27⟩ := newPE X0 hx hZ (hw _ (List.mem_of_getElem? (i := 4) rfl)) e0 (g := mkF m 61 #[.val (.int (2 : Int32)), .val (.int x1), .val (.int x2), .val (.int u5), .val (.int u15), .val (.int u21), .unset] [(.int (2 : Int32))]) rfl (hb hby own_d_method_2_code_61) rfl (by decide) (cap := 2) (by decide) (by decide) (by decide) (by decide) (ad := "[C") (by rfl)
  obtain ⟨a32, g33⟩ : ∃ z, z = h0.size := ⟨_, rfl⟩
  rw [← g33] at A30 XA34 st27
  have fr35 : h0.size ≤ a32 := by rw [g33]; exact (Keep.refl h0 []).1
  have K36 : Keep h0 h28 [] := (Keep.refl h0 []).ext E29
  have F37 := St.ext E29
  have F38 : OArr Z h28 a32 .char (2 : Int32) (fun _ => .int 0 : Nat → Value) := OArr.new A30 (by decide)
  have Z39 : n0 ≤ h28.size := Nat.le_trans Z0 E29.1
  have ab40 : n0 ≤ a32 := Nat.le_trans Z0 (Nat.le_of_eq g33.symm)
  refine OGoal.mp (S' := (T24.setTop (mkF m 63 #[.val (.int (2 : Int32)), .val (.int x1), .val (.int x2), .val (.int u5), .val (.int u15), .val (.int u21), .unset] [(.ref a32)]))) (fun _ k => st27 _ k) ?_
  refine OGoal.mp (S' := (T24.setTop (mkF m 64 #[.val (.int (2 : Int32)), .val (.int x1), .val (.int x2), .val (.int u5), .val (.int u15), .val (.int u21), .unset] [(.ref a32), (.ref a32)]))) (fun _ k => XS.dup X25.here hx rfl (hb hby own_d_method_2_code_63) rfl rfl k) ?_
  refine OGoal.mp (S' := (T24.setTop (mkF m 65 #[.val (.int (2 : Int32)), .val (.int x1), .val (.int x2), .val (.int u5), .val (.int u15), .val (.int u21), .unset] [(.int (0 : Int32)), (.ref a32), (.ref a32)]))) (fun _ k => XS.iconst X25.here hx rfl (hb hby own_d_method_2_code_64) k) ?_
  refine OGoal.mp (S' := (T24.setTop (mkF m 66 #[.val (.int (2 : Int32)), .val (.int x1), .val (.int x2), .val (.int u5), .val (.int u15), .val (.int u21), .unset] [(.int u5), (.int (0 : Int32)), (.ref a32), (.ref a32)]))) (fun _ k => XS.iloadN X25.here hx rfl (hb hby own_d_method_2_code_65) rfl k) ?_
  obtain ⟨T41, h45, X42, e43, W46, st44⟩ := oStC X25 hx hZ e26 F38 (by decide) (by decide) (oNarC (by omega)) (g := mkF m 66 #[.val (.int (2 : Int32)), .val (.int x1), .val (.int x2), .val (.int u5), .val (.int u15), .val (.int u21), .unset] [(.int u5), (.int (0 : Int32)), (.ref a32), (.ref a32)]) rfl rfl (hb hby own_d_method_2_code_66)
  have N47 := Fr.snoc X42 (Fr.nil n0) ab40
  have K48 : Keep h0 h45 [] := K36.wr W46 (Or.inr fr35)
  have F49 := F37.wr W46
  have F50 : OArr Z h45 a32 .char (2 : Int32) (fun i => if i = ((0 : Int32)).toNatClampNeg then (.int u5) else (fun _ => .int 0 : Nat → Value) i : Nat → Value) := F38.set W46
  have F51 := XA34.wr W46
  have Z52 : n0 ≤ h45.size := Nat.le_trans Z39 (Keep.of_wr W46).1
  refine OGoal.mp (S' := (T41.setTop (mkF m 67 #[.val (.int (2 : Int32)), .val (.int x1), .val (.int x2), .val (.int u5), .val (.int u15), .val (.int u21), .unset] [(.ref a32)]))) (fun _ k => st44 _ k) ?_
  refine OGoal.mp (S' := (T41.setTop (mkF m 68 #[.val (.int (2 : Int32)), .val (.int x1), .val (.int x2), .val (.int u5), .val (.int u15), .val (.int u21), .unset] [(.ref a32), (.ref a32)]))) (fun _ k => XS.dup X42.here hx rfl (hb hby own_d_method_2_code_67) rfl rfl k) ?_
  refine OGoal.mp (S' := (T41.setTop (mkF m 69 #[.val (.int (2 : Int32)), .val (.int x1), .val (.int x2), .val (.int u5), .val (.int u15), .val (.int u21), .unset] [(.int (1 : Int32)), (.ref a32), (.ref a32)]))) (fun _ k => XS.iconst X42.here hx rfl (hb hby own_d_method_2_code_68) k) ?_
  refine OGoal.mp (S' := (T41.setTop (mkF m 71 #[.val (.int (2 : Int32)), .val (.int x1), .val (.int x2), .val (.int u5), .val (.int u15), .val (.int u21), .unset] [(.int u15), (.int (1 : Int32)), (.ref a32), (.ref a32)]))) (fun _ k => XS.iload X42.here hx rfl (hb hby own_d_method_2_code_69) rfl k) ?_
  obtain ⟨T53, h57, X54, e55, W58, st56⟩ := oStC X42 hx hZ e43 F50 (by decide) (by decide) (oNarC (by omega)) (g := mkF m 71 #[.val (.int (2 : Int32)), .val (.int x1), .val (.int x2), .val (.int u5), .val (.int u15), .val (.int u21), .unset] [(.int u15), (.int (1 : Int32)), (.ref a32), (.ref a32)]) rfl rfl (hb hby own_d_method_2_code_71)
  have N59 := Fr.snoc X54 N47 ab40
  have K60 : Keep h0 h57 [] := K48.wr W58 (Or.inr fr35)
  have F61 := F49.wr W58
  have F62 : OArr Z h57 a32 .char (2 : Int32) (fun i => if i = ((1 : Int32)).toNatClampNeg then (.int u15) else (fun i => if i = ((0 : Int32)).toNatClampNeg then (.int u5) else (fun _ => .int 0 : Nat → Value) i : Nat → Value) i : Nat → Value) := F50.set W58
  have F63 := F51.wr W58
  have Z64 : n0 ≤ h57.size := Nat.le_trans Z52 (Keep.of_wr W58).1
  refine OGoal.mp (S' := (T53.setTop (mkF m 72 #[.val (.int (2 : Int32)), .val (.int x1), .val (.int x2), .val (.int u5), .val (.int u15), .val (.int u21), .unset] [(.ref a32)]))) (fun _ k => st56 _ k) ?_
  refine OGoal.mp (S' := (T53.setTop (mkF m 74 #[.val (.int (2 : Int32)), .val (.int x1), .val (.int x2), .val (.int u5), .val (.int u15), .val (.int u21), .val (.ref a32)] []))) (fun _ k => XS.astore X54.here hx rfl (hb hby own_d_method_2_code_72) rfl rfl (l' := #[.val (.int (2 : Int32)), .val (.int x1), .val (.int x2), .val (.int u5), .val (.int u15), .val (.int u21), .val (.ref a32)]) rfl k) ?_
  refine OGoal.mp (S' := (T53.setTop (mkF m 96 #[.val (.int (2 : Int32)), .val (.int x1), .val (.int x2), .val (.int u5), .val (.int u15), .val (.int u21), .val (.ref a32)] []))) (fun _ k => XS.goto X54.here hx rfl (pc0 := 74) (pc' := 96) rfl (hb hby own_d_method_2_code_74) (by decide) (by decide) k) ?_
  have A65 : OArr Z h57 a32 .char (2 : Int32) (fun k => .int ((own_f u5 u15 u21) k)) := F62.imp (fun i hi => by have hi2 : i < 2 := hi; exact (match i, hi2 with | 0, _ => rfl | 1, _ => rfl))
  have hL : Lt (own_f u5 u15 u21) := by intro k; unfold own_f; split; exact ⟨by omega, by omega⟩; split; exact ⟨by omega, by omega⟩; exact ⟨by omega, by omega⟩
  obtain ⟨T66, h70, X67, e68, E71, A72, D73, -, st69⟩ := newO X54 hx hZ hown (hw _ (List.mem_of_getElem? (i := 5) rfl)) (hw _ (List.mem_of_getElem? (i := 6) rfl)) (hw _ (List.mem_of_getElem? (i := 7) rfl)) e55 (g := mkF m 96 #[.val (.int (2 : Int32)), .val (.int x1), .val (.int x2), .val (.int u5), .val (.int u15), .val (.int u21), .val (.ref a32)] []) rfl (hb hby own_d_method_2_code_96) (by decide) (by decide)
  obtain ⟨a74, g75⟩ : ∃ z, z = h57.size := ⟨_, rfl⟩
  rw [← g75] at A72 D73 st69
  have lt76 : a32 < a74 := by rw [g75]; exact A65.lt
  have fr77 : h0.size ≤ a74 := by rw [g75]; exact K60.1
  have K78 : Keep h0 h70 [] := K60.ext E71
  have F79 := F61.ext E71
  have F80 := A65.ext E71
  have F81 := F63.ext E71
  have F82 : Fld Z h70 a74 "java/lang/String" "value" "[B" .null := D73 (Or.inr (hw _ (List.mem_of_getElem? (i := 20) rfl))) (ty := (.array .byte)) (by decide)
  have F83 : Fld Z h70 a74 "java/lang/String" "coder" "B" (.int (0 : Int32)) := D73 (Or.inr (hw _ (List.mem_of_getElem? (i := 21) rfl))) (ty := .byte) (by decide)
  have Z84 : n0 ≤ h70.size := Nat.le_trans Z64 E71.1
  have ab85 : n0 ≤ a74 := Nat.le_trans Z64 (Nat.le_of_eq g75.symm)
  refine OGoal.mp (S' := (T66.setTop (mkF m 99 #[.val (.int (2 : Int32)), .val (.int x1), .val (.int x2), .val (.int u5), .val (.int u15), .val (.int u21), .val (.ref a32)] [(.ref a74)]))) (fun _ k => st69 _ k) ?_
  refine OGoal.mp (S' := (T66.setTop (mkF m 100 #[.val (.int (2 : Int32)), .val (.int x1), .val (.int x2), .val (.int u5), .val (.int u15), .val (.int u21), .val (.ref a32)] [(.ref a74), (.ref a74)]))) (fun _ k => XS.dup X67.here hx rfl (hb hby own_d_method_2_code_99) rfl rfl k) ?_
  refine OGoal.mp (S' := (T66.setTop (mkF m 102 #[.val (.int (2 : Int32)), .val (.int x1), .val (.int x2), .val (.int u5), .val (.int u15), .val (.int u21), .val (.ref a32)] [(.ref a32), (.ref a74), (.ref a74)]))) (fun _ k => XS.aload X67.here hx rfl (hb hby own_d_method_2_code_100) rfl rfl k) ?_
  refine oCallN (y := (⟨"java/lang/String", "<init>", "([C)V"⟩ : MethodName)) X67 hx hZ rfl hown (hw _ (List.mem_of_getElem? (i := 8) rfl)) (hw _ (List.mem_of_getElem? (i := 9) rfl)) (hw _ (List.mem_of_getElem? (i := 7) rfl)) (hw _ (List.mem_of_getElem? (i := 10) rfl)) (by decide) (rmS1_2 l Z a0 hw a74 a32 h70 n0 Z84 cs hcs F79 (own_f u5 u15 u21) hL F80 A72 F82 F83 ab85) e68 [(.ref a32)] [(.ref a74)] rfl rfl (by rw [hml]; rfl) (lenOf own_pd___C_V rfl) 1 (Nat.le_of_eq rfl) (by decide) (by decide) (by decide) (by decide) (hb hby own_d_method_2_code_102) ?_
  intro v86 T87 L88 X89 q90
  obtain ⟨rfl, N91, K92, S93, D94⟩ := q90
  have N95 := Fr.app N59 N91
  have K96 : Keep h0 T87.heap [] := K78.trans K92 (allS (Or.inr fr77) all0)
  show OGoal p e below s _ _ _ (T87.setTop (mkF m 105 #[.val (.int (2 : Int32)), .val (.int x1), .val (.int x2), .val (.int u5), .val (.int u15), .val (.int u21), .val (.ref a32)] [(.ref a74)]))
  refine oRetA X89 hx hlk hret rfl rfl (hb hby own_d_method_2_code_105) ?_ (by decide) (by decide)
  exact ⟨a74, rfl, N95, K96, S93, D94⟩
theorem own_d_method_2_code_77 : decode method_2_code 77 = .ok (.iconst 3, 1) := by decide +kernel
theorem own_d_method_2_code_78 : decode method_2_code 78 = .ok (.newarray .char, 2) := by decide +kernel
theorem own_d_method_2_code_80 : decode method_2_code 80 = .ok (.dup, 1) := by decide +kernel
theorem own_d_method_2_code_81 : decode method_2_code 81 = .ok (.iconst 0, 1) := by decide +kernel
theorem own_d_method_2_code_82 : decode method_2_code 82 = .ok (.iload_n 3, 1) := by decide +kernel
theorem own_d_method_2_code_83 : decode method_2_code 83 = .ok (.castore, 1) := by decide +kernel
theorem own_d_method_2_code_84 : decode method_2_code 84 = .ok (.dup, 1) := by decide +kernel
theorem own_d_method_2_code_85 : decode method_2_code 85 = .ok (.iconst 1, 1) := by decide +kernel
theorem own_d_method_2_code_86 : decode method_2_code 86 = .ok (.iload 4, 2) := by decide +kernel
theorem own_d_method_2_code_88 : decode method_2_code 88 = .ok (.castore, 1) := by decide +kernel
theorem own_d_method_2_code_89 : decode method_2_code 89 = .ok (.dup, 1) := by decide +kernel
theorem own_d_method_2_code_90 : decode method_2_code 90 = .ok (.iconst 2, 1) := by decide +kernel
theorem own_d_method_2_code_91 : decode method_2_code 91 = .ok (.iload 5, 2) := by decide +kernel
theorem own_d_method_2_code_93 : decode method_2_code 93 = .ok (.castore, 1) := by decide +kernel
theorem own_d_method_2_code_94 : decode method_2_code 94 = .ok (.astore 6, 2) := by decide +kernel
theorem own_ef_rmDr3 (x0 : Int32) (x1 : Int32) (x2 : Int32) (m : MethodId) : entryFrame m #[(.int x0), (.int x1), (.int x2)] 7 = mkF m 0 #[.val (.int x0), .val (.int x1), .val (.int x2), .unset, .unset, .unset, .unset] [] := by first | (simp [entryFrame, mkF, argsToLocals, Value.category]; done) | rfl
set_option maxRecDepth 65536 in
set_option maxHeartbeats 40000000 in
theorem rmDr3 (l : Launch) (Z : State) (a0 : Array Value) (hw : ∀ d ∈ tables_1, d.before a0 Z = true) (x1 x2 : Int32) (h0 : Heap) (n0 : Nat) (Z0 : n0 ≤ h0.size) (cs : Int32) (hcs : ¬ cs = 0) (St : Stt Z h0 cs)  :
    OCon l Z (⟨"com/example/deadlock_to_diagnosis/deadlocktodiagnosis/reader/LineScannerAtEndPinLaw", "drawn", "(III)Ljava/lang/String;"⟩ : MethodName) method_2_code 7 (some (.object "java/lang/String")) ({ frames := 4, cells := 3, slots := 10, locals := 66 } : Room) #[(.int (3 : Int32)), (.int x1), (.int x2)] h0 (fun v h L => ∃ a, v = some (.ref a) ∧ Fr n0 L ∧ Keep h0 h [] ∧ Stt Z h cs ∧ StrN Z h a (3 : Int32)) := by
  refine OConK.intro (y := (⟨"com/example/deadlock_to_diagnosis/deadlocktodiagnosis/reader/LineScannerAtEndPinLaw", "drawn", "(III)Ljava/lang/String;"⟩ : MethodName)) (plainFor_of_name own_pn_com_example_deadlock_to_diagnosis_deadlocktodiagnosis_reader_LineScannerAtEndPinLaw) (own_ef_rmDr3 (3 : Int32) x1 x2) ?_
  intro p e s m below meth c s₁ hx hby hml hown hnm hret hlk hZ X0 e0
  have := rng32 x1
  have := rng32 x2
  have l1 : (255 : Int32).toInt = 255 := by decide
  show OGoal p e below s _ _ _ (s₁.setTop (mkF m 0 #[.val (.int (3 : Int32)), .val (.int x1), .val (.int x2), .unset, .unset, .unset, .unset] []))
  refine OGoal.mp (S' := (s₁.setTop (mkF m 1 #[.val (.int (3 : Int32)), .val (.int x1), .val (.int x2), .unset, .unset, .unset, .unset] [(.int x1)]))) (fun _ k => XS.iloadN X0.here hx rfl (hb hby own_d_method_2_code_0) rfl k) ?_
  refine OGoal.mp (S' := (s₁.setTop (mkF m 4 #[.val (.int (3 : Int32)), .val (.int x1), .val (.int x2), .unset, .unset, .unset, .unset] [(.int (255 : Int32)), (.int x1)]))) (fun _ k => XS.sipush X0.here hx rfl (hb hby own_d_method_2_code_1) k) ?_
  refine OGoal.mp (S' := (s₁.setTop (mkF m 5 #[.val (.int (3 : Int32)), .val (.int x1), .val (.int x2), .unset, .unset, .unset, .unset] [(.int (x1 &&& (255 : Int32)))]))) (fun _ k => XS.iand X0.here hx rfl (hb hby own_d_method_2_code_4) rfl k) ?_
  obtain ⟨u2, hu2⟩ : ∃ z : Int32, z = (x1 &&& (255 : Int32)) := ⟨_, rfl⟩
  rw [← hu2]
  have t3 : u2.toInt = (x1).toInt % 256 := by rw [hu2]; exact c_mask x1 (255 : Int32) 8 (by decide) (by decide)
  have r4 := rng32 u2
  refine OGoal.mp (S' := (s₁.setTop (mkF m 6 #[.val (.int (3 : Int32)), .val (.int x1), .val (.int x2), .unset, .unset, .unset, .unset] [(.int ((u2).toUInt32.toUInt16.toUInt32.toInt32))]))) (fun _ k => XT.i2c X0.here hx rfl (hb hby own_d_method_2_code_5) rfl k) ?_
  obtain ⟨u5, hu5⟩ : ∃ z : Int32, z = ((u2).toUInt32.toUInt16.toUInt32.toInt32) := ⟨_, rfl⟩
  rw [← hu5]
  have t6 : (u5.toInt - (u2).toInt) % 65536 = 0 ∧ 0 ≤ u5.toInt ∧ u5.toInt < 65536 := by rw [hu5]; exact c_i2c u2
  have r7 := rng32 u5
  refine OGoal.mp (S' := (s₁.setTop (mkF m 7 #[.val (.int (3 : Int32)), .val (.int x1), .val (.int x2), .val (.int u5), .unset, .unset, .unset] []))) (fun _ k => XS.istoreN X0.here hx rfl (hb hby own_d_method_2_code_6) rfl (l' := #[.val (.int (3 : Int32)), .val (.int x1), .val (.int x2), .val (.int u5), .unset, .unset, .unset]) rfl k) ?_
  refine OGoal.mp (S' := (s₁.setTop (mkF m 8 #[.val (.int (3 : Int32)), .val (.int x1), .val (.int x2), .val (.int u5), .unset, .unset, .unset] [(.int x1)]))) (fun _ k => XS.iloadN X0.here hx rfl (hb hby own_d_method_2_code_7) rfl k) ?_
  refine OGoal.mp (S' := (s₁.setTop (mkF m 10 #[.val (.int (3 : Int32)), .val (.int x1), .val (.int x2), .val (.int u5), .unset, .unset, .unset] [(.int (8 : Int32)), (.int x1)]))) (fun _ k => XS.bipush X0.here hx rfl (hb hby own_d_method_2_code_8) k) ?_
  refine OGoal.mp (S' := (s₁.setTop (mkF m 11 #[.val (.int (3 : Int32)), .val (.int x1), .val (.int x2), .val (.int u5), .unset, .unset, .unset] [(.int (XT.ushr x1 (8 : Int32)))]))) (fun _ k => XT.iushr X0.here hx rfl (hb hby own_d_method_2_code_10) rfl k) ?_
  obtain ⟨u8, hu8⟩ : ∃ z : Int32, z = (XT.ushr x1 (8 : Int32)) := ⟨_, rfl⟩
  rw [← hu8]
  have l9 : (8 : Int32).toInt = 8 := by decide
  have t10 : u8.toInt = (x1).toInt % 4294967296 / 256 := by rw [hu8]; exact c_iushr x1 (8 : Int32) 8 (by decide) (by decide)
  have r11 := rng32 u8
  refine OGoal.mp (S' := (s₁.setTop (mkF m 14 #[.val (.int (3 : Int32)), .val (.int x1), .val (.int x2), .val (.int u5), .unset, .unset, .unset] [(.int (255 : Int32)), (.int u8)]))) (fun _ k => XS.sipush X0.here hx rfl (hb hby own_d_method_2_code_11) k) ?_
  refine OGoal.mp (S' := (s₁.setTop (mkF m 15 #[.val (.int (3 : Int32)), .val (.int x1), .val (.int x2), .val (.int u5), .unset, .unset, .unset] [(.int (u8 &&& (255 : Int32)))]))) (fun _ k => XS.iand X0.here hx rfl (hb hby own_d_method_2_code_14) rfl k) ?_
  obtain ⟨u12, hu12⟩ : ∃ z : Int32, z = (u8 &&& (255 : Int32)) := ⟨_, rfl⟩
  rw [← hu12]
  have t13 : u12.toInt = (u8).toInt % 256 := by rw [hu12]; exact c_mask u8 (255 : Int32) 8 (by decide) (by decide)
  have r14 := rng32 u12
  refine OGoal.mp (S' := (s₁.setTop (mkF m 16 #[.val (.int (3 : Int32)), .val (.int x1), .val (.int x2), .val (.int u5), .unset, .unset, .unset] [(.int ((u12).toUInt32.toUInt16.toUInt32.toInt32))]))) (fun _ k => XT.i2c X0.here hx rfl (hb hby own_d_method_2_code_15) rfl k) ?_
  obtain ⟨u15, hu15⟩ : ∃ z : Int32, z = ((u12).toUInt32.toUInt16.toUInt32.toInt32) := ⟨_, rfl⟩
  rw [← hu15]
  have t16 : (u15.toInt - (u12).toInt) % 65536 = 0 ∧ 0 ≤ u15.toInt ∧ u15.toInt < 65536 := by rw [hu15]; exact c_i2c u12
  have r17 := rng32 u15
  refine OGoal.mp (S' := (s₁.setTop (mkF m 18 #[.val (.int (3 : Int32)), .val (.int x1), .val (.int x2), .val (.int u5), .val (.int u15), .unset, .unset] []))) (fun _ k => XS.istore X0.here hx rfl (hb hby own_d_method_2_code_16) rfl (l' := #[.val (.int (3 : Int32)), .val (.int x1), .val (.int x2), .val (.int u5), .val (.int u15), .unset, .unset]) rfl k) ?_
  refine OGoal.mp (S' := (s₁.setTop (mkF m 19 #[.val (.int (3 : Int32)), .val (.int x1), .val (.int x2), .val (.int u5), .val (.int u15), .unset, .unset] [(.int x2)]))) (fun _ k => XS.iloadN X0.here hx rfl (hb hby own_d_method_2_code_18) rfl k) ?_
  refine OGoal.mp (S' := (s₁.setTop (mkF m 22 #[.val (.int (3 : Int32)), .val (.int x1), .val (.int x2), .val (.int u5), .val (.int u15), .unset, .unset] [(.int (255 : Int32)), (.int x2)]))) (fun _ k => XS.sipush X0.here hx rfl (hb hby own_d_method_2_code_19) k) ?_
  refine OGoal.mp (S' := (s₁.setTop (mkF m 23 #[.val (.int (3 : Int32)), .val (.int x1), .val (.int x2), .val (.int u5), .val (.int u15), .unset, .unset] [(.int (x2 &&& (255 : Int32)))]))) (fun _ k => XS.iand X0.here hx rfl (hb hby own_d_method_2_code_22) rfl k) ?_
  obtain ⟨u18, hu18⟩ : ∃ z : Int32, z = (x2 &&& (255 : Int32)) := ⟨_, rfl⟩
  rw [← hu18]
  have t19 : u18.toInt = (x2).toInt % 256 := by rw [hu18]; exact c_mask x2 (255 : Int32) 8 (by decide) (by decide)
  have r20 := rng32 u18
  refine OGoal.mp (S' := (s₁.setTop (mkF m 24 #[.val (.int (3 : Int32)), .val (.int x1), .val (.int x2), .val (.int u5), .val (.int u15), .unset, .unset] [(.int ((u18).toUInt32.toUInt16.toUInt32.toInt32))]))) (fun _ k => XT.i2c X0.here hx rfl (hb hby own_d_method_2_code_23) rfl k) ?_
  obtain ⟨u21, hu21⟩ : ∃ z : Int32, z = ((u18).toUInt32.toUInt16.toUInt32.toInt32) := ⟨_, rfl⟩
  rw [← hu21]
  have t22 : (u21.toInt - (u18).toInt) % 65536 = 0 ∧ 0 ≤ u21.toInt ∧ u21.toInt < 65536 := by rw [hu21]; exact c_i2c u18
  have r23 := rng32 u21
  refine OGoal.mp (S' := (s₁.setTop (mkF m 26 #[.val (.int (3 : Int32)), .val (.int x1), .val (.int x2), .val (.int u5), .val (.int u15), .val (.int u21), .unset] []))) (fun _ k => XS.istore X0.here hx rfl (hb hby own_d_method_2_code_24) rfl (l' := #[.val (.int (3 : Int32)), .val (.int x1), .val (.int x2), .val (.int u5), .val (.int u15), .val (.int u21), .unset]) rfl k) ?_
  refine OGoal.mp (S' := (s₁.setTop (mkF m 27 #[.val (.int (3 : Int32)), .val (.int x1), .val (.int x2), .val (.int u5), .val (.int u15), .val (.int u21), .unset] [(.int (3 : Int32))]))) (fun _ k => XS.iloadN X0.here hx rfl (hb hby own_d_method_2_code_26) rfl k) ?_
  refine OGoal.mp (S' := (s₁.setTop (mkF m 38 #[.val (.int (3 : Int32)), .val (.int x1), .val (.int x2), .val (.int u5), .val (.int u15), .val (.int u21), .unset] []))) (fun _ k => XS.ifYes X0.here hx rfl (pc0 := 27) (pc' := 38) rfl (hb hby own_d_method_2_code_27) rfl (XT.i0_ne_t (by decide)) (by decide) (by decide) k) ?_
  refine OGoal.mp (S' := (s₁.setTop (mkF m 39 #[.val (.int (3 : Int32)), .val (.int x1), .val (.int x2), .val (.int u5), .val (.int u15), .val (.int u21), .unset] [(.int (3 : Int32))]))) (fun _ k => XS.iloadN X0.here hx rfl (hb hby own_d_method_2_code_38) rfl k) ?_
  refine OGoal.mp (S' := (s₁.setTop (mkF m 40 #[.val (.int (3 : Int32)), .val (.int x1), .val (.int x2), .val (.int u5), .val (.int u15), .val (.int u21), .unset] [(.int (1 : Int32)), (.int (3 : Int32))]))) (fun _ k => XS.iconst X0.here hx rfl (hb hby own_d_method_2_code_39) k) ?_
  refine OGoal.mp (S' := (s₁.setTop (mkF m 55 #[.val (.int (3 : Int32)), .val (.int x1), .val (.int x2), .val (.int u5), .val (.int u15), .val (.int u21), .unset] []))) (fun _ k => XS.icmpYes X0.here hx rfl (pc0 := 40) (pc' := 55) rfl (hb hby own_d_method_2_code_40) rfl (XT.ii_ne_t (by decide)) (by decide) (by decide) k) ?_
  refine OGoal.mp (S' := (s₁.setTop (mkF m 56 #[.val (.int (3 : Int32)), .val (.int x1), .val (.int x2), .val (.int u5), .val (.int u15), .val (.int u21), .unset] [(.int (3 : Int32))]))) (fun _ k => XS.iloadN X0.here hx rfl (hb hby own_d_method_2_code_55) rfl k) ?_
  refine OGoal.mp (S' := (s₁.setTop (mkF m 57 #[.val (.int (3 : Int32)), .val (.int x1), .val (.int x2), .val (.int u5), .val (.int u15), .val (.int u21), .unset] [(.int (2 : Int32)), (.int (3 : Int32))]))) (fun _ k => XS.iconst X0.here hx rfl (hb hby own_d_method_2_code_56) k) ?_
  refine OGoal.mp (S' := (s₁.setTop (mkF m 77 #[.val (.int (3 : Int32)), .val (.int x1), .val (.int x2), .val (.int u5), .val (.int u15), .val (.int u21), .unset] []))) (fun _ k => XS.icmpYes X0.here hx rfl (pc0 := 57) (pc' := 77) rfl (hb hby own_d_method_2_code_57) rfl (XT.ii_ne_t (by decide)) (by decide) (by decide) k) ?_
  refine OGoal.mp (S' := (s₁.setTop (mkF m 78 #[.val (.int (3 : Int32)), .val (.int x1), .val (.int x2), .val (.int u5), .val (.int u15), .val (.int u21), .unset] [(.int (3 : Int32))]))) (fun _ k => XS.iconst X0.here hx rfl (hb hby own_d_method_2_code_77) k) ?_
  obtain ⟨T24, h28, c31, X25, e26, E29, A30, XA34, st27⟩ := newPE X0 hx hZ (hw _ (List.mem_of_getElem? (i := 4) rfl)) e0 (g := mkF m 78 #[.val (.int (3 : Int32)), .val (.int x1), .val (.int x2), .val (.int u5), .val (.int u15), .val (.int u21), .unset] [(.int (3 : Int32))]) rfl (hb hby own_d_method_2_code_78) rfl (by decide) (cap := 3) (by decide) (by decide) (by decide) (by decide) (ad := "[C") (by rfl)
  obtain ⟨a32, g33⟩ : ∃ z, z = h0.size := ⟨_, rfl⟩
  rw [← g33] at A30 XA34 st27
  have fr35 : h0.size ≤ a32 := by rw [g33]; exact (Keep.refl h0 []).1
  have K36 : Keep h0 h28 [] := (Keep.refl h0 []).ext E29
  have F37 := St.ext E29
  have F38 : OArr Z h28 a32 .char (3 : Int32) (fun _ => .int 0 : Nat → Value) := OArr.new A30 (by decide)
  have Z39 : n0 ≤ h28.size := Nat.le_trans Z0 E29.1
  have ab40 : n0 ≤ a32 := Nat.le_trans Z0 (Nat.le_of_eq g33.symm)
  refine OGoal.mp (S' := (T24.setTop (mkF m 80 #[.val (.int (3 : Int32)), .val (.int x1), .val (.int x2), .val (.int u5), .val (.int u15), .val (.int u21), .unset] [(.ref a32)]))) (fun _ k => st27 _ k) ?_
  refine OGoal.mp (S' := (T24.setTop (mkF m 81 #[.val (.int (3 : Int32)), .val (.int x1), .val (.int x2), .val (.int u5), .val (.int u15), .val (.int u21), .unset] [(.ref a32), (.ref a32)]))) (fun _ k => XS.dup X25.here hx rfl (hb hby own_d_method_2_code_80) rfl rfl k) ?_
  refine OGoal.mp (S' := (T24.setTop (mkF m 82 #[.val (.int (3 : Int32)), .val (.int x1), .val (.int x2), .val (.int u5), .val (.int u15), .val (.int u21), .unset] [(.int (0 : Int32)), (.ref a32), (.ref a32)]))) (fun _ k => XS.iconst X25.here hx rfl (hb hby own_d_method_2_code_81) k) ?_
  refine OGoal.mp (S' := (T24.setTop (mkF m 83 #[.val (.int (3 : Int32)), .val (.int x1), .val (.int x2), .val (.int u5), .val (.int u15), .val (.int u21), .unset] [(.int u5), (.int (0 : Int32)), (.ref a32), (.ref a32)]))) (fun _ k => XS.iloadN X25.here hx rfl (hb hby own_d_method_2_code_82) rfl k) ?_
  obtain ⟨T41, h45, X42, e43, W46, st44⟩ := oStC X25 hx hZ e26 F38 (by decide) (by decide) (oNarC (by omega)) (g := mkF m 83 #[.val (.int (3 : Int32)), .val (.int x1), .val (.int x2), .val (.int u5), .val (.int u15), .val (.int u21), .unset] [(.int u5), (.int (0 : Int32)), (.ref a32), (.ref a32)]) rfl rfl (hb hby own_d_method_2_code_83)
  have N47 := Fr.snoc X42 (Fr.nil n0) ab40
  have K48 : Keep h0 h45 [] := K36.wr W46 (Or.inr fr35)
  have F49 := F37.wr W46
  have F50 : OArr Z h45 a32 .char (3 : Int32) (fun i => if i = ((0 : Int32)).toNatClampNeg then (.int u5) else (fun _ => .int 0 : Nat → Value) i : Nat → Value) := F38.set W46
  have F51 := XA34.wr W46
  have Z52 : n0 ≤ h45.size := Nat.le_trans Z39 (Keep.of_wr W46).1
  refine OGoal.mp (S' := (T41.setTop (mkF m 84 #[.val (.int (3 : Int32)), .val (.int x1), .val (.int x2), .val (.int u5), .val (.int u15), .val (.int u21), .unset] [(.ref a32)]))) (fun _ k => st44 _ k) ?_
  refine OGoal.mp (S' := (T41.setTop (mkF m 85 #[.val (.int (3 : Int32)), .val (.int x1), .val (.int x2), .val (.int u5), .val (.int u15), .val (.int u21), .unset] [(.ref a32), (.ref a32)]))) (fun _ k => XS.dup X42.here hx rfl (hb hby own_d_method_2_code_84) rfl rfl k) ?_
  refine OGoal.mp (S' := (T41.setTop (mkF m 86 #[.val (.int (3 : Int32)), .val (.int x1), .val (.int x2), .val (.int u5), .val (.int u15), .val (.int u21), .unset] [(.int (1 : Int32)), (.ref a32), (.ref a32)]))) (fun _ k => XS.iconst X42.here hx rfl (hb hby own_d_method_2_code_85) k) ?_
  refine OGoal.mp (S' := (T41.setTop (mkF m 88 #[.val (.int (3 : Int32)), .val (.int x1), .val (.int x2), .val (.int u5), .val (.int u15), .val (.int u21), .unset] [(.int u15), (.int (1 : Int32)), (.ref a32), (.ref a32)]))) (fun _ k => XS.iload X42.here hx rfl (hb hby own_d_method_2_code_86) rfl k) ?_
  obtain ⟨T53, h57, X54, e55, W58, st56⟩ := oStC X42 hx hZ e43 F50 (by decide) (by decide) (oNarC (by omega)) (g := mkF m 88 #[.val (.int (3 : Int32)), .val (.int x1), .val (.int x2), .val (.int u5), .val (.int u15), .val (.int u21), .unset] [(.int u15), (.int (1 : Int32)), (.ref a32), (.ref a32)]) rfl rfl (hb hby own_d_method_2_code_88)
  have N59 := Fr.snoc X54 N47 ab40
  have K60 : Keep h0 h57 [] := K48.wr W58 (Or.inr fr35)
  have F61 := F49.wr W58
  have F62 : OArr Z h57 a32 .char (3 : Int32) (fun i => if i = ((1 : Int32)).toNatClampNeg then (.int u15) else (fun i => if i = ((0 : Int32)).toNatClampNeg then (.int u5) else (fun _ => .int 0 : Nat → Value) i : Nat → Value) i : Nat → Value) := F50.set W58
  have F63 := F51.wr W58
  have Z64 : n0 ≤ h57.size := Nat.le_trans Z52 (Keep.of_wr W58).1
  refine OGoal.mp (S' := (T53.setTop (mkF m 89 #[.val (.int (3 : Int32)), .val (.int x1), .val (.int x2), .val (.int u5), .val (.int u15), .val (.int u21), .unset] [(.ref a32)]))) (fun _ k => st56 _ k) ?_
  refine OGoal.mp (S' := (T53.setTop (mkF m 90 #[.val (.int (3 : Int32)), .val (.int x1), .val (.int x2), .val (.int u5), .val (.int u15), .val (.int u21), .unset] [(.ref a32), (.ref a32)]))) (fun _ k => XS.dup X54.here hx rfl (hb hby own_d_method_2_code_89) rfl rfl k) ?_
  refine OGoal.mp (S' := (T53.setTop (mkF m 91 #[.val (.int (3 : Int32)), .val (.int x1), .val (.int x2), .val (.int u5), .val (.int u15), .val (.int u21), .unset] [(.int (2 : Int32)), (.ref a32), (.ref a32)]))) (fun _ k => XS.iconst X54.here hx rfl (hb hby own_d_method_2_code_90) k) ?_
  refine OGoal.mp (S' := (T53.setTop (mkF m 93 #[.val (.int (3 : Int32)), .val (.int x1), .val (.int x2), .val (.int u5), .val (.int u15), .val (.int u21), .unset] [(.int u21), (.int (2 : Int32)), (.ref a32), (.ref a32)]))) (fun _ k => XS.iload X54.here hx rfl (hb hby own_d_method_2_code_91) rfl k) ?_
  obtain ⟨T65, h69, X66, e67, W70, st68⟩ := oStC X54 hx hZ e55 F62 (by decide) (by decide) (oNarC (by omega)) (g := mkF m 93 #[.val (.int (3 : Int32)), .val (.int x1), .val (.int x2), .val (.int u5), .val (.int u15), .val (.int u21), .unset] [(.int u21), (.int (2 : Int32)), (.ref a32), (.ref a32)]) rfl rfl (hb hby own_d_method_2_code_93)
  have N71 := Fr.snoc X66 N59 ab40
  have K72 : Keep h0 h69 [] := K60.wr W70 (Or.inr fr35)
  have F73 := F61.wr W70
  have F74 : OArr Z h69 a32 .char (3 : Int32) (fun i => if i = ((2 : Int32)).toNatClampNeg then (.int u21) else (fun i => if i = ((1 : Int32)).toNatClampNeg then (.int u15) else (fun i => if i = ((0 : Int32)).toNatClampNeg then (.int u5) else (fun _ => .int 0 : Nat → Value) i : Nat → Value) i : Nat → Value) i : Nat → Value) := F62.set W70
  have F75 := F63.wr W70
  have Z76 : n0 ≤ h69.size := Nat.le_trans Z64 (Keep.of_wr W70).1
  refine OGoal.mp (S' := (T65.setTop (mkF m 94 #[.val (.int (3 : Int32)), .val (.int x1), .val (.int x2), .val (.int u5), .val (.int u15), .val (.int u21), .unset] [(.ref a32)]))) (fun _ k => st68 _ k) ?_
  refine OGoal.mp (S' := (T65.setTop (mkF m 96 #[.val (.int (3 : Int32)), .val (.int x1), .val (.int x2), .val (.int u5), .val (.int u15), .val (.int u21), .val (.ref a32)] []))) (fun _ k => XS.astore X66.here hx rfl (hb hby own_d_method_2_code_94) rfl rfl (l' := #[.val (.int (3 : Int32)), .val (.int x1), .val (.int x2), .val (.int u5), .val (.int u15), .val (.int u21), .val (.ref a32)]) rfl k) ?_
  have A77 : OArr Z h69 a32 .char (3 : Int32) (fun k => .int ((own_f u5 u15 u21) k)) := F74.imp (fun i hi => by have hi2 : i < 3 := hi; exact (match i, hi2 with | 0, _ => rfl | 1, _ => rfl | 2, _ => rfl))
  have hL : Lt (own_f u5 u15 u21) := by intro k; unfold own_f; split; exact ⟨by omega, by omega⟩; split; exact ⟨by omega, by omega⟩; exact ⟨by omega, by omega⟩
  obtain ⟨T78, h82, X79, e80, E83, A84, D85, -, st81⟩ := newO X66 hx hZ hown (hw _ (List.mem_of_getElem? (i := 5) rfl)) (hw _ (List.mem_of_getElem? (i := 6) rfl)) (hw _ (List.mem_of_getElem? (i := 7) rfl)) e67 (g := mkF m 96 #[.val (.int (3 : Int32)), .val (.int x1), .val (.int x2), .val (.int u5), .val (.int u15), .val (.int u21), .val (.ref a32)] []) rfl (hb hby own_d_method_2_code_96) (by decide) (by decide)
  obtain ⟨a86, g87⟩ : ∃ z, z = h69.size := ⟨_, rfl⟩
  rw [← g87] at A84 D85 st81
  have lt88 : a32 < a86 := by rw [g87]; exact A77.lt
  have fr89 : h0.size ≤ a86 := by rw [g87]; exact K72.1
  have K90 : Keep h0 h82 [] := K72.ext E83
  have F91 := F73.ext E83
  have F92 := A77.ext E83
  have F93 := F75.ext E83
  have F94 : Fld Z h82 a86 "java/lang/String" "value" "[B" .null := D85 (Or.inr (hw _ (List.mem_of_getElem? (i := 20) rfl))) (ty := (.array .byte)) (by decide)
  have F95 : Fld Z h82 a86 "java/lang/String" "coder" "B" (.int (0 : Int32)) := D85 (Or.inr (hw _ (List.mem_of_getElem? (i := 21) rfl))) (ty := .byte) (by decide)
  have Z96 : n0 ≤ h82.size := Nat.le_trans Z76 E83.1
  have ab97 : n0 ≤ a86 := Nat.le_trans Z76 (Nat.le_of_eq g87.symm)
  refine OGoal.mp (S' := (T78.setTop (mkF m 99 #[.val (.int (3 : Int32)), .val (.int x1), .val (.int x2), .val (.int u5), .val (.int u15), .val (.int u21), .val (.ref a32)] [(.ref a86)]))) (fun _ k => st81 _ k) ?_
  refine OGoal.mp (S' := (T78.setTop (mkF m 100 #[.val (.int (3 : Int32)), .val (.int x1), .val (.int x2), .val (.int u5), .val (.int u15), .val (.int u21), .val (.ref a32)] [(.ref a86), (.ref a86)]))) (fun _ k => XS.dup X79.here hx rfl (hb hby own_d_method_2_code_99) rfl rfl k) ?_
  refine OGoal.mp (S' := (T78.setTop (mkF m 102 #[.val (.int (3 : Int32)), .val (.int x1), .val (.int x2), .val (.int u5), .val (.int u15), .val (.int u21), .val (.ref a32)] [(.ref a32), (.ref a86), (.ref a86)]))) (fun _ k => XS.aload X79.here hx rfl (hb hby own_d_method_2_code_100) rfl rfl k) ?_
  refine oCallN (y := (⟨"java/lang/String", "<init>", "([C)V"⟩ : MethodName)) X79 hx hZ rfl hown (hw _ (List.mem_of_getElem? (i := 8) rfl)) (hw _ (List.mem_of_getElem? (i := 9) rfl)) (hw _ (List.mem_of_getElem? (i := 7) rfl)) (hw _ (List.mem_of_getElem? (i := 10) rfl)) (by decide) (rmS1_3 l Z a0 hw a86 a32 h82 n0 Z96 cs hcs F91 (own_f u5 u15 u21) hL F92 A84 F94 F95 ab97) e80 [(.ref a32)] [(.ref a86)] rfl rfl (by rw [hml]; rfl) (lenOf own_pd___C_V rfl) 1 (Nat.le_of_eq rfl) (by decide) (by decide) (by decide) (by decide) (hb hby own_d_method_2_code_102) ?_
  intro v98 T99 L100 X101 q102
  obtain ⟨rfl, N103, K104, S105, D106⟩ := q102
  have N107 := Fr.app N71 N103
  have K108 : Keep h0 T99.heap [] := K90.trans K104 (allS (Or.inr fr89) all0)
  show OGoal p e below s _ _ _ (T99.setTop (mkF m 105 #[.val (.int (3 : Int32)), .val (.int x1), .val (.int x2), .val (.int u5), .val (.int u15), .val (.int u21), .val (.ref a32)] [(.ref a86)]))
  refine oRetA X101 hx hlk hret rfl rfl (hb hby own_d_method_2_code_105) ?_ (by decide) (by decide)
  exact ⟨a86, rfl, N107, K108, S105, D106⟩
theorem own_d_prog_19_method_1_code_0 : decode prog_19_method_1_code 0 = .ok (.aload_n 0, 1) := by decide +kernel
theorem own_d_prog_19_method_1_code_1 : decode prog_19_method_1_code 1 = .ok (.invokespecial 1, 3) := by decide +kernel
theorem own_d_prog_19_method_1_code_4 : decode prog_19_method_1_code 4 = .ok (.aload_n 0, 1) := by decide +kernel
theorem own_d_prog_19_method_1_code_5 : decode prog_19_method_1_code 5 = .ok (.aload_n 1, 1) := by decide +kernel
theorem own_d_prog_19_method_1_code_6 : decode prog_19_method_1_code 6 = .ok (.putfield 7, 3) := by decide +kernel
theorem own_d_prog_19_method_1_code_9 : decode prog_19_method_1_code 9 = .ok (.return_, 1) := by decide +kernel
theorem own_pn_com_example_deadlock_to_diagnosis_deadlocktodiagnosis_reader_LineScanner : plainName "com/example/deadlock_to_diagnosis/deadlocktodiagnosis/reader/LineScanner" = true := by first | (simp [plainName, overriddenIn]; done) | decide +kernel
theorem own_ef_rmLI (x0 : Addr) (x1 : Addr) (m : MethodId) : entryFrame m #[(.ref x0), (.ref x1)] 2 = mkF m 0 #[.val (.ref x0), .val (.ref x1)] [] := by first | (simp [entryFrame, mkF, argsToLocals, Value.category]; done) | rfl
set_option maxRecDepth 65536 in
set_option maxHeartbeats 40000000 in
theorem rmLI (l : Launch) (Z : State) (a0 : Array Value) (hw : ∀ d ∈ tables_1, d.before a0 Z = true) (a b : Addr) (h0 : Heap) (n0 : Nat) (Z0 : n0 ≤ h0.size) (cs : Int32) (hcs : ¬ cs = 0) (St : Stt Z h0 cs) (E : Exa Z h0 a "com/example/deadlock_to_diagnosis/deadlocktodiagnosis/reader/LineScanner") (Fn : Fld Z h0 a "com/example/deadlock_to_diagnosis/deadlocktodiagnosis/reader/LineScanner" "line" "Ljava/lang/String;" .null) (Fa : Fld Z h0 a "com/example/deadlock_to_diagnosis/deadlocktodiagnosis/reader/LineScanner" "at" "I" (.int (0 : Int32))) (ab : n0 ≤ a) :
    OCon l Z (⟨"com/example/deadlock_to_diagnosis/deadlocktodiagnosis/reader/LineScanner", "<init>", "(Ljava/lang/String;)V"⟩ : MethodName) prog_19_method_1_code 2 none ({ frames := 1, cells := 0, slots := 0, locals := 12 } : Room) #[(.ref a), (.ref b)] h0 (fun v h L => v = none ∧ Fr n0 L ∧ Keep h0 h [a] ∧ Exa Z h a "com/example/deadlock_to_diagnosis/deadlocktodiagnosis/reader/LineScanner" ∧ Fld Z h a "com/example/deadlock_to_diagnosis/deadlocktodiagnosis/reader/LineScanner" "line" "Ljava/lang/String;" (.ref b) ∧ Fld Z h a "com/example/deadlock_to_diagnosis/deadlocktodiagnosis/reader/LineScanner" "at" "I" (.int (0 : Int32)) ∧ Stt Z h cs) := by
  refine OConK.intro (y := (⟨"com/example/deadlock_to_diagnosis/deadlocktodiagnosis/reader/LineScanner", "<init>", "(Ljava/lang/String;)V"⟩ : MethodName)) (plainFor_of_name own_pn_com_example_deadlock_to_diagnosis_deadlocktodiagnosis_reader_LineScanner) (own_ef_rmLI a b) ?_
  intro p e s m below meth c s₁ hx hby hml hown hnm hret hlk hZ X0 e0
  show OGoal p e below s _ _ _ (s₁.setTop (mkF m 0 #[.val (.ref a), .val (.ref b)] []))
  refine OGoal.mp (S' := (s₁.setTop (mkF m 1 #[.val (.ref a), .val (.ref b)] [(.ref a)]))) (fun _ k => XS.aloadN X0.here hx rfl (hb hby own_d_prog_19_method_1_code_0) rfl rfl k) ?_
  obtain ⟨T1, X2, e3, st4⟩ := initO X0 hx hZ hown (hw _ (List.mem_of_getElem? (i := 33) rfl)) (hw _ (List.mem_of_getElem? (i := 16) rfl)) (hw _ (List.mem_of_getElem? (i := 17) rfl)) e0 (g := mkF m 1 #[.val (.ref a), .val (.ref b)] [(.ref a)]) rfl (by rw [hml]; rfl) rfl (hb hby own_d_prog_19_method_1_code_1) (by decide) (W := 0) (by show 2 * 0 + _ ≤ _; exact Nat.le_of_eq rfl) (by decide)
  refine OGoal.mp (S' := (T1.setTop (mkF m 4 #[.val (.ref a), .val (.ref b)] []))) (fun _ k => st4 _ k) ?_
  refine OGoal.mp (S' := (T1.setTop (mkF m 5 #[.val (.ref a), .val (.ref b)] [(.ref a)]))) (fun _ k => XS.aloadN X2.here hx rfl (hb hby own_d_prog_19_method_1_code_4) rfl rfl k) ?_
  refine OGoal.mp (S' := (T1.setTop (mkF m 6 #[.val (.ref a), .val (.ref b)] [(.ref b), (.ref a)]))) (fun _ k => XS.aloadN X2.here hx rfl (hb hby own_d_prog_19_method_1_code_5) rfl rfl k) ?_
  obtain ⟨T5, h9, X6, e7, W10, st8⟩ := putF X2 hx hZ hown (host := "") (Or.inl (hw _ (List.mem_of_getElem? (i := 34) rfl))) Via.refl e3 Fn E (Or.inr ⟨(hw _ (List.mem_of_getElem? (i := 35) rfl)), rfl, hnm⟩) (hw _ (List.mem_of_getElem? (i := 28) rfl)) (ty := (.object "java/lang/String")) (by decide) rfl rfl (g := mkF m 6 #[.val (.ref a), .val (.ref b)] [(.ref b), (.ref a)]) rfl rfl (hb hby own_d_prog_19_method_1_code_6)
  have N11 := Fr.snoc X6 (Fr.nil n0) ab
  have Z12 : n0 ≤ h9.size := Nat.le_trans Z0 (Keep.of_wr W10).1
  have K13 : Keep h0 h9 [a] := (Keep.refl h0 [a]).wr W10 (Or.inl (by simp))
  have F14 := St.wr W10
  have F15 := E.wr W10
  have F16 := Fn.same W10
  have F17 := Fa.other W10 (Or.inr (slot_ne (a0 := a0) (C := "com/example/deadlock_to_diagnosis/deadlocktodiagnosis/reader/LineScanner") (t := .int) (t' := (.object "java/lang/String")) (Or.inl (hw _ (List.mem_of_getElem? (i := 42) rfl))) (Or.inr (hw _ (List.mem_of_getElem? (i := 35) rfl))) (by decide) (by decide) (by decide)))
  refine OGoal.mp (S' := (T5.setTop (mkF m 9 #[.val (.ref a), .val (.ref b)] []))) (fun _ k => st8 _ k) ?_
  refine oRetV X6 hx hlk hret (hb hby own_d_prog_19_method_1_code_9) ?_ (by decide) (by decide)
  rw [e7]; exact ⟨rfl, N11, K13, F15, F16, F17, F14⟩
theorem own_d_prog_19_method_4_code_0 : decode prog_19_method_4_code 0 = .ok (.aload_n 0, 1) := by decide +kernel
theorem own_d_prog_19_method_4_code_1 : decode prog_19_method_4_code 1 = .ok (.iload_n 1, 1) := by decide +kernel
theorem own_d_prog_19_method_4_code_2 : decode prog_19_method_4_code 2 = .ok (.putfield 13, 3) := by decide +kernel
theorem own_d_prog_19_method_4_code_5 : decode prog_19_method_4_code 5 = .ok (.return_, 1) := by decide +kernel
theorem own_ef_rmMv (x0 : Addr) (x1 : Int32) (m : MethodId) : entryFrame m #[(.ref x0), (.int x1)] 2 = mkF m 0 #[.val (.ref x0), .val (.int x1)] [] := by first | (simp [entryFrame, mkF, argsToLocals, Value.category]; done) | rfl
set_option maxRecDepth 65536 in
set_option maxHeartbeats 40000000 in
theorem rmMv (l : Launch) (Z : State) (a0 : Array Value) (hw : ∀ d ∈ tables_1, d.before a0 Z = true) (a : Addr) (x1 : Int32) (h0 : Heap) (n0 : Nat) (Z0 : n0 ≤ h0.size) (cs : Int32) (hcs : ¬ cs = 0) (St : Stt Z h0 cs) (b : Addr) (y1 : Int32) (E : Exa Z h0 a "com/example/deadlock_to_diagnosis/deadlocktodiagnosis/reader/LineScanner") (Fn : Fld Z h0 a "com/example/deadlock_to_diagnosis/deadlocktodiagnosis/reader/LineScanner" "line" "Ljava/lang/String;" (.ref b)) (Fa : Fld Z h0 a "com/example/deadlock_to_diagnosis/deadlocktodiagnosis/reader/LineScanner" "at" "I" (.int y1)) (ab : n0 ≤ a) :
    OCon l Z (⟨"com/example/deadlock_to_diagnosis/deadlocktodiagnosis/reader/LineScanner", "moveTo", "(I)V"⟩ : MethodName) prog_19_method_4_code 2 none ({ frames := 0, cells := 0, slots := 0, locals := 0 } : Room) #[(.ref a), (.int x1)] h0 (fun v h L => v = none ∧ Fr n0 L ∧ Keep h0 h [a] ∧ Exa Z h a "com/example/deadlock_to_diagnosis/deadlocktodiagnosis/reader/LineScanner" ∧ Fld Z h a "com/example/deadlock_to_diagnosis/deadlocktodiagnosis/reader/LineScanner" "line" "Ljava/lang/String;" (.ref b) ∧ Fld Z h a "com/example/deadlock_to_diagnosis/deadlocktodiagnosis/reader/LineScanner" "at" "I" (.int x1) ∧ Stt Z h cs) := by
  refine OConK.intro (y := (⟨"com/example/deadlock_to_diagnosis/deadlocktodiagnosis/reader/LineScanner", "moveTo", "(I)V"⟩ : MethodName)) (plainFor_of_name own_pn_com_example_deadlock_to_diagnosis_deadlocktodiagnosis_reader_LineScanner) (own_ef_rmMv a x1) ?_
  intro p e s m below meth c s₁ hx hby hml hown hnm hret hlk hZ X0 e0
  show OGoal p e below s _ _ _ (s₁.setTop (mkF m 0 #[.val (.ref a), .val (.int x1)] []))
  refine OGoal.mp (S' := (s₁.setTop (mkF m 1 #[.val (.ref a), .val (.int x1)] [(.ref a)]))) (fun _ k => XS.aloadN X0.here hx rfl (hb hby own_d_prog_19_method_4_code_0) rfl rfl k) ?_
  refine OGoal.mp (S' := (s₁.setTop (mkF m 2 #[.val (.ref a), .val (.int x1)] [(.int x1), (.ref a)]))) (fun _ k => XS.iloadN X0.here hx rfl (hb hby own_d_prog_19_method_4_code_1) rfl k) ?_
  obtain ⟨T1, h5, X2, e3, W6, st4⟩ := putF X0 hx hZ hown (host := "") (Or.inl (hw _ (List.mem_of_getElem? (i := 41) rfl))) Via.refl e0 Fa E (Or.inl (hw _ (List.mem_of_getElem? (i := 42) rfl))) (hw _ (List.mem_of_getElem? (i := 28) rfl)) (ty := .int) (by decide) rfl rfl (g := mkF m 2 #[.val (.ref a), .val (.int x1)] [(.int x1), (.ref a)]) rfl rfl (hb hby own_d_prog_19_method_4_code_2)
  have N7 := Fr.snoc X2 (Fr.nil n0) ab
  have Z8 : n0 ≤ h5.size := Nat.le_trans Z0 (Keep.of_wr W6).1
  have K9 : Keep h0 h5 [a] := (Keep.refl h0 [a]).wr W6 (Or.inl (by simp))
  have F10 := St.wr W6
  have F11 := E.wr W6
  have F12 := Fn.other W6 (Or.inr (slot_ne (a0 := a0) (C := "com/example/deadlock_to_diagnosis/deadlocktodiagnosis/reader/LineScanner") (t := (.object "java/lang/String")) (t' := .int) (Or.inr (hw _ (List.mem_of_getElem? (i := 35) rfl))) (Or.inl (hw _ (List.mem_of_getElem? (i := 42) rfl))) (by decide) (by decide) (by decide)))
  have F13 := Fa.same W6
  refine OGoal.mp (S' := (T1.setTop (mkF m 5 #[.val (.ref a), .val (.int x1)] []))) (fun _ k => st4 _ k) ?_
  refine oRetV X2 hx hlk hret (hb hby own_d_prog_19_method_4_code_5) ?_ (by decide) (by decide)
  rw [e3]; exact ⟨rfl, N7, K9, F11, F12, F13, F10⟩
theorem own_d_prog_19_method_3_code_0 : decode prog_19_method_3_code 0 = .ok (.aload_n 0, 1) := by decide +kernel
theorem own_d_prog_19_method_3_code_1 : decode prog_19_method_3_code 1 = .ok (.getfield 13, 3) := by decide +kernel
theorem own_d_prog_19_method_3_code_4 : decode prog_19_method_3_code 4 = .ok (.ireturn, 1) := by decide +kernel
theorem own_ef_rmPo (x0 : Addr) (m : MethodId) : entryFrame m #[(.ref x0)] 1 = mkF m 0 #[.val (.ref x0)] [] := by first | (simp [entryFrame, mkF, argsToLocals, Value.category]; done) | rfl
set_option maxRecDepth 65536 in
set_option maxHeartbeats 40000000 in
theorem rmPo (l : Launch) (Z : State) (a0 : Array Value) (hw : ∀ d ∈ tables_1, d.before a0 Z = true) (a : Addr) (h0 : Heap) (n0 : Nat) (Z0 : n0 ≤ h0.size) (y1 : Int32) (Fa : Fld Z h0 a "com/example/deadlock_to_diagnosis/deadlocktodiagnosis/reader/LineScanner" "at" "I" (.int y1)) :
    OCon l Z (⟨"com/example/deadlock_to_diagnosis/deadlocktodiagnosis/reader/LineScanner", "position", "()I"⟩ : MethodName) prog_19_method_3_code 1 (some .int) ({ frames := 0, cells := 0, slots := 0, locals := 0 } : Room) #[(.ref a)] h0 (fun v h L => v = some (.int y1) ∧ Fr n0 L ∧ h = h0) := by
  refine OConK.intro (y := (⟨"com/example/deadlock_to_diagnosis/deadlocktodiagnosis/reader/LineScanner", "position", "()I"⟩ : MethodName)) (plainFor_of_name own_pn_com_example_deadlock_to_diagnosis_deadlocktodiagnosis_reader_LineScanner) (own_ef_rmPo a) ?_
  intro p e s m below meth c s₁ hx hby hml hown hnm hret hlk hZ X0 e0
  show OGoal p e below s _ _ _ (s₁.setTop (mkF m 0 #[.val (.ref a)] []))
  refine OGoal.mp (S' := (s₁.setTop (mkF m 1 #[.val (.ref a)] [(.ref a)]))) (fun _ k => XS.aloadN X0.here hx rfl (hb hby own_d_prog_19_method_3_code_0) rfl rfl k) ?_
  obtain ⟨T1, X2, e3, st4⟩ := getF X0 hx hZ hown (host := "") (Or.inl (hw _ (List.mem_of_getElem? (i := 41) rfl))) Via.refl e0 Fa (g := mkF m 1 #[.val (.ref a)] [(.ref a)]) rfl rfl (hb hby own_d_prog_19_method_3_code_1)
  refine OGoal.mp (S' := (T1.setTop (mkF m 4 #[.val (.ref a)] [(.int y1)]))) (fun _ k => st4 _ k) ?_
  refine oRetI X2 hx hlk hret (hb hby own_d_prog_19_method_3_code_4) ?_ (by decide) (by decide)
  exact ⟨rfl, (Fr.nil n0), e3⟩
theorem own_d_prog_19_method_5_code_0 : decode prog_19_method_5_code 0 = .ok (.aload_n 0, 1) := by decide +kernel
theorem own_d_prog_19_method_5_code_1 : decode prog_19_method_5_code 1 = .ok (.getfield 13, 3) := by decide +kernel
theorem own_d_prog_19_method_5_code_4 : decode prog_19_method_5_code 4 = .ok (.aload_n 0, 1) := by decide +kernel
theorem own_d_prog_19_method_5_code_5 : decode prog_19_method_5_code 5 = .ok (.getfield 7, 3) := by decide +kernel
theorem own_d_prog_19_method_5_code_8 : decode prog_19_method_5_code 8 = .ok (.invokevirtual 17, 3) := by decide +kernel
theorem own_pd___I : parseMethodDescriptor "()I" = some ⟨[], some .int⟩ := by decide +kernel
theorem own_d_prog_19_method_5_code_11 : decode prog_19_method_5_code 11 = .ok (.if_icmp .ne 7, 3) := by decide +kernel
theorem own_d_prog_19_method_5_code_14 : decode prog_19_method_5_code 14 = .ok (.iconst 1, 1) := by decide +kernel
theorem own_d_prog_19_method_5_code_15 : decode prog_19_method_5_code 15 = .ok (.goto 4, 3) := by decide +kernel
theorem own_d_prog_19_method_5_code_19 : decode prog_19_method_5_code 19 = .ok (.ireturn, 1) := by decide +kernel
theorem own_d_prog_19_method_5_code_18 : decode prog_19_method_5_code 18 = .ok (.iconst 0, 1) := by decide +kernel
theorem own_ef_rmAE (x0 : Addr) (m : MethodId) : entryFrame m #[(.ref x0)] 1 = mkF m 0 #[.val (.ref x0)] [] := by first | (simp [entryFrame, mkF, argsToLocals, Value.category]; done) | rfl
set_option maxRecDepth 65536 in
set_option maxHeartbeats 40000000 in
theorem rmAE (l : Launch) (Z : State) (a0 : Array Value) (hw : ∀ d ∈ tables_1, d.before a0 Z = true) (a : Addr) (h0 : Heap) (n0 : Nat) (Z0 : n0 ≤ h0.size) (cs : Int32) (hcs : ¬ cs = 0) (St : Stt Z h0 cs) (b : Addr) (y1 n1 : Int32) (hS : StrN Z h0 b n1) (E : Exa Z h0 a "com/example/deadlock_to_diagnosis/deadlocktodiagnosis/reader/LineScanner") (Fn : Fld Z h0 a "com/example/deadlock_to_diagnosis/deadlocktodiagnosis/reader/LineScanner" "line" "Ljava/lang/String;" (.ref b)) (Fa : Fld Z h0 a "com/example/deadlock_to_diagnosis/deadlocktodiagnosis/reader/LineScanner" "at" "I" (.int y1)) :
    OCon l Z (⟨"com/example/deadlock_to_diagnosis/deadlocktodiagnosis/reader/LineScanner", "atEnd", "()Z"⟩ : MethodName) prog_19_method_5_code 1 (some .boolean) ({ frames := 2, cells := 0, slots := 0, locals := 26 } : Room) #[(.ref a)] h0 (fun v h L => v = some (.int (own_ae y1 n1)) ∧ Fr n0 L ∧ h = h0) := by
  refine OConK.intro (y := (⟨"com/example/deadlock_to_diagnosis/deadlocktodiagnosis/reader/LineScanner", "atEnd", "()Z"⟩ : MethodName)) (plainFor_of_name own_pn_com_example_deadlock_to_diagnosis_deadlocktodiagnosis_reader_LineScanner) (own_ef_rmAE a) ?_
  intro p e s m below meth c s₁ hx hby hml hown hnm hret hlk hZ X0 e0
  show OGoal p e below s _ _ _ (s₁.setTop (mkF m 0 #[.val (.ref a)] []))
  refine OGoal.mp (S' := (s₁.setTop (mkF m 1 #[.val (.ref a)] [(.ref a)]))) (fun _ k => XS.aloadN X0.here hx rfl (hb hby own_d_prog_19_method_5_code_0) rfl rfl k) ?_
  obtain ⟨T1, X2, e3, st4⟩ := getF X0 hx hZ hown (host := "") (Or.inl (hw _ (List.mem_of_getElem? (i := 41) rfl))) Via.refl e0 Fa (g := mkF m 1 #[.val (.ref a)] [(.ref a)]) rfl rfl (hb hby own_d_prog_19_method_5_code_1)
  refine OGoal.mp (S' := (T1.setTop (mkF m 4 #[.val (.ref a)] [(.int y1)]))) (fun _ k => st4 _ k) ?_
  refine OGoal.mp (S' := (T1.setTop (mkF m 5 #[.val (.ref a)] [(.ref a), (.int y1)]))) (fun _ k => XS.aloadN X2.here hx rfl (hb hby own_d_prog_19_method_5_code_4) rfl rfl k) ?_
  obtain ⟨T5, X6, e7, st8⟩ := getF X2 hx hZ hown (host := "") (Or.inl (hw _ (List.mem_of_getElem? (i := 34) rfl))) Via.refl e3 Fn (g := mkF m 5 #[.val (.ref a)] [(.ref a), (.int y1)]) rfl rfl (hb hby own_d_prog_19_method_5_code_5)
  refine OGoal.mp (S' := (T5.setTop (mkF m 8 #[.val (.ref a)] [(.ref b), (.int y1)]))) (fun _ k => st8 _ k) ?_
  refine oCallV (y := (⟨"java/lang/String", "length", "()I"⟩ : MethodName)) (z := (⟨"java/lang/String", "length", "()I"⟩ : MethodName)) X6 hx hZ hown (hw _ (List.mem_of_getElem? (i := 43) rfl)) (hw _ (List.mem_of_getElem? (i := 44) rfl)) (hw _ (List.mem_of_getElem? (i := 46) rfl)) (hw _ (List.mem_of_getElem? (i := 45) rfl)) (hw _ (List.mem_of_getElem? (i := 7) rfl)) (hw _ (List.mem_of_getElem? (i := 47) rfl)) (by decide) (rmLn l Z a0 hw b h0 n0 Z0 cs hcs St n1 hS) e7 hS.exa [] [(.int y1)] rfl rfl (by rw [hml]; rfl) (notFace_of_selects (args := #[]) (mvT hZ (hw _ (List.mem_of_getElem? (i := 46) rfl)))) (lenOf own_pd___I rfl) 1 (Nat.le_of_eq rfl) (by decide) (by decide) (by decide) (by decide) (hb hby own_d_prog_19_method_5_code_8) ?_
  intro v9 T10 L11 X12 q13
  obtain ⟨rfl, N14, e15⟩ := q13
  have N16 := Fr.app (Fr.nil n0) N14
  show OGoal p e below s _ _ _ (T10.setTop (mkF m 11 #[.val (.ref a)] [(.int n1), (.int y1)]))
  by_cases hc17 : y1 = n1
  · refine OGoal.mp (S' := (T10.setTop (mkF m 14 #[.val (.ref a)] []))) (fun _ k => XS.icmpNo X12.here hx rfl (hb hby own_d_prog_19_method_5_code_11) rfl (XT.ii_ne_f hc17) k) ?_
    refine OGoal.mp (S' := (T10.setTop (mkF m 15 #[.val (.ref a)] [(.int (1 : Int32))]))) (fun _ k => XS.iconst X12.here hx rfl (hb hby own_d_prog_19_method_5_code_14) k) ?_
    refine OGoal.mp (S' := (T10.setTop (mkF m 19 #[.val (.ref a)] [(.int (1 : Int32))]))) (fun _ k => XS.goto X12.here hx rfl (pc0 := 15) (pc' := 19) rfl (hb hby own_d_prog_19_method_5_code_15) (by decide) (by decide) k) ?_
    refine oRetZ X12 hx hlk hret (Or.inr rfl) (hb hby own_d_prog_19_method_5_code_19) ?_ (by decide) (by decide)
    exact ⟨by unfold own_ae; rw [if_pos hc17], N16, e15⟩
  · refine OGoal.mp (S' := (T10.setTop (mkF m 18 #[.val (.ref a)] []))) (fun _ k => XS.icmpYes X12.here hx rfl (pc0 := 11) (pc' := 18) rfl (hb hby own_d_prog_19_method_5_code_11) rfl (XT.ii_ne_t hc17) (by decide) (by decide) k) ?_
    refine OGoal.mp (S' := (T10.setTop (mkF m 19 #[.val (.ref a)] [(.int (0 : Int32))]))) (fun _ k => XS.iconst X12.here hx rfl (hb hby own_d_prog_19_method_5_code_18) k) ?_
    refine oRetZ X12 hx hlk hret (Or.inl rfl) (hb hby own_d_prog_19_method_5_code_19) ?_ (by decide) (by decide)
    exact ⟨by unfold own_ae; rw [if_neg hc17], N16, e15⟩
theorem own_4 (x : Int32) (h0 : 0 ≤ x.toInt) (h1 : x.toInt < 4) : x = 0 ∨ x = 1 ∨ x = 2 ∨ x = 3 := by
  have e : ∀ k : Int32, x.toInt = k.toInt → x = k := fun k q => Int32.toInt_inj.mp q
  have l0 : (0 : Int32).toInt = 0 := by decide
  have l1 : (1 : Int32).toInt = 1 := by decide
  have l2 : (2 : Int32).toInt = 2 := by decide
  have l3 : (3 : Int32).toInt = 3 := by decide
  rcases (by omega : x.toInt = 0 ∨ x.toInt = 1 ∨ x.toInt = 2 ∨ x.toInt = 3) with q | q | q | q
  · exact Or.inl (e _ (by omega))
  · exact Or.inr (Or.inl (e _ (by omega)))
  · exact Or.inr (Or.inr (Or.inl (e _ (by omega))))
  · exact Or.inr (Or.inr (Or.inr (e _ (by omega))))
theorem own_pd__III_Ljava_lang_String_ : parseMethodDescriptor "(III)Ljava/lang/String;" = some ⟨[.int, .int, .int], some (.object "java/lang/String")⟩ := by decide +kernel
theorem own_pd__Ljava_lang_String__V : parseMethodDescriptor "(Ljava/lang/String;)V" = some ⟨[(.object "java/lang/String")], none⟩ := by decide +kernel
theorem own_pd___Z : parseMethodDescriptor "()Z" = some ⟨[], some .boolean⟩ := by decide +kernel
theorem own_pd__I_V : parseMethodDescriptor "(I)V" = some ⟨[.int], none⟩ := by decide +kernel
theorem own_ef_rm0 (x0 : Int32) (x1 : Int32) (x2 : Int32) (x3 : Int32) (m : MethodId) : entryFrame m #[(.int x0), (.int x1), (.int x2), (.int x3)] maxLocals = mkF m 0 #[.val (.int x0), .val (.int x1), .val (.int x2), .val (.int x3), .unset, .unset, .unset, .unset, .unset, .unset, .unset, .unset, .unset] [] := by first | (simp [entryFrame, mkF, argsToLocals, Value.category, maxLocals]; done) | rfl
set_option maxRecDepth 65536 in
set_option maxHeartbeats 40000000 in
theorem rm0 (l : Launch) (Z : State) (a0 : Array Value) (hw : ∀ d ∈ tables_1, d.before a0 Z = true) (p1 p2 p3 p4 : Int32) (h0 : Heap) (n0 : Nat) (Z0 : n0 ≤ h0.size) (cs : Int32) (hcs : ¬ cs = 0) (St : Stt Z h0 cs)  (hkp : ∀ (b : Addr) (cl : Cell), Z.heap[b]? = some cl → h0[b]? = some cl) (hcw : Jvm.Lit.compactW.before a0 Z = true) (hch : Jvm.Lit.constHeld Z "java/lang/String" 7) :
    OConKW l Z x code maxLocals ret room_1 24 1152 #[(.int p1), (.int p2), (.int p3), (.int p4)] h0 (fun v h L => v = some (.int 1) ∧ Fr n0 L) := by
  refine OConKW.intro (y := x) (plainFor_of_name own_pn_com_example_deadlock_to_diagnosis_deadlocktodiagnosis_reader_LineScannerAtEndPinLaw) (own_ef_rm0 p1 p2 p3 p4) ?_
  intro p e s m below meth c s₁ hx hby hml hown hnm hret hlk hZ hI hsh hS0 X0 e0
  have := rng32 p1
  have := rng32 p4
  have l1 : (0 : Int32).toInt = 0 := by decide
  have l2 : (1 : Int32).toInt = 1 := by decide
  show OGoalW p e below s _ _ _ (s₁.setTop (mkF m 0 #[.val (.int p1), .val (.int p2), .val (.int p3), .val (.int p4), .unset, .unset, .unset, .unset, .unset, .unset, .unset, .unset, .unset] []))
  refine OGoalW.mp (S' := (s₁.setTop (mkF m 1 #[.val (.int p1), .val (.int p2), .val (.int p3), .val (.int p4), .unset, .unset, .unset, .unset, .unset, .unset, .unset, .unset, .unset] [(.int p1)]))) (fun _ k => XS.iloadN X0.here hx rfl (hb hby at_0) rfl k) ?_
  refine OGoalW.mp (S' := (s₁.setTop (mkF m 2 #[.val (.int p1), .val (.int p2), .val (.int p3), .val (.int p4), .unset, .unset, .unset, .unset, .unset, .unset, .unset, .unset, .unset] [(.int (3 : Int32)), (.int p1)]))) (fun _ k => XS.iconst X0.here hx rfl (hb hby at_1) k) ?_
  refine OGoalW.mp (S' := (s₁.setTop (mkF m 3 #[.val (.int p1), .val (.int p2), .val (.int p3), .val (.int p4), .unset, .unset, .unset, .unset, .unset, .unset, .unset, .unset, .unset] [(.int (p1 &&& (3 : Int32)))]))) (fun _ k => XS.iand X0.here hx rfl (hb hby at_2) rfl k) ?_
  obtain ⟨u3, hu3⟩ : ∃ z : Int32, z = (p1 &&& (3 : Int32)) := ⟨_, rfl⟩
  rw [← hu3]
  have l4 : (3 : Int32).toInt = 3 := by decide
  have t5 : u3.toInt = (p1).toInt % 4 := by rw [hu3]; exact c_mask p1 (3 : Int32) 2 (by decide) (by decide)
  have r6 := rng32 u3
  refine OGoalW.mp (S' := (s₁.setTop (mkF m 5 #[.val (.int p1), .val (.int p2), .val (.int p3), .val (.int p4), .val (.int u3), .unset, .unset, .unset, .unset, .unset, .unset, .unset, .unset] []))) (fun _ k => XS.istore X0.here hx rfl (hb hby at_3) rfl (l' := #[.val (.int p1), .val (.int p2), .val (.int p3), .val (.int p4), .val (.int u3), .unset, .unset, .unset, .unset, .unset, .unset, .unset, .unset]) rfl k) ?_
  rcases own_4 u3 (by omega) (by omega) with hu | hu | hu | hu
  · rw [hu]
    show OGoalW p e below s _ _ _ (s₁.setTop (mkF m 5 #[.val (.int p1), .val (.int p2), .val (.int p3), .val (.int p4), .val (.int (0 : Int32)), .unset, .unset, .unset, .unset, .unset, .unset, .unset, .unset] []))
    refine OGoalW.mp (S' := (s₁.setTop (mkF m 7 #[.val (.int p1), .val (.int p2), .val (.int p3), .val (.int p4), .val (.int (0 : Int32)), .unset, .unset, .unset, .unset, .unset, .unset, .unset, .unset] [(.int (0 : Int32))]))) (fun _ k => XS.iload X0.here hx rfl (hb hby at_5) rfl k) ?_
    refine OGoalW.mp (S' := (s₁.setTop (mkF m 8 #[.val (.int p1), .val (.int p2), .val (.int p3), .val (.int p4), .val (.int (0 : Int32)), .unset, .unset, .unset, .unset, .unset, .unset, .unset, .unset] [(.int p2), (.int (0 : Int32))]))) (fun _ k => XS.iloadN X0.here hx rfl (hb hby at_7) rfl k) ?_
    refine OGoalW.mp (S' := (s₁.setTop (mkF m 9 #[.val (.int p1), .val (.int p2), .val (.int p3), .val (.int p4), .val (.int (0 : Int32)), .unset, .unset, .unset, .unset, .unset, .unset, .unset, .unset] [(.int p3), (.int p2), (.int (0 : Int32))]))) (fun _ k => XS.iloadN X0.here hx rfl (hb hby at_8) rfl k) ?_
    refine oCallSS (y := (⟨"com/example/deadlock_to_diagnosis/deadlocktodiagnosis/reader/LineScannerAtEndPinLaw", "drawn", "(III)Ljava/lang/String;"⟩ : MethodName)) X0 hx hS0 (Nat.le_trans (Nat.le_of_eq (congrArg Array.size hsh)) (Nat.le_of_eq (congrArg Array.size e0).symm)) hI hZ hown (hw _ (List.mem_of_getElem? (i := 0) rfl)) (hw _ (List.mem_of_getElem? (i := 1) rfl)) (hw _ (List.mem_of_getElem? (i := 2) rfl)) (hw _ (List.mem_of_getElem? (i := 3) rfl)) (by decide) (rmDr0 l Z a0 hw p2 p3 h0 n0 Z0 cs hcs St hkp hcw hch) e0 [(.int (0 : Int32)), (.int p2), (.int p3)] [] rfl rfl (by rw [hml]; rfl) (lenOf own_pd__III_Ljava_lang_String_ rfl) 0 (Nat.le_of_eq rfl) (by decide) (by decide) (by decide) (by decide) (hb hby at_9) ?_
    intro v8 T9 L10 X11 hS13 hg14 hZ hown q12
    obtain ⟨b7, rfl, N15, K16, S17, D18⟩ := q12
    have N19 := Fr.app (Fr.nil n0) N15
    have Z20 : n0 ≤ T9.heap.size := Nat.le_trans Z0 K16.1
    show OGoalW p e below s _ _ _ (T9.setTop (mkF m 12 #[.val (.int p1), .val (.int p2), .val (.int p3), .val (.int p4), .val (.int (0 : Int32)), .unset, .unset, .unset, .unset, .unset, .unset, .unset, .unset] [(.ref b7)]))
    refine OGoalW.mp (S' := (T9.setTop (mkF m 14 #[.val (.int p1), .val (.int p2), .val (.int p3), .val (.int p4), .val (.int (0 : Int32)), .val (.ref b7), .unset, .unset, .unset, .unset, .unset, .unset, .unset] []))) (fun _ k => XS.astore X11.here hx rfl (hb hby at_12) rfl rfl (l' := #[.val (.int p1), .val (.int p2), .val (.int p3), .val (.int p4), .val (.int (0 : Int32)), .val (.ref b7), .unset, .unset, .unset, .unset, .unset, .unset, .unset]) rfl k) ?_
    refine OGoalW.mp (S' := (T9.setTop (mkF m 15 #[.val (.int p1), .val (.int p2), .val (.int p3), .val (.int p4), .val (.int (0 : Int32)), .val (.ref b7), .unset, .unset, .unset, .unset, .unset, .unset, .unset] [(.int p4)]))) (fun _ k => XS.iloadN X11.here hx rfl (hb hby at_14) rfl k) ?_
    refine OGoalW.mp (S' := (T9.setTop (mkF m 17 #[.val (.int p1), .val (.int p2), .val (.int p3), .val (.int p4), .val (.int (0 : Int32)), .val (.ref b7), .unset, .unset, .unset, .unset, .unset, .unset, .unset] [(.int (2147483647 : Int32)), (.int p4)]))) (fun _ k => Stand.ldcI X11 hx hown (mvT hZ (hw _ (List.mem_of_getElem? (i := 26) rfl))) rfl (hb hby at_15) k) ?_
    refine OGoalW.mp (S' := (T9.setTop (mkF m 18 #[.val (.int p1), .val (.int p2), .val (.int p3), .val (.int p4), .val (.int (0 : Int32)), .val (.ref b7), .unset, .unset, .unset, .unset, .unset, .unset, .unset] [(.int (p4 &&& (2147483647 : Int32)))]))) (fun _ k => XS.iand X11.here hx rfl (hb hby at_17) rfl k) ?_
    obtain ⟨u21, hu21⟩ : ∃ z : Int32, z = (p4 &&& (2147483647 : Int32)) := ⟨_, rfl⟩
    rw [← hu21]
    have l22 : (2147483647 : Int32).toInt = 2147483647 := by decide
    have t23 : u21.toInt = (p4).toInt % 2147483648 := by rw [hu21]; exact c_mask p4 (2147483647 : Int32) 31 (by decide) (by decide)
    have r24 := rng32 u21
    refine OGoalW.mp (S' := (T9.setTop (mkF m 20 #[.val (.int p1), .val (.int p2), .val (.int p3), .val (.int p4), .val (.int (0 : Int32)), .val (.ref b7), .unset, .unset, .unset, .unset, .unset, .unset, .unset] [(.int (0 : Int32)), (.int u21)]))) (fun _ k => XS.iload X11.here hx rfl (hb hby at_18) rfl k) ?_
    refine OGoalW.mp (S' := (T9.setTop (mkF m 21 #[.val (.int p1), .val (.int p2), .val (.int p3), .val (.int p4), .val (.int (0 : Int32)), .val (.ref b7), .unset, .unset, .unset, .unset, .unset, .unset, .unset] [(.int (1 : Int32)), (.int (0 : Int32)), (.int u21)]))) (fun _ k => XS.iconst X11.here hx rfl (hb hby at_20) k) ?_
    refine OGoalW.mp (S' := (T9.setTop (mkF m 22 #[.val (.int p1), .val (.int p2), .val (.int p3), .val (.int p4), .val (.int (0 : Int32)), .val (.ref b7), .unset, .unset, .unset, .unset, .unset, .unset, .unset] [(.int ((0 : Int32) + (1 : Int32))), (.int u21)]))) (fun _ k => XS.iadd X11.here hx rfl (hb hby at_21) rfl k) ?_
    rw [show ((0 : Int32) + (1 : Int32)) = (1 : Int32) by decide]
    show OGoalW p e below s _ _ _ (T9.setTop (mkF m 22 #[.val (.int p1), .val (.int p2), .val (.int p3), .val (.int p4), .val (.int (0 : Int32)), .val (.ref b7), .unset, .unset, .unset, .unset, .unset, .unset, .unset] [(.int (1 : Int32)), (.int u21)]))
    refine OGoalW.mp (S' := (T9.setTop (mkF m 23 #[.val (.int p1), .val (.int p2), .val (.int p3), .val (.int p4), .val (.int (0 : Int32)), .val (.ref b7), .unset, .unset, .unset, .unset, .unset, .unset, .unset] [(.int (u21 % (1 : Int32)))]))) (fun _ k => iremM X11 hx rfl (hb hby at_22) rfl (by decide) k) ?_
    obtain ⟨u25, hu25⟩ : ∃ z : Int32, z = (u21 % (1 : Int32)) := ⟨_, rfl⟩
    rw [← hu25]
    have t26 : u25.toInt = (u21).toInt % 1 := by rw [hu25]; exact (c_irem u21 (1 : Int32) 1 (by decide)).1 (by omega)
    have r27 := rng32 u25
    refine OGoalW.mp (S' := (T9.setTop (mkF m 25 #[.val (.int p1), .val (.int p2), .val (.int p3), .val (.int p4), .val (.int (0 : Int32)), .val (.ref b7), .val (.int u25), .unset, .unset, .unset, .unset, .unset, .unset] []))) (fun _ k => XS.istore X11.here hx rfl (hb hby at_23) rfl (l' := #[.val (.int p1), .val (.int p2), .val (.int p3), .val (.int p4), .val (.int (0 : Int32)), .val (.ref b7), .val (.int u25), .unset, .unset, .unset, .unset, .unset, .unset]) rfl k) ?_
    obtain ⟨T28, h32, X29, e30, E33, A34, D35, -, st31⟩ := newO X11 hx hZ hown (hw _ (List.mem_of_getElem? (i := 27) rfl)) (hw _ (List.mem_of_getElem? (i := 28) rfl)) (hw _ (List.mem_of_getElem? (i := 29) rfl)) rfl (g := mkF m 25 #[.val (.int p1), .val (.int p2), .val (.int p3), .val (.int p4), .val (.int (0 : Int32)), .val (.ref b7), .val (.int u25), .unset, .unset, .unset, .unset, .unset, .unset] []) rfl (hb hby at_25) (by decide) (by decide)
    obtain ⟨a36, g37⟩ : ∃ z, z = T9.heap.size := ⟨_, rfl⟩
    rw [← g37] at A34 D35 st31
    have lt38 : b7 < a36 := by rw [g37]; exact D18.lt
    have F39 := S17.ext E33
    have F40 := D18.ext E33
    have F41 : Fld Z h32 a36 "com/example/deadlock_to_diagnosis/deadlocktodiagnosis/reader/LineScanner" "line" "Ljava/lang/String;" .null := D35 (Or.inr (hw _ (List.mem_of_getElem? (i := 35) rfl))) (ty := (.object "java/lang/String")) (by decide)
    have F42 : Fld Z h32 a36 "com/example/deadlock_to_diagnosis/deadlocktodiagnosis/reader/LineScanner" "at" "I" (.int (0 : Int32)) := D35 (Or.inl (hw _ (List.mem_of_getElem? (i := 42) rfl))) (ty := .int) (by decide)
    have Z43 : n0 ≤ h32.size := Nat.le_trans Z20 E33.1
    have ab44 : n0 ≤ a36 := Nat.le_trans Z20 (Nat.le_of_eq g37.symm)
    refine OGoalW.mp (S' := (T28.setTop (mkF m 28 #[.val (.int p1), .val (.int p2), .val (.int p3), .val (.int p4), .val (.int (0 : Int32)), .val (.ref b7), .val (.int u25), .unset, .unset, .unset, .unset, .unset, .unset] [(.ref a36)]))) (fun _ k => st31 _ k) ?_
    refine OGoalW.mp (S' := (T28.setTop (mkF m 29 #[.val (.int p1), .val (.int p2), .val (.int p3), .val (.int p4), .val (.int (0 : Int32)), .val (.ref b7), .val (.int u25), .unset, .unset, .unset, .unset, .unset, .unset] [(.ref a36), (.ref a36)]))) (fun _ k => XS.dup X29.here hx rfl (hb hby at_28) rfl rfl k) ?_
    refine OGoalW.mp (S' := (T28.setTop (mkF m 31 #[.val (.int p1), .val (.int p2), .val (.int p3), .val (.int p4), .val (.int (0 : Int32)), .val (.ref b7), .val (.int u25), .unset, .unset, .unset, .unset, .unset, .unset] [(.ref b7), (.ref a36), (.ref a36)]))) (fun _ k => XS.aload X29.here hx rfl (hb hby at_29) rfl rfl k) ?_
    refine oCallNW (y := (⟨"com/example/deadlock_to_diagnosis/deadlocktodiagnosis/reader/LineScanner", "<init>", "(Ljava/lang/String;)V"⟩ : MethodName)) X29 hx hZ rfl hown (hw _ (List.mem_of_getElem? (i := 30) rfl)) (hw _ (List.mem_of_getElem? (i := 31) rfl)) (hw _ (List.mem_of_getElem? (i := 29) rfl)) (hw _ (List.mem_of_getElem? (i := 32) rfl)) (by decide) (rmLI l Z a0 hw a36 b7 h32 n0 Z43 cs hcs F39 A34 F41 F42 ab44) e30 [(.ref b7)] [(.ref a36)] rfl rfl (by rw [hml]; rfl) (lenOf own_pd__Ljava_lang_String__V rfl) 1 (Nat.le_of_eq rfl) (by decide) (by decide) (by decide) (by decide) (hb hby at_31) ?_
    intro v45 T46 L47 X48 q49
    obtain ⟨rfl, N50, K51, E52, F53, F54, S55⟩ := q49
    have N56 := Fr.app N19 N50
    have F58 := F40.keep K51 A34 (hw _ (List.mem_of_getElem? (i := 28) rfl)) (Nat.ne_of_lt lt38)
    have Z62 : n0 ≤ T46.heap.size := Nat.le_trans Z43 K51.1
    show OGoalW p e below s _ _ _ (T46.setTop (mkF m 34 #[.val (.int p1), .val (.int p2), .val (.int p3), .val (.int p4), .val (.int (0 : Int32)), .val (.ref b7), .val (.int u25), .unset, .unset, .unset, .unset, .unset, .unset] [(.ref a36)]))
    refine OGoalW.mp (S' := (T46.setTop (mkF m 36 #[.val (.int p1), .val (.int p2), .val (.int p3), .val (.int p4), .val (.int (0 : Int32)), .val (.ref b7), .val (.int u25), .val (.ref a36), .unset, .unset, .unset, .unset, .unset] []))) (fun _ k => XS.astore X48.here hx rfl (hb hby at_34) rfl rfl (l' := #[.val (.int p1), .val (.int p2), .val (.int p3), .val (.int p4), .val (.int (0 : Int32)), .val (.ref b7), .val (.int u25), .val (.ref a36), .unset, .unset, .unset, .unset, .unset]) rfl k) ?_
    refine OGoalW.mp (S' := (T46.setTop (mkF m 38 #[.val (.int p1), .val (.int p2), .val (.int p3), .val (.int p4), .val (.int (0 : Int32)), .val (.ref b7), .val (.int u25), .val (.ref a36), .unset, .unset, .unset, .unset, .unset] [(.ref a36)]))) (fun _ k => XS.aload X48.here hx rfl (hb hby at_36) rfl rfl k) ?_
    refine oCallVW (y := (⟨"com/example/deadlock_to_diagnosis/deadlocktodiagnosis/reader/LineScanner", "atEnd", "()Z"⟩ : MethodName)) (z := (⟨"com/example/deadlock_to_diagnosis/deadlocktodiagnosis/reader/LineScanner", "atEnd", "()Z"⟩ : MethodName)) X48 hx hZ hown (hw _ (List.mem_of_getElem? (i := 36) rfl)) (hw _ (List.mem_of_getElem? (i := 37) rfl)) (hw _ (List.mem_of_getElem? (i := 39) rfl)) (hw _ (List.mem_of_getElem? (i := 38) rfl)) (hw _ (List.mem_of_getElem? (i := 29) rfl)) (hw _ (List.mem_of_getElem? (i := 40) rfl)) (by decide) (rmAE l Z a0 hw a36 T46.heap n0 Z62 cs hcs S55 b7 (0 : Int32) (0 : Int32) F58 E52 F53 F54) rfl E52 [] [] rfl rfl (by rw [hml]; rfl) (notFace_of_selects (args := #[]) (mvT hZ (hw _ (List.mem_of_getElem? (i := 39) rfl)))) (lenOf own_pd___Z rfl) 0 (Nat.le_of_eq rfl) (by decide) (by decide) (by decide) (by decide) (hb hby at_38) ?_
    intro v63 T64 L65 X66 q67
    obtain ⟨rfl, N68, e69⟩ := q67
    have N70 := Fr.app N56 N68
    show OGoalW p e below s _ _ _ (T64.setTop (mkF m 41 #[.val (.int p1), .val (.int p2), .val (.int p3), .val (.int p4), .val (.int (0 : Int32)), .val (.ref b7), .val (.int u25), .val (.ref a36), .unset, .unset, .unset, .unset, .unset] [(.int (own_ae (0 : Int32) (0 : Int32)))]))
    refine OGoalW.mp (S' := (T64.setTop (mkF m 43 #[.val (.int p1), .val (.int p2), .val (.int p3), .val (.int p4), .val (.int (0 : Int32)), .val (.ref b7), .val (.int u25), .val (.ref a36), .unset, .unset, .unset, .unset, .unset] [(.int (0 : Int32)), (.int (own_ae (0 : Int32) (0 : Int32)))]))) (fun _ k => XS.iload X66.here hx rfl (hb hby at_41) rfl k) ?_
    have hd71 : (0 : Int32) = 0 := mEq (by omega)
    refine OGoalW.mp (S' := (T64.setTop (mkF m 46 #[.val (.int p1), .val (.int p2), .val (.int p3), .val (.int p4), .val (.int (0 : Int32)), .val (.ref b7), .val (.int u25), .val (.ref a36), .unset, .unset, .unset, .unset, .unset] [(.int (own_ae (0 : Int32) (0 : Int32)))]))) (fun _ k => XS.ifNo X66.here hx rfl (hb hby at_43) rfl (XT.i0_ne_f hd71) k) ?_
    refine OGoalW.mp (S' := (T64.setTop (mkF m 47 #[.val (.int p1), .val (.int p2), .val (.int p3), .val (.int p4), .val (.int (0 : Int32)), .val (.ref b7), .val (.int u25), .val (.ref a36), .unset, .unset, .unset, .unset, .unset] [(.int (1 : Int32)), (.int (own_ae (0 : Int32) (0 : Int32)))]))) (fun _ k => XS.iconst X66.here hx rfl (hb hby at_46) k) ?_
    refine OGoalW.mp (S' := (T64.setTop (mkF m 51 #[.val (.int p1), .val (.int p2), .val (.int p3), .val (.int p4), .val (.int (0 : Int32)), .val (.ref b7), .val (.int u25), .val (.ref a36), .unset, .unset, .unset, .unset, .unset] [(.int (1 : Int32)), (.int (own_ae (0 : Int32) (0 : Int32)))]))) (fun _ k => XS.goto X66.here hx rfl (pc0 := 47) (pc' := 51) rfl (hb hby at_47) (by decide) (by decide) k) ?_
    refine OGoalW.mp (S' := (T64.setTop (mkF m 54 #[.val (.int p1), .val (.int p2), .val (.int p3), .val (.int p4), .val (.int (0 : Int32)), .val (.ref b7), .val (.int u25), .val (.ref a36), .unset, .unset, .unset, .unset, .unset] []))) (fun _ k => XS.icmpNo X66.here hx rfl (hb hby at_51) rfl (XT.ii_ne_f (by decide)) k) ?_
    refine OGoalW.mp (S' := (T64.setTop (mkF m 55 #[.val (.int p1), .val (.int p2), .val (.int p3), .val (.int p4), .val (.int (0 : Int32)), .val (.ref b7), .val (.int u25), .val (.ref a36), .unset, .unset, .unset, .unset, .unset] [(.int (1 : Int32))]))) (fun _ k => XS.iconst X66.here hx rfl (hb hby at_54) k) ?_
    refine OGoalW.mp (S' := (T64.setTop (mkF m 59 #[.val (.int p1), .val (.int p2), .val (.int p3), .val (.int p4), .val (.int (0 : Int32)), .val (.ref b7), .val (.int u25), .val (.ref a36), .unset, .unset, .unset, .unset, .unset] [(.int (1 : Int32))]))) (fun _ k => XS.goto X66.here hx rfl (pc0 := 55) (pc' := 59) rfl (hb hby at_55) (by decide) (by decide) k) ?_
    refine OGoalW.mp (S' := (T64.setTop (mkF m 61 #[.val (.int p1), .val (.int p2), .val (.int p3), .val (.int p4), .val (.int (0 : Int32)), .val (.ref b7), .val (.int u25), .val (.ref a36), .val (.int (1 : Int32)), .unset, .unset, .unset, .unset] []))) (fun _ k => XS.istore X66.here hx rfl (hb hby at_59) rfl (l' := #[.val (.int p1), .val (.int p2), .val (.int p3), .val (.int p4), .val (.int (0 : Int32)), .val (.ref b7), .val (.int u25), .val (.ref a36), .val (.int (1 : Int32)), .unset, .unset, .unset, .unset]) rfl k) ?_
    refine OGoalW.mp (S' := (T64.setTop (mkF m 63 #[.val (.int p1), .val (.int p2), .val (.int p3), .val (.int p4), .val (.int (0 : Int32)), .val (.ref b7), .val (.int u25), .val (.ref a36), .val (.int (1 : Int32)), .unset, .unset, .unset, .unset] [(.ref a36)]))) (fun _ k => XS.aload X66.here hx rfl (hb hby at_61) rfl rfl k) ?_
    refine OGoalW.mp (S' := (T64.setTop (mkF m 65 #[.val (.int p1), .val (.int p2), .val (.int p3), .val (.int p4), .val (.int (0 : Int32)), .val (.ref b7), .val (.int u25), .val (.ref a36), .val (.int (1 : Int32)), .unset, .unset, .unset, .unset] [(.int u25), (.ref a36)]))) (fun _ k => XS.iload X66.here hx rfl (hb hby at_63) rfl k) ?_
    refine oCallVW (y := (⟨"com/example/deadlock_to_diagnosis/deadlocktodiagnosis/reader/LineScanner", "moveTo", "(I)V"⟩ : MethodName)) (z := (⟨"com/example/deadlock_to_diagnosis/deadlocktodiagnosis/reader/LineScanner", "moveTo", "(I)V"⟩ : MethodName)) X66 hx hZ hown (hw _ (List.mem_of_getElem? (i := 54) rfl)) (hw _ (List.mem_of_getElem? (i := 55) rfl)) (hw _ (List.mem_of_getElem? (i := 57) rfl)) (hw _ (List.mem_of_getElem? (i := 56) rfl)) (hw _ (List.mem_of_getElem? (i := 29) rfl)) (hw _ (List.mem_of_getElem? (i := 58) rfl)) (by decide) (rmMv l Z a0 hw a36 u25 T46.heap n0 Z62 cs hcs S55 b7 (0 : Int32) E52 F53 F54 ab44) e69 E52 [(.int u25)] [] rfl rfl (by rw [hml]; rfl) (notFace_of_selects (args := #[]) (mvT hZ (hw _ (List.mem_of_getElem? (i := 57) rfl)))) (lenOf own_pd__I_V rfl) 0 (Nat.le_of_eq rfl) (by decide) (by decide) (by decide) (by decide) (hb hby at_65) ?_
    intro v72 T73 L74 X75 q76
    obtain ⟨rfl, N77, K78, E79, F80, F81, S82⟩ := q76
    have N83 := Fr.app N70 N77
    have F84 := F58.keep K78 E52 (hw _ (List.mem_of_getElem? (i := 28) rfl)) (Nat.ne_of_lt lt38)
    have Z89 : n0 ≤ T73.heap.size := Nat.le_trans Z62 K78.1
    show OGoalW p e below s _ _ _ (T73.setTop (mkF m 68 #[.val (.int p1), .val (.int p2), .val (.int p3), .val (.int p4), .val (.int (0 : Int32)), .val (.ref b7), .val (.int u25), .val (.ref a36), .val (.int (1 : Int32)), .unset, .unset, .unset, .unset] []))
    refine OGoalW.mp (S' := (T73.setTop (mkF m 70 #[.val (.int p1), .val (.int p2), .val (.int p3), .val (.int p4), .val (.int (0 : Int32)), .val (.ref b7), .val (.int u25), .val (.ref a36), .val (.int (1 : Int32)), .unset, .unset, .unset, .unset] [(.ref a36)]))) (fun _ k => XS.aload X75.here hx rfl (hb hby at_68) rfl rfl k) ?_
    refine oCallVW (y := (⟨"com/example/deadlock_to_diagnosis/deadlocktodiagnosis/reader/LineScanner", "atEnd", "()Z"⟩ : MethodName)) (z := (⟨"com/example/deadlock_to_diagnosis/deadlocktodiagnosis/reader/LineScanner", "atEnd", "()Z"⟩ : MethodName)) X75 hx hZ hown (hw _ (List.mem_of_getElem? (i := 36) rfl)) (hw _ (List.mem_of_getElem? (i := 37) rfl)) (hw _ (List.mem_of_getElem? (i := 39) rfl)) (hw _ (List.mem_of_getElem? (i := 38) rfl)) (hw _ (List.mem_of_getElem? (i := 29) rfl)) (hw _ (List.mem_of_getElem? (i := 40) rfl)) (by decide) (rmAE l Z a0 hw a36 T73.heap n0 Z89 cs hcs S82 b7 u25 (0 : Int32) F84 E79 F80 F81) rfl E79 [] [] rfl rfl (by rw [hml]; rfl) (notFace_of_selects (args := #[]) (mvT hZ (hw _ (List.mem_of_getElem? (i := 39) rfl)))) (lenOf own_pd___Z rfl) 0 (Nat.le_of_eq rfl) (by decide) (by decide) (by decide) (by decide) (hb hby at_70) ?_
    intro v90 T91 L92 X93 q94
    obtain ⟨rfl, N95, e96⟩ := q94
    have N97 := Fr.app N83 N95
    show OGoalW p e below s _ _ _ (T91.setTop (mkF m 73 #[.val (.int p1), .val (.int p2), .val (.int p3), .val (.int p4), .val (.int (0 : Int32)), .val (.ref b7), .val (.int u25), .val (.ref a36), .val (.int (1 : Int32)), .unset, .unset, .unset, .unset] [(.int (own_ae u25 (0 : Int32)))]))
    refine OGoalW.mp (S' := (T91.setTop (mkF m 75 #[.val (.int p1), .val (.int p2), .val (.int p3), .val (.int p4), .val (.int (0 : Int32)), .val (.ref b7), .val (.int u25), .val (.ref a36), .val (.int (1 : Int32)), .val (.int (own_ae u25 (0 : Int32))), .unset, .unset, .unset] []))) (fun _ k => XS.istore X93.here hx rfl (hb hby at_73) rfl (l' := #[.val (.int p1), .val (.int p2), .val (.int p3), .val (.int p4), .val (.int (0 : Int32)), .val (.ref b7), .val (.int u25), .val (.ref a36), .val (.int (1 : Int32)), .val (.int (own_ae u25 (0 : Int32))), .unset, .unset, .unset]) rfl k) ?_
    refine OGoalW.mp (S' := (T91.setTop (mkF m 77 #[.val (.int p1), .val (.int p2), .val (.int p3), .val (.int p4), .val (.int (0 : Int32)), .val (.ref b7), .val (.int u25), .val (.ref a36), .val (.int (1 : Int32)), .val (.int (own_ae u25 (0 : Int32))), .unset, .unset, .unset] [(.int (own_ae u25 (0 : Int32)))]))) (fun _ k => XS.iload X93.here hx rfl (hb hby at_75) rfl k) ?_
    refine OGoalW.mp (S' := (T91.setTop (mkF m 79 #[.val (.int p1), .val (.int p2), .val (.int p3), .val (.int p4), .val (.int (0 : Int32)), .val (.ref b7), .val (.int u25), .val (.ref a36), .val (.int (1 : Int32)), .val (.int (own_ae u25 (0 : Int32))), .unset, .unset, .unset] [(.int u25), (.int (own_ae u25 (0 : Int32)))]))) (fun _ k => XS.iload X93.here hx rfl (hb hby at_77) rfl k) ?_
    refine OGoalW.mp (S' := (T91.setTop (mkF m 81 #[.val (.int p1), .val (.int p2), .val (.int p3), .val (.int p4), .val (.int (0 : Int32)), .val (.ref b7), .val (.int u25), .val (.ref a36), .val (.int (1 : Int32)), .val (.int (own_ae u25 (0 : Int32))), .unset, .unset, .unset] [(.int (0 : Int32)), (.int u25), (.int (own_ae u25 (0 : Int32)))]))) (fun _ k => XS.iload X93.here hx rfl (hb hby at_79) rfl k) ?_
    have hd98 : u25 = (0 : Int32) := mEq (by omega)
    refine OGoalW.mp (S' := (T91.setTop (mkF m 84 #[.val (.int p1), .val (.int p2), .val (.int p3), .val (.int p4), .val (.int (0 : Int32)), .val (.ref b7), .val (.int u25), .val (.ref a36), .val (.int (1 : Int32)), .val (.int (own_ae u25 (0 : Int32))), .unset, .unset, .unset] [(.int (own_ae u25 (0 : Int32)))]))) (fun _ k => XS.icmpNo X93.here hx rfl (hb hby at_81) rfl (XT.ii_ne_f hd98) k) ?_
    refine OGoalW.mp (S' := (T91.setTop (mkF m 85 #[.val (.int p1), .val (.int p2), .val (.int p3), .val (.int p4), .val (.int (0 : Int32)), .val (.ref b7), .val (.int u25), .val (.ref a36), .val (.int (1 : Int32)), .val (.int (own_ae u25 (0 : Int32))), .unset, .unset, .unset] [(.int (1 : Int32)), (.int (own_ae u25 (0 : Int32)))]))) (fun _ k => XS.iconst X93.here hx rfl (hb hby at_84) k) ?_
    refine OGoalW.mp (S' := (T91.setTop (mkF m 89 #[.val (.int p1), .val (.int p2), .val (.int p3), .val (.int p4), .val (.int (0 : Int32)), .val (.ref b7), .val (.int u25), .val (.ref a36), .val (.int (1 : Int32)), .val (.int (own_ae u25 (0 : Int32))), .unset, .unset, .unset] [(.int (1 : Int32)), (.int (own_ae u25 (0 : Int32)))]))) (fun _ k => XS.goto X93.here hx rfl (pc0 := 85) (pc' := 89) rfl (hb hby at_85) (by decide) (by decide) k) ?_
    refine OGoalW.mp (S' := (T91.setTop (mkF m 92 #[.val (.int p1), .val (.int p2), .val (.int p3), .val (.int p4), .val (.int (0 : Int32)), .val (.ref b7), .val (.int u25), .val (.ref a36), .val (.int (1 : Int32)), .val (.int (own_ae u25 (0 : Int32))), .unset, .unset, .unset] []))) (fun _ k => XS.icmpNo X93.here hx rfl (hb hby at_89) rfl (XT.ii_ne_f (by unfold own_ae; rw [if_pos hd98])) k) ?_
    refine OGoalW.mp (S' := (T91.setTop (mkF m 93 #[.val (.int p1), .val (.int p2), .val (.int p3), .val (.int p4), .val (.int (0 : Int32)), .val (.ref b7), .val (.int u25), .val (.ref a36), .val (.int (1 : Int32)), .val (.int (own_ae u25 (0 : Int32))), .unset, .unset, .unset] [(.int (1 : Int32))]))) (fun _ k => XS.iconst X93.here hx rfl (hb hby at_92) k) ?_
    refine OGoalW.mp (S' := (T91.setTop (mkF m 97 #[.val (.int p1), .val (.int p2), .val (.int p3), .val (.int p4), .val (.int (0 : Int32)), .val (.ref b7), .val (.int u25), .val (.ref a36), .val (.int (1 : Int32)), .val (.int (own_ae u25 (0 : Int32))), .unset, .unset, .unset] [(.int (1 : Int32))]))) (fun _ k => XS.goto X93.here hx rfl (pc0 := 93) (pc' := 97) rfl (hb hby at_93) (by decide) (by decide) k) ?_
    refine OGoalW.mp (S' := (T91.setTop (mkF m 99 #[.val (.int p1), .val (.int p2), .val (.int p3), .val (.int p4), .val (.int (0 : Int32)), .val (.ref b7), .val (.int u25), .val (.ref a36), .val (.int (1 : Int32)), .val (.int (own_ae u25 (0 : Int32))), .val (.int (1 : Int32)), .unset, .unset] []))) (fun _ k => XS.istore X93.here hx rfl (hb hby at_97) rfl (l' := #[.val (.int p1), .val (.int p2), .val (.int p3), .val (.int p4), .val (.int (0 : Int32)), .val (.ref b7), .val (.int u25), .val (.ref a36), .val (.int (1 : Int32)), .val (.int (own_ae u25 (0 : Int32))), .val (.int (1 : Int32)), .unset, .unset]) rfl k) ?_
    refine OGoalW.mp (S' := (T91.setTop (mkF m 101 #[.val (.int p1), .val (.int p2), .val (.int p3), .val (.int p4), .val (.int (0 : Int32)), .val (.ref b7), .val (.int u25), .val (.ref a36), .val (.int (1 : Int32)), .val (.int (own_ae u25 (0 : Int32))), .val (.int (1 : Int32)), .unset, .unset] [(.ref a36)]))) (fun _ k => XS.aload X93.here hx rfl (hb hby at_99) rfl rfl k) ?_
    refine oCallVW (y := (⟨"com/example/deadlock_to_diagnosis/deadlocktodiagnosis/reader/LineScanner", "atEnd", "()Z"⟩ : MethodName)) (z := (⟨"com/example/deadlock_to_diagnosis/deadlocktodiagnosis/reader/LineScanner", "atEnd", "()Z"⟩ : MethodName)) X93 hx hZ hown (hw _ (List.mem_of_getElem? (i := 36) rfl)) (hw _ (List.mem_of_getElem? (i := 37) rfl)) (hw _ (List.mem_of_getElem? (i := 39) rfl)) (hw _ (List.mem_of_getElem? (i := 38) rfl)) (hw _ (List.mem_of_getElem? (i := 29) rfl)) (hw _ (List.mem_of_getElem? (i := 40) rfl)) (by decide) (rmAE l Z a0 hw a36 T73.heap n0 Z89 cs hcs S82 b7 u25 (0 : Int32) F84 E79 F80 F81) e96 E79 [] [] rfl rfl (by rw [hml]; rfl) (notFace_of_selects (args := #[]) (mvT hZ (hw _ (List.mem_of_getElem? (i := 39) rfl)))) (lenOf own_pd___Z rfl) 0 (Nat.le_of_eq rfl) (by decide) (by decide) (by decide) (by decide) (hb hby at_101) ?_
    intro v99 T100 L101 X102 q103
    obtain ⟨rfl, N104, e105⟩ := q103
    have N106 := Fr.app N97 N104
    show OGoalW p e below s _ _ _ (T100.setTop (mkF m 104 #[.val (.int p1), .val (.int p2), .val (.int p3), .val (.int p4), .val (.int (0 : Int32)), .val (.ref b7), .val (.int u25), .val (.ref a36), .val (.int (1 : Int32)), .val (.int (own_ae u25 (0 : Int32))), .val (.int (1 : Int32)), .unset, .unset] [(.int (own_ae u25 (0 : Int32)))]))
    refine OGoalW.mp (S' := (T100.setTop (mkF m 106 #[.val (.int p1), .val (.int p2), .val (.int p3), .val (.int p4), .val (.int (0 : Int32)), .val (.ref b7), .val (.int u25), .val (.ref a36), .val (.int (1 : Int32)), .val (.int (own_ae u25 (0 : Int32))), .val (.int (1 : Int32)), .unset, .unset] [(.int (own_ae u25 (0 : Int32))), (.int (own_ae u25 (0 : Int32)))]))) (fun _ k => XS.iload X102.here hx rfl (hb hby at_104) rfl k) ?_
    refine OGoalW.mp (S' := (T100.setTop (mkF m 109 #[.val (.int p1), .val (.int p2), .val (.int p3), .val (.int p4), .val (.int (0 : Int32)), .val (.ref b7), .val (.int u25), .val (.ref a36), .val (.int (1 : Int32)), .val (.int (own_ae u25 (0 : Int32))), .val (.int (1 : Int32)), .unset, .unset] []))) (fun _ k => XS.icmpNo X102.here hx rfl (hb hby at_106) rfl (XT.ii_ne_f rfl) k) ?_
    refine OGoalW.mp (S' := (T100.setTop (mkF m 110 #[.val (.int p1), .val (.int p2), .val (.int p3), .val (.int p4), .val (.int (0 : Int32)), .val (.ref b7), .val (.int u25), .val (.ref a36), .val (.int (1 : Int32)), .val (.int (own_ae u25 (0 : Int32))), .val (.int (1 : Int32)), .unset, .unset] [(.int (1 : Int32))]))) (fun _ k => XS.iconst X102.here hx rfl (hb hby at_109) k) ?_
    refine OGoalW.mp (S' := (T100.setTop (mkF m 114 #[.val (.int p1), .val (.int p2), .val (.int p3), .val (.int p4), .val (.int (0 : Int32)), .val (.ref b7), .val (.int u25), .val (.ref a36), .val (.int (1 : Int32)), .val (.int (own_ae u25 (0 : Int32))), .val (.int (1 : Int32)), .unset, .unset] [(.int (1 : Int32))]))) (fun _ k => XS.goto X102.here hx rfl (pc0 := 110) (pc' := 114) rfl (hb hby at_110) (by decide) (by decide) k) ?_
    refine OGoalW.mp (S' := (T100.setTop (mkF m 116 #[.val (.int p1), .val (.int p2), .val (.int p3), .val (.int p4), .val (.int (0 : Int32)), .val (.ref b7), .val (.int u25), .val (.ref a36), .val (.int (1 : Int32)), .val (.int (own_ae u25 (0 : Int32))), .val (.int (1 : Int32)), .val (.int (1 : Int32)), .unset] []))) (fun _ k => XS.istore X102.here hx rfl (hb hby at_114) rfl (l' := #[.val (.int p1), .val (.int p2), .val (.int p3), .val (.int p4), .val (.int (0 : Int32)), .val (.ref b7), .val (.int u25), .val (.ref a36), .val (.int (1 : Int32)), .val (.int (own_ae u25 (0 : Int32))), .val (.int (1 : Int32)), .val (.int (1 : Int32)), .unset]) rfl k) ?_
    refine OGoalW.mp (S' := (T100.setTop (mkF m 118 #[.val (.int p1), .val (.int p2), .val (.int p3), .val (.int p4), .val (.int (0 : Int32)), .val (.ref b7), .val (.int u25), .val (.ref a36), .val (.int (1 : Int32)), .val (.int (own_ae u25 (0 : Int32))), .val (.int (1 : Int32)), .val (.int (1 : Int32)), .unset] [(.ref a36)]))) (fun _ k => XS.aload X102.here hx rfl (hb hby at_116) rfl rfl k) ?_
    refine oCallVW (y := (⟨"com/example/deadlock_to_diagnosis/deadlocktodiagnosis/reader/LineScanner", "position", "()I"⟩ : MethodName)) (z := (⟨"com/example/deadlock_to_diagnosis/deadlocktodiagnosis/reader/LineScanner", "position", "()I"⟩ : MethodName)) X102 hx hZ hown (hw _ (List.mem_of_getElem? (i := 59) rfl)) (hw _ (List.mem_of_getElem? (i := 60) rfl)) (hw _ (List.mem_of_getElem? (i := 62) rfl)) (hw _ (List.mem_of_getElem? (i := 61) rfl)) (hw _ (List.mem_of_getElem? (i := 29) rfl)) (hw _ (List.mem_of_getElem? (i := 63) rfl)) (by decide) (rmPo l Z a0 hw a36 T73.heap n0 Z89 u25 F81) e105 E79 [] [] rfl rfl (by rw [hml]; rfl) (notFace_of_selects (args := #[]) (mvT hZ (hw _ (List.mem_of_getElem? (i := 62) rfl)))) (lenOf own_pd___I rfl) 0 (Nat.le_of_eq rfl) (by decide) (by decide) (by decide) (by decide) (hb hby at_118) ?_
    intro v107 T108 L109 X110 q111
    obtain ⟨rfl, N112, e113⟩ := q111
    have N114 := Fr.app N106 N112
    show OGoalW p e below s _ _ _ (T108.setTop (mkF m 121 #[.val (.int p1), .val (.int p2), .val (.int p3), .val (.int p4), .val (.int (0 : Int32)), .val (.ref b7), .val (.int u25), .val (.ref a36), .val (.int (1 : Int32)), .val (.int (own_ae u25 (0 : Int32))), .val (.int (1 : Int32)), .val (.int (1 : Int32)), .unset] [(.int u25)]))
    refine OGoalW.mp (S' := (T108.setTop (mkF m 123 #[.val (.int p1), .val (.int p2), .val (.int p3), .val (.int p4), .val (.int (0 : Int32)), .val (.ref b7), .val (.int u25), .val (.ref a36), .val (.int (1 : Int32)), .val (.int (own_ae u25 (0 : Int32))), .val (.int (1 : Int32)), .val (.int (1 : Int32)), .unset] [(.int u25), (.int u25)]))) (fun _ k => XS.iload X110.here hx rfl (hb hby at_121) rfl k) ?_
    refine OGoalW.mp (S' := (T108.setTop (mkF m 126 #[.val (.int p1), .val (.int p2), .val (.int p3), .val (.int p4), .val (.int (0 : Int32)), .val (.ref b7), .val (.int u25), .val (.ref a36), .val (.int (1 : Int32)), .val (.int (own_ae u25 (0 : Int32))), .val (.int (1 : Int32)), .val (.int (1 : Int32)), .unset] []))) (fun _ k => XS.icmpNo X110.here hx rfl (hb hby at_123) rfl (XT.ii_ne_f rfl) k) ?_
    refine OGoalW.mp (S' := (T108.setTop (mkF m 127 #[.val (.int p1), .val (.int p2), .val (.int p3), .val (.int p4), .val (.int (0 : Int32)), .val (.ref b7), .val (.int u25), .val (.ref a36), .val (.int (1 : Int32)), .val (.int (own_ae u25 (0 : Int32))), .val (.int (1 : Int32)), .val (.int (1 : Int32)), .unset] [(.int (1 : Int32))]))) (fun _ k => XS.iconst X110.here hx rfl (hb hby at_126) k) ?_
    refine OGoalW.mp (S' := (T108.setTop (mkF m 131 #[.val (.int p1), .val (.int p2), .val (.int p3), .val (.int p4), .val (.int (0 : Int32)), .val (.ref b7), .val (.int u25), .val (.ref a36), .val (.int (1 : Int32)), .val (.int (own_ae u25 (0 : Int32))), .val (.int (1 : Int32)), .val (.int (1 : Int32)), .unset] [(.int (1 : Int32))]))) (fun _ k => XS.goto X110.here hx rfl (pc0 := 127) (pc' := 131) rfl (hb hby at_127) (by decide) (by decide) k) ?_
    refine OGoalW.mp (S' := (T108.setTop (mkF m 133 #[.val (.int p1), .val (.int p2), .val (.int p3), .val (.int p4), .val (.int (0 : Int32)), .val (.ref b7), .val (.int u25), .val (.ref a36), .val (.int (1 : Int32)), .val (.int (own_ae u25 (0 : Int32))), .val (.int (1 : Int32)), .val (.int (1 : Int32)), .val (.int (1 : Int32))] []))) (fun _ k => XS.istore X110.here hx rfl (hb hby at_131) rfl (l' := #[.val (.int p1), .val (.int p2), .val (.int p3), .val (.int p4), .val (.int (0 : Int32)), .val (.ref b7), .val (.int u25), .val (.ref a36), .val (.int (1 : Int32)), .val (.int (own_ae u25 (0 : Int32))), .val (.int (1 : Int32)), .val (.int (1 : Int32)), .val (.int (1 : Int32))]) rfl k) ?_
    refine OGoalW.mp (S' := (T108.setTop (mkF m 135 #[.val (.int p1), .val (.int p2), .val (.int p3), .val (.int p4), .val (.int (0 : Int32)), .val (.ref b7), .val (.int u25), .val (.ref a36), .val (.int (1 : Int32)), .val (.int (own_ae u25 (0 : Int32))), .val (.int (1 : Int32)), .val (.int (1 : Int32)), .val (.int (1 : Int32))] [(.int (1 : Int32))]))) (fun _ k => XS.iload X110.here hx rfl (hb hby at_133) rfl k) ?_
    have hd115 : ¬ ((1 : Int32) = 0) := mNe (by omega)
    refine OGoalW.mp (S' := (T108.setTop (mkF m 138 #[.val (.int p1), .val (.int p2), .val (.int p3), .val (.int p4), .val (.int (0 : Int32)), .val (.ref b7), .val (.int u25), .val (.ref a36), .val (.int (1 : Int32)), .val (.int (own_ae u25 (0 : Int32))), .val (.int (1 : Int32)), .val (.int (1 : Int32)), .val (.int (1 : Int32))] []))) (fun _ k => XS.ifNo X110.here hx rfl (hb hby at_135) rfl (XT.i0_eq_f hd115) k) ?_
    refine OGoalW.mp (S' := (T108.setTop (mkF m 140 #[.val (.int p1), .val (.int p2), .val (.int p3), .val (.int p4), .val (.int (0 : Int32)), .val (.ref b7), .val (.int u25), .val (.ref a36), .val (.int (1 : Int32)), .val (.int (own_ae u25 (0 : Int32))), .val (.int (1 : Int32)), .val (.int (1 : Int32)), .val (.int (1 : Int32))] [(.int (1 : Int32))]))) (fun _ k => XS.iload X110.here hx rfl (hb hby at_138) rfl k) ?_
    have hd116 : ¬ ((1 : Int32) = 0) := mNe (by omega)
    refine OGoalW.mp (S' := (T108.setTop (mkF m 143 #[.val (.int p1), .val (.int p2), .val (.int p3), .val (.int p4), .val (.int (0 : Int32)), .val (.ref b7), .val (.int u25), .val (.ref a36), .val (.int (1 : Int32)), .val (.int (own_ae u25 (0 : Int32))), .val (.int (1 : Int32)), .val (.int (1 : Int32)), .val (.int (1 : Int32))] []))) (fun _ k => XS.ifNo X110.here hx rfl (hb hby at_140) rfl (XT.i0_eq_f hd116) k) ?_
    refine OGoalW.mp (S' := (T108.setTop (mkF m 145 #[.val (.int p1), .val (.int p2), .val (.int p3), .val (.int p4), .val (.int (0 : Int32)), .val (.ref b7), .val (.int u25), .val (.ref a36), .val (.int (1 : Int32)), .val (.int (own_ae u25 (0 : Int32))), .val (.int (1 : Int32)), .val (.int (1 : Int32)), .val (.int (1 : Int32))] [(.int (1 : Int32))]))) (fun _ k => XS.iload X110.here hx rfl (hb hby at_143) rfl k) ?_
    have hd117 : ¬ ((1 : Int32) = 0) := mNe (by omega)
    refine OGoalW.mp (S' := (T108.setTop (mkF m 148 #[.val (.int p1), .val (.int p2), .val (.int p3), .val (.int p4), .val (.int (0 : Int32)), .val (.ref b7), .val (.int u25), .val (.ref a36), .val (.int (1 : Int32)), .val (.int (own_ae u25 (0 : Int32))), .val (.int (1 : Int32)), .val (.int (1 : Int32)), .val (.int (1 : Int32))] []))) (fun _ k => XS.ifNo X110.here hx rfl (hb hby at_145) rfl (XT.i0_eq_f hd117) k) ?_
    refine OGoalW.mp (S' := (T108.setTop (mkF m 150 #[.val (.int p1), .val (.int p2), .val (.int p3), .val (.int p4), .val (.int (0 : Int32)), .val (.ref b7), .val (.int u25), .val (.ref a36), .val (.int (1 : Int32)), .val (.int (own_ae u25 (0 : Int32))), .val (.int (1 : Int32)), .val (.int (1 : Int32)), .val (.int (1 : Int32))] [(.int (1 : Int32))]))) (fun _ k => XS.iload X110.here hx rfl (hb hby at_148) rfl k) ?_
    have hd118 : ¬ ((1 : Int32) = 0) := mNe (by omega)
    refine OGoalW.mp (S' := (T108.setTop (mkF m 153 #[.val (.int p1), .val (.int p2), .val (.int p3), .val (.int p4), .val (.int (0 : Int32)), .val (.ref b7), .val (.int u25), .val (.ref a36), .val (.int (1 : Int32)), .val (.int (own_ae u25 (0 : Int32))), .val (.int (1 : Int32)), .val (.int (1 : Int32)), .val (.int (1 : Int32))] []))) (fun _ k => XS.ifNo X110.here hx rfl (hb hby at_150) rfl (XT.i0_eq_f hd118) k) ?_
    refine OGoalW.mp (S' := (T108.setTop (mkF m 154 #[.val (.int p1), .val (.int p2), .val (.int p3), .val (.int p4), .val (.int (0 : Int32)), .val (.ref b7), .val (.int u25), .val (.ref a36), .val (.int (1 : Int32)), .val (.int (own_ae u25 (0 : Int32))), .val (.int (1 : Int32)), .val (.int (1 : Int32)), .val (.int (1 : Int32))] [(.int (1 : Int32))]))) (fun _ k => XS.iconst X110.here hx rfl (hb hby at_153) k) ?_
    refine OGoalW.mp (S' := (T108.setTop (mkF m 158 #[.val (.int p1), .val (.int p2), .val (.int p3), .val (.int p4), .val (.int (0 : Int32)), .val (.ref b7), .val (.int u25), .val (.ref a36), .val (.int (1 : Int32)), .val (.int (own_ae u25 (0 : Int32))), .val (.int (1 : Int32)), .val (.int (1 : Int32)), .val (.int (1 : Int32))] [(.int (1 : Int32))]))) (fun _ k => XS.goto X110.here hx rfl (pc0 := 154) (pc' := 158) rfl (hb hby at_154) (by decide) (by decide) k) ?_
    refine oRetZW X110 hS13 (Nat.le_trans (Nat.le_trans (Nat.le_trans (Nat.le_trans (Nat.le_refl _) E33.1) K51.1) K78.1) (Nat.le_of_eq (congrArg Array.size e113).symm)) hx hlk hret (Or.inr rfl) (hb hby at_158) ?_ (by decide) (by decide)
    exact ⟨rfl, N114⟩
  · rw [hu]
    show OGoalW p e below s _ _ _ (s₁.setTop (mkF m 5 #[.val (.int p1), .val (.int p2), .val (.int p3), .val (.int p4), .val (.int (1 : Int32)), .unset, .unset, .unset, .unset, .unset, .unset, .unset, .unset] []))
    refine OGoalW.mp (S' := (s₁.setTop (mkF m 7 #[.val (.int p1), .val (.int p2), .val (.int p3), .val (.int p4), .val (.int (1 : Int32)), .unset, .unset, .unset, .unset, .unset, .unset, .unset, .unset] [(.int (1 : Int32))]))) (fun _ k => XS.iload X0.here hx rfl (hb hby at_5) rfl k) ?_
    refine OGoalW.mp (S' := (s₁.setTop (mkF m 8 #[.val (.int p1), .val (.int p2), .val (.int p3), .val (.int p4), .val (.int (1 : Int32)), .unset, .unset, .unset, .unset, .unset, .unset, .unset, .unset] [(.int p2), (.int (1 : Int32))]))) (fun _ k => XS.iloadN X0.here hx rfl (hb hby at_7) rfl k) ?_
    refine OGoalW.mp (S' := (s₁.setTop (mkF m 9 #[.val (.int p1), .val (.int p2), .val (.int p3), .val (.int p4), .val (.int (1 : Int32)), .unset, .unset, .unset, .unset, .unset, .unset, .unset, .unset] [(.int p3), (.int p2), (.int (1 : Int32))]))) (fun _ k => XS.iloadN X0.here hx rfl (hb hby at_8) rfl k) ?_
    refine oCallSW (y := (⟨"com/example/deadlock_to_diagnosis/deadlocktodiagnosis/reader/LineScannerAtEndPinLaw", "drawn", "(III)Ljava/lang/String;"⟩ : MethodName)) X0 hx hZ hown (hw _ (List.mem_of_getElem? (i := 0) rfl)) (hw _ (List.mem_of_getElem? (i := 1) rfl)) (hw _ (List.mem_of_getElem? (i := 2) rfl)) (hw _ (List.mem_of_getElem? (i := 3) rfl)) (by decide) (rmDr1 l Z a0 hw p2 p3 h0 n0 Z0 cs hcs St) e0 [(.int (1 : Int32)), (.int p2), (.int p3)] [] rfl rfl (by rw [hml]; rfl) (lenOf own_pd__III_Ljava_lang_String_ rfl) 0 (Nat.le_of_eq rfl) (by decide) (by decide) (by decide) (by decide) (hb hby at_9) ?_
    intro v120 T121 L122 X123 q124
    obtain ⟨b119, rfl, N125, K126, S127, D128⟩ := q124
    have N129 := Fr.app (Fr.nil n0) N125
    have Z130 : n0 ≤ T121.heap.size := Nat.le_trans Z0 K126.1
    show OGoalW p e below s _ _ _ (T121.setTop (mkF m 12 #[.val (.int p1), .val (.int p2), .val (.int p3), .val (.int p4), .val (.int (1 : Int32)), .unset, .unset, .unset, .unset, .unset, .unset, .unset, .unset] [(.ref b119)]))
    refine OGoalW.mp (S' := (T121.setTop (mkF m 14 #[.val (.int p1), .val (.int p2), .val (.int p3), .val (.int p4), .val (.int (1 : Int32)), .val (.ref b119), .unset, .unset, .unset, .unset, .unset, .unset, .unset] []))) (fun _ k => XS.astore X123.here hx rfl (hb hby at_12) rfl rfl (l' := #[.val (.int p1), .val (.int p2), .val (.int p3), .val (.int p4), .val (.int (1 : Int32)), .val (.ref b119), .unset, .unset, .unset, .unset, .unset, .unset, .unset]) rfl k) ?_
    refine OGoalW.mp (S' := (T121.setTop (mkF m 15 #[.val (.int p1), .val (.int p2), .val (.int p3), .val (.int p4), .val (.int (1 : Int32)), .val (.ref b119), .unset, .unset, .unset, .unset, .unset, .unset, .unset] [(.int p4)]))) (fun _ k => XS.iloadN X123.here hx rfl (hb hby at_14) rfl k) ?_
    refine OGoalW.mp (S' := (T121.setTop (mkF m 17 #[.val (.int p1), .val (.int p2), .val (.int p3), .val (.int p4), .val (.int (1 : Int32)), .val (.ref b119), .unset, .unset, .unset, .unset, .unset, .unset, .unset] [(.int (2147483647 : Int32)), (.int p4)]))) (fun _ k => Stand.ldcI X123 hx hown (mvT hZ (hw _ (List.mem_of_getElem? (i := 26) rfl))) rfl (hb hby at_15) k) ?_
    refine OGoalW.mp (S' := (T121.setTop (mkF m 18 #[.val (.int p1), .val (.int p2), .val (.int p3), .val (.int p4), .val (.int (1 : Int32)), .val (.ref b119), .unset, .unset, .unset, .unset, .unset, .unset, .unset] [(.int (p4 &&& (2147483647 : Int32)))]))) (fun _ k => XS.iand X123.here hx rfl (hb hby at_17) rfl k) ?_
    obtain ⟨u131, hu131⟩ : ∃ z : Int32, z = (p4 &&& (2147483647 : Int32)) := ⟨_, rfl⟩
    rw [← hu131]
    have l132 : (2147483647 : Int32).toInt = 2147483647 := by decide
    have t133 : u131.toInt = (p4).toInt % 2147483648 := by rw [hu131]; exact c_mask p4 (2147483647 : Int32) 31 (by decide) (by decide)
    have r134 := rng32 u131
    refine OGoalW.mp (S' := (T121.setTop (mkF m 20 #[.val (.int p1), .val (.int p2), .val (.int p3), .val (.int p4), .val (.int (1 : Int32)), .val (.ref b119), .unset, .unset, .unset, .unset, .unset, .unset, .unset] [(.int (1 : Int32)), (.int u131)]))) (fun _ k => XS.iload X123.here hx rfl (hb hby at_18) rfl k) ?_
    refine OGoalW.mp (S' := (T121.setTop (mkF m 21 #[.val (.int p1), .val (.int p2), .val (.int p3), .val (.int p4), .val (.int (1 : Int32)), .val (.ref b119), .unset, .unset, .unset, .unset, .unset, .unset, .unset] [(.int (1 : Int32)), (.int (1 : Int32)), (.int u131)]))) (fun _ k => XS.iconst X123.here hx rfl (hb hby at_20) k) ?_
    refine OGoalW.mp (S' := (T121.setTop (mkF m 22 #[.val (.int p1), .val (.int p2), .val (.int p3), .val (.int p4), .val (.int (1 : Int32)), .val (.ref b119), .unset, .unset, .unset, .unset, .unset, .unset, .unset] [(.int ((1 : Int32) + (1 : Int32))), (.int u131)]))) (fun _ k => XS.iadd X123.here hx rfl (hb hby at_21) rfl k) ?_
    rw [show ((1 : Int32) + (1 : Int32)) = (2 : Int32) by decide]
    show OGoalW p e below s _ _ _ (T121.setTop (mkF m 22 #[.val (.int p1), .val (.int p2), .val (.int p3), .val (.int p4), .val (.int (1 : Int32)), .val (.ref b119), .unset, .unset, .unset, .unset, .unset, .unset, .unset] [(.int (2 : Int32)), (.int u131)]))
    refine OGoalW.mp (S' := (T121.setTop (mkF m 23 #[.val (.int p1), .val (.int p2), .val (.int p3), .val (.int p4), .val (.int (1 : Int32)), .val (.ref b119), .unset, .unset, .unset, .unset, .unset, .unset, .unset] [(.int (u131 % (2 : Int32)))]))) (fun _ k => iremM X123 hx rfl (hb hby at_22) rfl (by decide) k) ?_
    obtain ⟨u135, hu135⟩ : ∃ z : Int32, z = (u131 % (2 : Int32)) := ⟨_, rfl⟩
    rw [← hu135]
    have l136 : (2 : Int32).toInt = 2 := by decide
    have t137 : u135.toInt = (u131).toInt % 2 := by rw [hu135]; exact (c_irem u131 (2 : Int32) 2 (by decide)).1 (by omega)
    have r138 := rng32 u135
    refine OGoalW.mp (S' := (T121.setTop (mkF m 25 #[.val (.int p1), .val (.int p2), .val (.int p3), .val (.int p4), .val (.int (1 : Int32)), .val (.ref b119), .val (.int u135), .unset, .unset, .unset, .unset, .unset, .unset] []))) (fun _ k => XS.istore X123.here hx rfl (hb hby at_23) rfl (l' := #[.val (.int p1), .val (.int p2), .val (.int p3), .val (.int p4), .val (.int (1 : Int32)), .val (.ref b119), .val (.int u135), .unset, .unset, .unset, .unset, .unset, .unset]) rfl k) ?_
    obtain ⟨T139, h143, X140, e141, E144, A145, D146, -, st142⟩ := newO X123 hx hZ hown (hw _ (List.mem_of_getElem? (i := 27) rfl)) (hw _ (List.mem_of_getElem? (i := 28) rfl)) (hw _ (List.mem_of_getElem? (i := 29) rfl)) rfl (g := mkF m 25 #[.val (.int p1), .val (.int p2), .val (.int p3), .val (.int p4), .val (.int (1 : Int32)), .val (.ref b119), .val (.int u135), .unset, .unset, .unset, .unset, .unset, .unset] []) rfl (hb hby at_25) (by decide) (by decide)
    obtain ⟨a147, g148⟩ : ∃ z, z = T121.heap.size := ⟨_, rfl⟩
    rw [← g148] at A145 D146 st142
    have lt149 : b119 < a147 := by rw [g148]; exact D128.lt
    have F150 := S127.ext E144
    have F151 := D128.ext E144
    have F152 : Fld Z h143 a147 "com/example/deadlock_to_diagnosis/deadlocktodiagnosis/reader/LineScanner" "line" "Ljava/lang/String;" .null := D146 (Or.inr (hw _ (List.mem_of_getElem? (i := 35) rfl))) (ty := (.object "java/lang/String")) (by decide)
    have F153 : Fld Z h143 a147 "com/example/deadlock_to_diagnosis/deadlocktodiagnosis/reader/LineScanner" "at" "I" (.int (0 : Int32)) := D146 (Or.inl (hw _ (List.mem_of_getElem? (i := 42) rfl))) (ty := .int) (by decide)
    have Z154 : n0 ≤ h143.size := Nat.le_trans Z130 E144.1
    have ab155 : n0 ≤ a147 := Nat.le_trans Z130 (Nat.le_of_eq g148.symm)
    refine OGoalW.mp (S' := (T139.setTop (mkF m 28 #[.val (.int p1), .val (.int p2), .val (.int p3), .val (.int p4), .val (.int (1 : Int32)), .val (.ref b119), .val (.int u135), .unset, .unset, .unset, .unset, .unset, .unset] [(.ref a147)]))) (fun _ k => st142 _ k) ?_
    refine OGoalW.mp (S' := (T139.setTop (mkF m 29 #[.val (.int p1), .val (.int p2), .val (.int p3), .val (.int p4), .val (.int (1 : Int32)), .val (.ref b119), .val (.int u135), .unset, .unset, .unset, .unset, .unset, .unset] [(.ref a147), (.ref a147)]))) (fun _ k => XS.dup X140.here hx rfl (hb hby at_28) rfl rfl k) ?_
    refine OGoalW.mp (S' := (T139.setTop (mkF m 31 #[.val (.int p1), .val (.int p2), .val (.int p3), .val (.int p4), .val (.int (1 : Int32)), .val (.ref b119), .val (.int u135), .unset, .unset, .unset, .unset, .unset, .unset] [(.ref b119), (.ref a147), (.ref a147)]))) (fun _ k => XS.aload X140.here hx rfl (hb hby at_29) rfl rfl k) ?_
    refine oCallNW (y := (⟨"com/example/deadlock_to_diagnosis/deadlocktodiagnosis/reader/LineScanner", "<init>", "(Ljava/lang/String;)V"⟩ : MethodName)) X140 hx hZ rfl hown (hw _ (List.mem_of_getElem? (i := 30) rfl)) (hw _ (List.mem_of_getElem? (i := 31) rfl)) (hw _ (List.mem_of_getElem? (i := 29) rfl)) (hw _ (List.mem_of_getElem? (i := 32) rfl)) (by decide) (rmLI l Z a0 hw a147 b119 h143 n0 Z154 cs hcs F150 A145 F152 F153 ab155) e141 [(.ref b119)] [(.ref a147)] rfl rfl (by rw [hml]; rfl) (lenOf own_pd__Ljava_lang_String__V rfl) 1 (Nat.le_of_eq rfl) (by decide) (by decide) (by decide) (by decide) (hb hby at_31) ?_
    intro v156 T157 L158 X159 q160
    obtain ⟨rfl, N161, K162, E163, F164, F165, S166⟩ := q160
    have N167 := Fr.app N129 N161
    have F169 := F151.keep K162 A145 (hw _ (List.mem_of_getElem? (i := 28) rfl)) (Nat.ne_of_lt lt149)
    have Z173 : n0 ≤ T157.heap.size := Nat.le_trans Z154 K162.1
    show OGoalW p e below s _ _ _ (T157.setTop (mkF m 34 #[.val (.int p1), .val (.int p2), .val (.int p3), .val (.int p4), .val (.int (1 : Int32)), .val (.ref b119), .val (.int u135), .unset, .unset, .unset, .unset, .unset, .unset] [(.ref a147)]))
    refine OGoalW.mp (S' := (T157.setTop (mkF m 36 #[.val (.int p1), .val (.int p2), .val (.int p3), .val (.int p4), .val (.int (1 : Int32)), .val (.ref b119), .val (.int u135), .val (.ref a147), .unset, .unset, .unset, .unset, .unset] []))) (fun _ k => XS.astore X159.here hx rfl (hb hby at_34) rfl rfl (l' := #[.val (.int p1), .val (.int p2), .val (.int p3), .val (.int p4), .val (.int (1 : Int32)), .val (.ref b119), .val (.int u135), .val (.ref a147), .unset, .unset, .unset, .unset, .unset]) rfl k) ?_
    refine OGoalW.mp (S' := (T157.setTop (mkF m 38 #[.val (.int p1), .val (.int p2), .val (.int p3), .val (.int p4), .val (.int (1 : Int32)), .val (.ref b119), .val (.int u135), .val (.ref a147), .unset, .unset, .unset, .unset, .unset] [(.ref a147)]))) (fun _ k => XS.aload X159.here hx rfl (hb hby at_36) rfl rfl k) ?_
    refine oCallVW (y := (⟨"com/example/deadlock_to_diagnosis/deadlocktodiagnosis/reader/LineScanner", "atEnd", "()Z"⟩ : MethodName)) (z := (⟨"com/example/deadlock_to_diagnosis/deadlocktodiagnosis/reader/LineScanner", "atEnd", "()Z"⟩ : MethodName)) X159 hx hZ hown (hw _ (List.mem_of_getElem? (i := 36) rfl)) (hw _ (List.mem_of_getElem? (i := 37) rfl)) (hw _ (List.mem_of_getElem? (i := 39) rfl)) (hw _ (List.mem_of_getElem? (i := 38) rfl)) (hw _ (List.mem_of_getElem? (i := 29) rfl)) (hw _ (List.mem_of_getElem? (i := 40) rfl)) (by decide) (rmAE l Z a0 hw a147 T157.heap n0 Z173 cs hcs S166 b119 (0 : Int32) (1 : Int32) F169 E163 F164 F165) rfl E163 [] [] rfl rfl (by rw [hml]; rfl) (notFace_of_selects (args := #[]) (mvT hZ (hw _ (List.mem_of_getElem? (i := 39) rfl)))) (lenOf own_pd___Z rfl) 0 (Nat.le_of_eq rfl) (by decide) (by decide) (by decide) (by decide) (hb hby at_38) ?_
    intro v174 T175 L176 X177 q178
    obtain ⟨rfl, N179, e180⟩ := q178
    have N181 := Fr.app N167 N179
    show OGoalW p e below s _ _ _ (T175.setTop (mkF m 41 #[.val (.int p1), .val (.int p2), .val (.int p3), .val (.int p4), .val (.int (1 : Int32)), .val (.ref b119), .val (.int u135), .val (.ref a147), .unset, .unset, .unset, .unset, .unset] [(.int (own_ae (0 : Int32) (1 : Int32)))]))
    refine OGoalW.mp (S' := (T175.setTop (mkF m 43 #[.val (.int p1), .val (.int p2), .val (.int p3), .val (.int p4), .val (.int (1 : Int32)), .val (.ref b119), .val (.int u135), .val (.ref a147), .unset, .unset, .unset, .unset, .unset] [(.int (1 : Int32)), (.int (own_ae (0 : Int32) (1 : Int32)))]))) (fun _ k => XS.iload X177.here hx rfl (hb hby at_41) rfl k) ?_
    have hd182 : ¬ ((1 : Int32) = 0) := mNe (by omega)
    refine OGoalW.mp (S' := (T175.setTop (mkF m 50 #[.val (.int p1), .val (.int p2), .val (.int p3), .val (.int p4), .val (.int (1 : Int32)), .val (.ref b119), .val (.int u135), .val (.ref a147), .unset, .unset, .unset, .unset, .unset] [(.int (own_ae (0 : Int32) (1 : Int32)))]))) (fun _ k => XS.ifYes X177.here hx rfl (pc0 := 43) (pc' := 50) rfl (hb hby at_43) rfl (XT.i0_ne_t hd182) (by decide) (by decide) k) ?_
    refine OGoalW.mp (S' := (T175.setTop (mkF m 51 #[.val (.int p1), .val (.int p2), .val (.int p3), .val (.int p4), .val (.int (1 : Int32)), .val (.ref b119), .val (.int u135), .val (.ref a147), .unset, .unset, .unset, .unset, .unset] [(.int (0 : Int32)), (.int (own_ae (0 : Int32) (1 : Int32)))]))) (fun _ k => XS.iconst X177.here hx rfl (hb hby at_50) k) ?_
    refine OGoalW.mp (S' := (T175.setTop (mkF m 54 #[.val (.int p1), .val (.int p2), .val (.int p3), .val (.int p4), .val (.int (1 : Int32)), .val (.ref b119), .val (.int u135), .val (.ref a147), .unset, .unset, .unset, .unset, .unset] []))) (fun _ k => XS.icmpNo X177.here hx rfl (hb hby at_51) rfl (XT.ii_ne_f (by decide)) k) ?_
    refine OGoalW.mp (S' := (T175.setTop (mkF m 55 #[.val (.int p1), .val (.int p2), .val (.int p3), .val (.int p4), .val (.int (1 : Int32)), .val (.ref b119), .val (.int u135), .val (.ref a147), .unset, .unset, .unset, .unset, .unset] [(.int (1 : Int32))]))) (fun _ k => XS.iconst X177.here hx rfl (hb hby at_54) k) ?_
    refine OGoalW.mp (S' := (T175.setTop (mkF m 59 #[.val (.int p1), .val (.int p2), .val (.int p3), .val (.int p4), .val (.int (1 : Int32)), .val (.ref b119), .val (.int u135), .val (.ref a147), .unset, .unset, .unset, .unset, .unset] [(.int (1 : Int32))]))) (fun _ k => XS.goto X177.here hx rfl (pc0 := 55) (pc' := 59) rfl (hb hby at_55) (by decide) (by decide) k) ?_
    refine OGoalW.mp (S' := (T175.setTop (mkF m 61 #[.val (.int p1), .val (.int p2), .val (.int p3), .val (.int p4), .val (.int (1 : Int32)), .val (.ref b119), .val (.int u135), .val (.ref a147), .val (.int (1 : Int32)), .unset, .unset, .unset, .unset] []))) (fun _ k => XS.istore X177.here hx rfl (hb hby at_59) rfl (l' := #[.val (.int p1), .val (.int p2), .val (.int p3), .val (.int p4), .val (.int (1 : Int32)), .val (.ref b119), .val (.int u135), .val (.ref a147), .val (.int (1 : Int32)), .unset, .unset, .unset, .unset]) rfl k) ?_
    refine OGoalW.mp (S' := (T175.setTop (mkF m 63 #[.val (.int p1), .val (.int p2), .val (.int p3), .val (.int p4), .val (.int (1 : Int32)), .val (.ref b119), .val (.int u135), .val (.ref a147), .val (.int (1 : Int32)), .unset, .unset, .unset, .unset] [(.ref a147)]))) (fun _ k => XS.aload X177.here hx rfl (hb hby at_61) rfl rfl k) ?_
    refine OGoalW.mp (S' := (T175.setTop (mkF m 65 #[.val (.int p1), .val (.int p2), .val (.int p3), .val (.int p4), .val (.int (1 : Int32)), .val (.ref b119), .val (.int u135), .val (.ref a147), .val (.int (1 : Int32)), .unset, .unset, .unset, .unset] [(.int u135), (.ref a147)]))) (fun _ k => XS.iload X177.here hx rfl (hb hby at_63) rfl k) ?_
    refine oCallVW (y := (⟨"com/example/deadlock_to_diagnosis/deadlocktodiagnosis/reader/LineScanner", "moveTo", "(I)V"⟩ : MethodName)) (z := (⟨"com/example/deadlock_to_diagnosis/deadlocktodiagnosis/reader/LineScanner", "moveTo", "(I)V"⟩ : MethodName)) X177 hx hZ hown (hw _ (List.mem_of_getElem? (i := 54) rfl)) (hw _ (List.mem_of_getElem? (i := 55) rfl)) (hw _ (List.mem_of_getElem? (i := 57) rfl)) (hw _ (List.mem_of_getElem? (i := 56) rfl)) (hw _ (List.mem_of_getElem? (i := 29) rfl)) (hw _ (List.mem_of_getElem? (i := 58) rfl)) (by decide) (rmMv l Z a0 hw a147 u135 T157.heap n0 Z173 cs hcs S166 b119 (0 : Int32) E163 F164 F165 ab155) e180 E163 [(.int u135)] [] rfl rfl (by rw [hml]; rfl) (notFace_of_selects (args := #[]) (mvT hZ (hw _ (List.mem_of_getElem? (i := 57) rfl)))) (lenOf own_pd__I_V rfl) 0 (Nat.le_of_eq rfl) (by decide) (by decide) (by decide) (by decide) (hb hby at_65) ?_
    intro v183 T184 L185 X186 q187
    obtain ⟨rfl, N188, K189, E190, F191, F192, S193⟩ := q187
    have N194 := Fr.app N181 N188
    have F195 := F169.keep K189 E163 (hw _ (List.mem_of_getElem? (i := 28) rfl)) (Nat.ne_of_lt lt149)
    have Z200 : n0 ≤ T184.heap.size := Nat.le_trans Z173 K189.1
    show OGoalW p e below s _ _ _ (T184.setTop (mkF m 68 #[.val (.int p1), .val (.int p2), .val (.int p3), .val (.int p4), .val (.int (1 : Int32)), .val (.ref b119), .val (.int u135), .val (.ref a147), .val (.int (1 : Int32)), .unset, .unset, .unset, .unset] []))
    refine OGoalW.mp (S' := (T184.setTop (mkF m 70 #[.val (.int p1), .val (.int p2), .val (.int p3), .val (.int p4), .val (.int (1 : Int32)), .val (.ref b119), .val (.int u135), .val (.ref a147), .val (.int (1 : Int32)), .unset, .unset, .unset, .unset] [(.ref a147)]))) (fun _ k => XS.aload X186.here hx rfl (hb hby at_68) rfl rfl k) ?_
    refine oCallVW (y := (⟨"com/example/deadlock_to_diagnosis/deadlocktodiagnosis/reader/LineScanner", "atEnd", "()Z"⟩ : MethodName)) (z := (⟨"com/example/deadlock_to_diagnosis/deadlocktodiagnosis/reader/LineScanner", "atEnd", "()Z"⟩ : MethodName)) X186 hx hZ hown (hw _ (List.mem_of_getElem? (i := 36) rfl)) (hw _ (List.mem_of_getElem? (i := 37) rfl)) (hw _ (List.mem_of_getElem? (i := 39) rfl)) (hw _ (List.mem_of_getElem? (i := 38) rfl)) (hw _ (List.mem_of_getElem? (i := 29) rfl)) (hw _ (List.mem_of_getElem? (i := 40) rfl)) (by decide) (rmAE l Z a0 hw a147 T184.heap n0 Z200 cs hcs S193 b119 u135 (1 : Int32) F195 E190 F191 F192) rfl E190 [] [] rfl rfl (by rw [hml]; rfl) (notFace_of_selects (args := #[]) (mvT hZ (hw _ (List.mem_of_getElem? (i := 39) rfl)))) (lenOf own_pd___Z rfl) 0 (Nat.le_of_eq rfl) (by decide) (by decide) (by decide) (by decide) (hb hby at_70) ?_
    intro v201 T202 L203 X204 q205
    obtain ⟨rfl, N206, e207⟩ := q205
    have N208 := Fr.app N194 N206
    show OGoalW p e below s _ _ _ (T202.setTop (mkF m 73 #[.val (.int p1), .val (.int p2), .val (.int p3), .val (.int p4), .val (.int (1 : Int32)), .val (.ref b119), .val (.int u135), .val (.ref a147), .val (.int (1 : Int32)), .unset, .unset, .unset, .unset] [(.int (own_ae u135 (1 : Int32)))]))
    refine OGoalW.mp (S' := (T202.setTop (mkF m 75 #[.val (.int p1), .val (.int p2), .val (.int p3), .val (.int p4), .val (.int (1 : Int32)), .val (.ref b119), .val (.int u135), .val (.ref a147), .val (.int (1 : Int32)), .val (.int (own_ae u135 (1 : Int32))), .unset, .unset, .unset] []))) (fun _ k => XS.istore X204.here hx rfl (hb hby at_73) rfl (l' := #[.val (.int p1), .val (.int p2), .val (.int p3), .val (.int p4), .val (.int (1 : Int32)), .val (.ref b119), .val (.int u135), .val (.ref a147), .val (.int (1 : Int32)), .val (.int (own_ae u135 (1 : Int32))), .unset, .unset, .unset]) rfl k) ?_
    refine OGoalW.mp (S' := (T202.setTop (mkF m 77 #[.val (.int p1), .val (.int p2), .val (.int p3), .val (.int p4), .val (.int (1 : Int32)), .val (.ref b119), .val (.int u135), .val (.ref a147), .val (.int (1 : Int32)), .val (.int (own_ae u135 (1 : Int32))), .unset, .unset, .unset] [(.int (own_ae u135 (1 : Int32)))]))) (fun _ k => XS.iload X204.here hx rfl (hb hby at_75) rfl k) ?_
    refine OGoalW.mp (S' := (T202.setTop (mkF m 79 #[.val (.int p1), .val (.int p2), .val (.int p3), .val (.int p4), .val (.int (1 : Int32)), .val (.ref b119), .val (.int u135), .val (.ref a147), .val (.int (1 : Int32)), .val (.int (own_ae u135 (1 : Int32))), .unset, .unset, .unset] [(.int u135), (.int (own_ae u135 (1 : Int32)))]))) (fun _ k => XS.iload X204.here hx rfl (hb hby at_77) rfl k) ?_
    refine OGoalW.mp (S' := (T202.setTop (mkF m 81 #[.val (.int p1), .val (.int p2), .val (.int p3), .val (.int p4), .val (.int (1 : Int32)), .val (.ref b119), .val (.int u135), .val (.ref a147), .val (.int (1 : Int32)), .val (.int (own_ae u135 (1 : Int32))), .unset, .unset, .unset] [(.int (1 : Int32)), (.int u135), (.int (own_ae u135 (1 : Int32)))]))) (fun _ k => XS.iload X204.here hx rfl (hb hby at_79) rfl k) ?_
    by_cases hc209 : u135 = (1 : Int32)
    · have g210 := oEq hc209
      refine OGoalW.mp (S' := (T202.setTop (mkF m 84 #[.val (.int p1), .val (.int p2), .val (.int p3), .val (.int p4), .val (.int (1 : Int32)), .val (.ref b119), .val (.int u135), .val (.ref a147), .val (.int (1 : Int32)), .val (.int (own_ae u135 (1 : Int32))), .unset, .unset, .unset] [(.int (own_ae u135 (1 : Int32)))]))) (fun _ k => XS.icmpNo X204.here hx rfl (hb hby at_81) rfl (XT.ii_ne_f hc209) k) ?_
      refine OGoalW.mp (S' := (T202.setTop (mkF m 85 #[.val (.int p1), .val (.int p2), .val (.int p3), .val (.int p4), .val (.int (1 : Int32)), .val (.ref b119), .val (.int u135), .val (.ref a147), .val (.int (1 : Int32)), .val (.int (own_ae u135 (1 : Int32))), .unset, .unset, .unset] [(.int (1 : Int32)), (.int (own_ae u135 (1 : Int32)))]))) (fun _ k => XS.iconst X204.here hx rfl (hb hby at_84) k) ?_
      refine OGoalW.mp (S' := (T202.setTop (mkF m 89 #[.val (.int p1), .val (.int p2), .val (.int p3), .val (.int p4), .val (.int (1 : Int32)), .val (.ref b119), .val (.int u135), .val (.ref a147), .val (.int (1 : Int32)), .val (.int (own_ae u135 (1 : Int32))), .unset, .unset, .unset] [(.int (1 : Int32)), (.int (own_ae u135 (1 : Int32)))]))) (fun _ k => XS.goto X204.here hx rfl (pc0 := 85) (pc' := 89) rfl (hb hby at_85) (by decide) (by decide) k) ?_
      refine OGoalW.mp (S' := (T202.setTop (mkF m 92 #[.val (.int p1), .val (.int p2), .val (.int p3), .val (.int p4), .val (.int (1 : Int32)), .val (.ref b119), .val (.int u135), .val (.ref a147), .val (.int (1 : Int32)), .val (.int (own_ae u135 (1 : Int32))), .unset, .unset, .unset] []))) (fun _ k => XS.icmpNo X204.here hx rfl (hb hby at_89) rfl (XT.ii_ne_f (by unfold own_ae; rw [if_pos hc209])) k) ?_
      refine OGoalW.mp (S' := (T202.setTop (mkF m 93 #[.val (.int p1), .val (.int p2), .val (.int p3), .val (.int p4), .val (.int (1 : Int32)), .val (.ref b119), .val (.int u135), .val (.ref a147), .val (.int (1 : Int32)), .val (.int (own_ae u135 (1 : Int32))), .unset, .unset, .unset] [(.int (1 : Int32))]))) (fun _ k => XS.iconst X204.here hx rfl (hb hby at_92) k) ?_
      refine OGoalW.mp (S' := (T202.setTop (mkF m 97 #[.val (.int p1), .val (.int p2), .val (.int p3), .val (.int p4), .val (.int (1 : Int32)), .val (.ref b119), .val (.int u135), .val (.ref a147), .val (.int (1 : Int32)), .val (.int (own_ae u135 (1 : Int32))), .unset, .unset, .unset] [(.int (1 : Int32))]))) (fun _ k => XS.goto X204.here hx rfl (pc0 := 93) (pc' := 97) rfl (hb hby at_93) (by decide) (by decide) k) ?_
      refine OGoalW.mp (S' := (T202.setTop (mkF m 99 #[.val (.int p1), .val (.int p2), .val (.int p3), .val (.int p4), .val (.int (1 : Int32)), .val (.ref b119), .val (.int u135), .val (.ref a147), .val (.int (1 : Int32)), .val (.int (own_ae u135 (1 : Int32))), .val (.int (1 : Int32)), .unset, .unset] []))) (fun _ k => XS.istore X204.here hx rfl (hb hby at_97) rfl (l' := #[.val (.int p1), .val (.int p2), .val (.int p3), .val (.int p4), .val (.int (1 : Int32)), .val (.ref b119), .val (.int u135), .val (.ref a147), .val (.int (1 : Int32)), .val (.int (own_ae u135 (1 : Int32))), .val (.int (1 : Int32)), .unset, .unset]) rfl k) ?_
      refine OGoalW.mp (S' := (T202.setTop (mkF m 101 #[.val (.int p1), .val (.int p2), .val (.int p3), .val (.int p4), .val (.int (1 : Int32)), .val (.ref b119), .val (.int u135), .val (.ref a147), .val (.int (1 : Int32)), .val (.int (own_ae u135 (1 : Int32))), .val (.int (1 : Int32)), .unset, .unset] [(.ref a147)]))) (fun _ k => XS.aload X204.here hx rfl (hb hby at_99) rfl rfl k) ?_
      refine oCallVW (y := (⟨"com/example/deadlock_to_diagnosis/deadlocktodiagnosis/reader/LineScanner", "atEnd", "()Z"⟩ : MethodName)) (z := (⟨"com/example/deadlock_to_diagnosis/deadlocktodiagnosis/reader/LineScanner", "atEnd", "()Z"⟩ : MethodName)) X204 hx hZ hown (hw _ (List.mem_of_getElem? (i := 36) rfl)) (hw _ (List.mem_of_getElem? (i := 37) rfl)) (hw _ (List.mem_of_getElem? (i := 39) rfl)) (hw _ (List.mem_of_getElem? (i := 38) rfl)) (hw _ (List.mem_of_getElem? (i := 29) rfl)) (hw _ (List.mem_of_getElem? (i := 40) rfl)) (by decide) (rmAE l Z a0 hw a147 T184.heap n0 Z200 cs hcs S193 b119 u135 (1 : Int32) F195 E190 F191 F192) e207 E190 [] [] rfl rfl (by rw [hml]; rfl) (notFace_of_selects (args := #[]) (mvT hZ (hw _ (List.mem_of_getElem? (i := 39) rfl)))) (lenOf own_pd___Z rfl) 0 (Nat.le_of_eq rfl) (by decide) (by decide) (by decide) (by decide) (hb hby at_101) ?_
      intro v211 T212 L213 X214 q215
      obtain ⟨rfl, N216, e217⟩ := q215
      have N218 := Fr.app N208 N216
      show OGoalW p e below s _ _ _ (T212.setTop (mkF m 104 #[.val (.int p1), .val (.int p2), .val (.int p3), .val (.int p4), .val (.int (1 : Int32)), .val (.ref b119), .val (.int u135), .val (.ref a147), .val (.int (1 : Int32)), .val (.int (own_ae u135 (1 : Int32))), .val (.int (1 : Int32)), .unset, .unset] [(.int (own_ae u135 (1 : Int32)))]))
      refine OGoalW.mp (S' := (T212.setTop (mkF m 106 #[.val (.int p1), .val (.int p2), .val (.int p3), .val (.int p4), .val (.int (1 : Int32)), .val (.ref b119), .val (.int u135), .val (.ref a147), .val (.int (1 : Int32)), .val (.int (own_ae u135 (1 : Int32))), .val (.int (1 : Int32)), .unset, .unset] [(.int (own_ae u135 (1 : Int32))), (.int (own_ae u135 (1 : Int32)))]))) (fun _ k => XS.iload X214.here hx rfl (hb hby at_104) rfl k) ?_
      refine OGoalW.mp (S' := (T212.setTop (mkF m 109 #[.val (.int p1), .val (.int p2), .val (.int p3), .val (.int p4), .val (.int (1 : Int32)), .val (.ref b119), .val (.int u135), .val (.ref a147), .val (.int (1 : Int32)), .val (.int (own_ae u135 (1 : Int32))), .val (.int (1 : Int32)), .unset, .unset] []))) (fun _ k => XS.icmpNo X214.here hx rfl (hb hby at_106) rfl (XT.ii_ne_f rfl) k) ?_
      refine OGoalW.mp (S' := (T212.setTop (mkF m 110 #[.val (.int p1), .val (.int p2), .val (.int p3), .val (.int p4), .val (.int (1 : Int32)), .val (.ref b119), .val (.int u135), .val (.ref a147), .val (.int (1 : Int32)), .val (.int (own_ae u135 (1 : Int32))), .val (.int (1 : Int32)), .unset, .unset] [(.int (1 : Int32))]))) (fun _ k => XS.iconst X214.here hx rfl (hb hby at_109) k) ?_
      refine OGoalW.mp (S' := (T212.setTop (mkF m 114 #[.val (.int p1), .val (.int p2), .val (.int p3), .val (.int p4), .val (.int (1 : Int32)), .val (.ref b119), .val (.int u135), .val (.ref a147), .val (.int (1 : Int32)), .val (.int (own_ae u135 (1 : Int32))), .val (.int (1 : Int32)), .unset, .unset] [(.int (1 : Int32))]))) (fun _ k => XS.goto X214.here hx rfl (pc0 := 110) (pc' := 114) rfl (hb hby at_110) (by decide) (by decide) k) ?_
      refine OGoalW.mp (S' := (T212.setTop (mkF m 116 #[.val (.int p1), .val (.int p2), .val (.int p3), .val (.int p4), .val (.int (1 : Int32)), .val (.ref b119), .val (.int u135), .val (.ref a147), .val (.int (1 : Int32)), .val (.int (own_ae u135 (1 : Int32))), .val (.int (1 : Int32)), .val (.int (1 : Int32)), .unset] []))) (fun _ k => XS.istore X214.here hx rfl (hb hby at_114) rfl (l' := #[.val (.int p1), .val (.int p2), .val (.int p3), .val (.int p4), .val (.int (1 : Int32)), .val (.ref b119), .val (.int u135), .val (.ref a147), .val (.int (1 : Int32)), .val (.int (own_ae u135 (1 : Int32))), .val (.int (1 : Int32)), .val (.int (1 : Int32)), .unset]) rfl k) ?_
      refine OGoalW.mp (S' := (T212.setTop (mkF m 118 #[.val (.int p1), .val (.int p2), .val (.int p3), .val (.int p4), .val (.int (1 : Int32)), .val (.ref b119), .val (.int u135), .val (.ref a147), .val (.int (1 : Int32)), .val (.int (own_ae u135 (1 : Int32))), .val (.int (1 : Int32)), .val (.int (1 : Int32)), .unset] [(.ref a147)]))) (fun _ k => XS.aload X214.here hx rfl (hb hby at_116) rfl rfl k) ?_
      refine oCallVW (y := (⟨"com/example/deadlock_to_diagnosis/deadlocktodiagnosis/reader/LineScanner", "position", "()I"⟩ : MethodName)) (z := (⟨"com/example/deadlock_to_diagnosis/deadlocktodiagnosis/reader/LineScanner", "position", "()I"⟩ : MethodName)) X214 hx hZ hown (hw _ (List.mem_of_getElem? (i := 59) rfl)) (hw _ (List.mem_of_getElem? (i := 60) rfl)) (hw _ (List.mem_of_getElem? (i := 62) rfl)) (hw _ (List.mem_of_getElem? (i := 61) rfl)) (hw _ (List.mem_of_getElem? (i := 29) rfl)) (hw _ (List.mem_of_getElem? (i := 63) rfl)) (by decide) (rmPo l Z a0 hw a147 T184.heap n0 Z200 u135 F192) e217 E190 [] [] rfl rfl (by rw [hml]; rfl) (notFace_of_selects (args := #[]) (mvT hZ (hw _ (List.mem_of_getElem? (i := 62) rfl)))) (lenOf own_pd___I rfl) 0 (Nat.le_of_eq rfl) (by decide) (by decide) (by decide) (by decide) (hb hby at_118) ?_
      intro v219 T220 L221 X222 q223
      obtain ⟨rfl, N224, e225⟩ := q223
      have N226 := Fr.app N218 N224
      show OGoalW p e below s _ _ _ (T220.setTop (mkF m 121 #[.val (.int p1), .val (.int p2), .val (.int p3), .val (.int p4), .val (.int (1 : Int32)), .val (.ref b119), .val (.int u135), .val (.ref a147), .val (.int (1 : Int32)), .val (.int (own_ae u135 (1 : Int32))), .val (.int (1 : Int32)), .val (.int (1 : Int32)), .unset] [(.int u135)]))
      refine OGoalW.mp (S' := (T220.setTop (mkF m 123 #[.val (.int p1), .val (.int p2), .val (.int p3), .val (.int p4), .val (.int (1 : Int32)), .val (.ref b119), .val (.int u135), .val (.ref a147), .val (.int (1 : Int32)), .val (.int (own_ae u135 (1 : Int32))), .val (.int (1 : Int32)), .val (.int (1 : Int32)), .unset] [(.int u135), (.int u135)]))) (fun _ k => XS.iload X222.here hx rfl (hb hby at_121) rfl k) ?_
      refine OGoalW.mp (S' := (T220.setTop (mkF m 126 #[.val (.int p1), .val (.int p2), .val (.int p3), .val (.int p4), .val (.int (1 : Int32)), .val (.ref b119), .val (.int u135), .val (.ref a147), .val (.int (1 : Int32)), .val (.int (own_ae u135 (1 : Int32))), .val (.int (1 : Int32)), .val (.int (1 : Int32)), .unset] []))) (fun _ k => XS.icmpNo X222.here hx rfl (hb hby at_123) rfl (XT.ii_ne_f rfl) k) ?_
      refine OGoalW.mp (S' := (T220.setTop (mkF m 127 #[.val (.int p1), .val (.int p2), .val (.int p3), .val (.int p4), .val (.int (1 : Int32)), .val (.ref b119), .val (.int u135), .val (.ref a147), .val (.int (1 : Int32)), .val (.int (own_ae u135 (1 : Int32))), .val (.int (1 : Int32)), .val (.int (1 : Int32)), .unset] [(.int (1 : Int32))]))) (fun _ k => XS.iconst X222.here hx rfl (hb hby at_126) k) ?_
      refine OGoalW.mp (S' := (T220.setTop (mkF m 131 #[.val (.int p1), .val (.int p2), .val (.int p3), .val (.int p4), .val (.int (1 : Int32)), .val (.ref b119), .val (.int u135), .val (.ref a147), .val (.int (1 : Int32)), .val (.int (own_ae u135 (1 : Int32))), .val (.int (1 : Int32)), .val (.int (1 : Int32)), .unset] [(.int (1 : Int32))]))) (fun _ k => XS.goto X222.here hx rfl (pc0 := 127) (pc' := 131) rfl (hb hby at_127) (by decide) (by decide) k) ?_
      refine OGoalW.mp (S' := (T220.setTop (mkF m 133 #[.val (.int p1), .val (.int p2), .val (.int p3), .val (.int p4), .val (.int (1 : Int32)), .val (.ref b119), .val (.int u135), .val (.ref a147), .val (.int (1 : Int32)), .val (.int (own_ae u135 (1 : Int32))), .val (.int (1 : Int32)), .val (.int (1 : Int32)), .val (.int (1 : Int32))] []))) (fun _ k => XS.istore X222.here hx rfl (hb hby at_131) rfl (l' := #[.val (.int p1), .val (.int p2), .val (.int p3), .val (.int p4), .val (.int (1 : Int32)), .val (.ref b119), .val (.int u135), .val (.ref a147), .val (.int (1 : Int32)), .val (.int (own_ae u135 (1 : Int32))), .val (.int (1 : Int32)), .val (.int (1 : Int32)), .val (.int (1 : Int32))]) rfl k) ?_
      refine OGoalW.mp (S' := (T220.setTop (mkF m 135 #[.val (.int p1), .val (.int p2), .val (.int p3), .val (.int p4), .val (.int (1 : Int32)), .val (.ref b119), .val (.int u135), .val (.ref a147), .val (.int (1 : Int32)), .val (.int (own_ae u135 (1 : Int32))), .val (.int (1 : Int32)), .val (.int (1 : Int32)), .val (.int (1 : Int32))] [(.int (1 : Int32))]))) (fun _ k => XS.iload X222.here hx rfl (hb hby at_133) rfl k) ?_
      have hd227 : ¬ ((1 : Int32) = 0) := mNe (by omega)
      refine OGoalW.mp (S' := (T220.setTop (mkF m 138 #[.val (.int p1), .val (.int p2), .val (.int p3), .val (.int p4), .val (.int (1 : Int32)), .val (.ref b119), .val (.int u135), .val (.ref a147), .val (.int (1 : Int32)), .val (.int (own_ae u135 (1 : Int32))), .val (.int (1 : Int32)), .val (.int (1 : Int32)), .val (.int (1 : Int32))] []))) (fun _ k => XS.ifNo X222.here hx rfl (hb hby at_135) rfl (XT.i0_eq_f hd227) k) ?_
      refine OGoalW.mp (S' := (T220.setTop (mkF m 140 #[.val (.int p1), .val (.int p2), .val (.int p3), .val (.int p4), .val (.int (1 : Int32)), .val (.ref b119), .val (.int u135), .val (.ref a147), .val (.int (1 : Int32)), .val (.int (own_ae u135 (1 : Int32))), .val (.int (1 : Int32)), .val (.int (1 : Int32)), .val (.int (1 : Int32))] [(.int (1 : Int32))]))) (fun _ k => XS.iload X222.here hx rfl (hb hby at_138) rfl k) ?_
      have hd228 : ¬ ((1 : Int32) = 0) := mNe (by omega)
      refine OGoalW.mp (S' := (T220.setTop (mkF m 143 #[.val (.int p1), .val (.int p2), .val (.int p3), .val (.int p4), .val (.int (1 : Int32)), .val (.ref b119), .val (.int u135), .val (.ref a147), .val (.int (1 : Int32)), .val (.int (own_ae u135 (1 : Int32))), .val (.int (1 : Int32)), .val (.int (1 : Int32)), .val (.int (1 : Int32))] []))) (fun _ k => XS.ifNo X222.here hx rfl (hb hby at_140) rfl (XT.i0_eq_f hd228) k) ?_
      refine OGoalW.mp (S' := (T220.setTop (mkF m 145 #[.val (.int p1), .val (.int p2), .val (.int p3), .val (.int p4), .val (.int (1 : Int32)), .val (.ref b119), .val (.int u135), .val (.ref a147), .val (.int (1 : Int32)), .val (.int (own_ae u135 (1 : Int32))), .val (.int (1 : Int32)), .val (.int (1 : Int32)), .val (.int (1 : Int32))] [(.int (1 : Int32))]))) (fun _ k => XS.iload X222.here hx rfl (hb hby at_143) rfl k) ?_
      have hd229 : ¬ ((1 : Int32) = 0) := mNe (by omega)
      refine OGoalW.mp (S' := (T220.setTop (mkF m 148 #[.val (.int p1), .val (.int p2), .val (.int p3), .val (.int p4), .val (.int (1 : Int32)), .val (.ref b119), .val (.int u135), .val (.ref a147), .val (.int (1 : Int32)), .val (.int (own_ae u135 (1 : Int32))), .val (.int (1 : Int32)), .val (.int (1 : Int32)), .val (.int (1 : Int32))] []))) (fun _ k => XS.ifNo X222.here hx rfl (hb hby at_145) rfl (XT.i0_eq_f hd229) k) ?_
      refine OGoalW.mp (S' := (T220.setTop (mkF m 150 #[.val (.int p1), .val (.int p2), .val (.int p3), .val (.int p4), .val (.int (1 : Int32)), .val (.ref b119), .val (.int u135), .val (.ref a147), .val (.int (1 : Int32)), .val (.int (own_ae u135 (1 : Int32))), .val (.int (1 : Int32)), .val (.int (1 : Int32)), .val (.int (1 : Int32))] [(.int (1 : Int32))]))) (fun _ k => XS.iload X222.here hx rfl (hb hby at_148) rfl k) ?_
      have hd230 : ¬ ((1 : Int32) = 0) := mNe (by omega)
      refine OGoalW.mp (S' := (T220.setTop (mkF m 153 #[.val (.int p1), .val (.int p2), .val (.int p3), .val (.int p4), .val (.int (1 : Int32)), .val (.ref b119), .val (.int u135), .val (.ref a147), .val (.int (1 : Int32)), .val (.int (own_ae u135 (1 : Int32))), .val (.int (1 : Int32)), .val (.int (1 : Int32)), .val (.int (1 : Int32))] []))) (fun _ k => XS.ifNo X222.here hx rfl (hb hby at_150) rfl (XT.i0_eq_f hd230) k) ?_
      refine OGoalW.mp (S' := (T220.setTop (mkF m 154 #[.val (.int p1), .val (.int p2), .val (.int p3), .val (.int p4), .val (.int (1 : Int32)), .val (.ref b119), .val (.int u135), .val (.ref a147), .val (.int (1 : Int32)), .val (.int (own_ae u135 (1 : Int32))), .val (.int (1 : Int32)), .val (.int (1 : Int32)), .val (.int (1 : Int32))] [(.int (1 : Int32))]))) (fun _ k => XS.iconst X222.here hx rfl (hb hby at_153) k) ?_
      refine OGoalW.mp (S' := (T220.setTop (mkF m 158 #[.val (.int p1), .val (.int p2), .val (.int p3), .val (.int p4), .val (.int (1 : Int32)), .val (.ref b119), .val (.int u135), .val (.ref a147), .val (.int (1 : Int32)), .val (.int (own_ae u135 (1 : Int32))), .val (.int (1 : Int32)), .val (.int (1 : Int32)), .val (.int (1 : Int32))] [(.int (1 : Int32))]))) (fun _ k => XS.goto X222.here hx rfl (pc0 := 154) (pc' := 158) rfl (hb hby at_154) (by decide) (by decide) k) ?_
      refine oRetZW X222 hS0 (Nat.le_trans (Nat.le_trans (Nat.le_trans (Nat.le_trans (Nat.le_trans (Nat.le_of_eq (congrArg Array.size hsh)) K126.1) E144.1) K162.1) K189.1) (Nat.le_of_eq (congrArg Array.size e225).symm)) hx hlk hret (Or.inr rfl) (hb hby at_158) ?_ (by decide) (by decide)
      exact ⟨rfl, N226⟩
    · have g231 := oNe hc209
      refine OGoalW.mp (S' := (T202.setTop (mkF m 88 #[.val (.int p1), .val (.int p2), .val (.int p3), .val (.int p4), .val (.int (1 : Int32)), .val (.ref b119), .val (.int u135), .val (.ref a147), .val (.int (1 : Int32)), .val (.int (own_ae u135 (1 : Int32))), .unset, .unset, .unset] [(.int (own_ae u135 (1 : Int32)))]))) (fun _ k => XS.icmpYes X204.here hx rfl (pc0 := 81) (pc' := 88) rfl (hb hby at_81) rfl (XT.ii_ne_t hc209) (by decide) (by decide) k) ?_
      refine OGoalW.mp (S' := (T202.setTop (mkF m 89 #[.val (.int p1), .val (.int p2), .val (.int p3), .val (.int p4), .val (.int (1 : Int32)), .val (.ref b119), .val (.int u135), .val (.ref a147), .val (.int (1 : Int32)), .val (.int (own_ae u135 (1 : Int32))), .unset, .unset, .unset] [(.int (0 : Int32)), (.int (own_ae u135 (1 : Int32)))]))) (fun _ k => XS.iconst X204.here hx rfl (hb hby at_88) k) ?_
      refine OGoalW.mp (S' := (T202.setTop (mkF m 92 #[.val (.int p1), .val (.int p2), .val (.int p3), .val (.int p4), .val (.int (1 : Int32)), .val (.ref b119), .val (.int u135), .val (.ref a147), .val (.int (1 : Int32)), .val (.int (own_ae u135 (1 : Int32))), .unset, .unset, .unset] []))) (fun _ k => XS.icmpNo X204.here hx rfl (hb hby at_89) rfl (XT.ii_ne_f (by unfold own_ae; rw [if_neg hc209])) k) ?_
      refine OGoalW.mp (S' := (T202.setTop (mkF m 93 #[.val (.int p1), .val (.int p2), .val (.int p3), .val (.int p4), .val (.int (1 : Int32)), .val (.ref b119), .val (.int u135), .val (.ref a147), .val (.int (1 : Int32)), .val (.int (own_ae u135 (1 : Int32))), .unset, .unset, .unset] [(.int (1 : Int32))]))) (fun _ k => XS.iconst X204.here hx rfl (hb hby at_92) k) ?_
      refine OGoalW.mp (S' := (T202.setTop (mkF m 97 #[.val (.int p1), .val (.int p2), .val (.int p3), .val (.int p4), .val (.int (1 : Int32)), .val (.ref b119), .val (.int u135), .val (.ref a147), .val (.int (1 : Int32)), .val (.int (own_ae u135 (1 : Int32))), .unset, .unset, .unset] [(.int (1 : Int32))]))) (fun _ k => XS.goto X204.here hx rfl (pc0 := 93) (pc' := 97) rfl (hb hby at_93) (by decide) (by decide) k) ?_
      refine OGoalW.mp (S' := (T202.setTop (mkF m 99 #[.val (.int p1), .val (.int p2), .val (.int p3), .val (.int p4), .val (.int (1 : Int32)), .val (.ref b119), .val (.int u135), .val (.ref a147), .val (.int (1 : Int32)), .val (.int (own_ae u135 (1 : Int32))), .val (.int (1 : Int32)), .unset, .unset] []))) (fun _ k => XS.istore X204.here hx rfl (hb hby at_97) rfl (l' := #[.val (.int p1), .val (.int p2), .val (.int p3), .val (.int p4), .val (.int (1 : Int32)), .val (.ref b119), .val (.int u135), .val (.ref a147), .val (.int (1 : Int32)), .val (.int (own_ae u135 (1 : Int32))), .val (.int (1 : Int32)), .unset, .unset]) rfl k) ?_
      refine OGoalW.mp (S' := (T202.setTop (mkF m 101 #[.val (.int p1), .val (.int p2), .val (.int p3), .val (.int p4), .val (.int (1 : Int32)), .val (.ref b119), .val (.int u135), .val (.ref a147), .val (.int (1 : Int32)), .val (.int (own_ae u135 (1 : Int32))), .val (.int (1 : Int32)), .unset, .unset] [(.ref a147)]))) (fun _ k => XS.aload X204.here hx rfl (hb hby at_99) rfl rfl k) ?_
      refine oCallVW (y := (⟨"com/example/deadlock_to_diagnosis/deadlocktodiagnosis/reader/LineScanner", "atEnd", "()Z"⟩ : MethodName)) (z := (⟨"com/example/deadlock_to_diagnosis/deadlocktodiagnosis/reader/LineScanner", "atEnd", "()Z"⟩ : MethodName)) X204 hx hZ hown (hw _ (List.mem_of_getElem? (i := 36) rfl)) (hw _ (List.mem_of_getElem? (i := 37) rfl)) (hw _ (List.mem_of_getElem? (i := 39) rfl)) (hw _ (List.mem_of_getElem? (i := 38) rfl)) (hw _ (List.mem_of_getElem? (i := 29) rfl)) (hw _ (List.mem_of_getElem? (i := 40) rfl)) (by decide) (rmAE l Z a0 hw a147 T184.heap n0 Z200 cs hcs S193 b119 u135 (1 : Int32) F195 E190 F191 F192) e207 E190 [] [] rfl rfl (by rw [hml]; rfl) (notFace_of_selects (args := #[]) (mvT hZ (hw _ (List.mem_of_getElem? (i := 39) rfl)))) (lenOf own_pd___Z rfl) 0 (Nat.le_of_eq rfl) (by decide) (by decide) (by decide) (by decide) (hb hby at_101) ?_
      intro v232 T233 L234 X235 q236
      obtain ⟨rfl, N237, e238⟩ := q236
      have N239 := Fr.app N208 N237
      show OGoalW p e below s _ _ _ (T233.setTop (mkF m 104 #[.val (.int p1), .val (.int p2), .val (.int p3), .val (.int p4), .val (.int (1 : Int32)), .val (.ref b119), .val (.int u135), .val (.ref a147), .val (.int (1 : Int32)), .val (.int (own_ae u135 (1 : Int32))), .val (.int (1 : Int32)), .unset, .unset] [(.int (own_ae u135 (1 : Int32)))]))
      refine OGoalW.mp (S' := (T233.setTop (mkF m 106 #[.val (.int p1), .val (.int p2), .val (.int p3), .val (.int p4), .val (.int (1 : Int32)), .val (.ref b119), .val (.int u135), .val (.ref a147), .val (.int (1 : Int32)), .val (.int (own_ae u135 (1 : Int32))), .val (.int (1 : Int32)), .unset, .unset] [(.int (own_ae u135 (1 : Int32))), (.int (own_ae u135 (1 : Int32)))]))) (fun _ k => XS.iload X235.here hx rfl (hb hby at_104) rfl k) ?_
      refine OGoalW.mp (S' := (T233.setTop (mkF m 109 #[.val (.int p1), .val (.int p2), .val (.int p3), .val (.int p4), .val (.int (1 : Int32)), .val (.ref b119), .val (.int u135), .val (.ref a147), .val (.int (1 : Int32)), .val (.int (own_ae u135 (1 : Int32))), .val (.int (1 : Int32)), .unset, .unset] []))) (fun _ k => XS.icmpNo X235.here hx rfl (hb hby at_106) rfl (XT.ii_ne_f rfl) k) ?_
      refine OGoalW.mp (S' := (T233.setTop (mkF m 110 #[.val (.int p1), .val (.int p2), .val (.int p3), .val (.int p4), .val (.int (1 : Int32)), .val (.ref b119), .val (.int u135), .val (.ref a147), .val (.int (1 : Int32)), .val (.int (own_ae u135 (1 : Int32))), .val (.int (1 : Int32)), .unset, .unset] [(.int (1 : Int32))]))) (fun _ k => XS.iconst X235.here hx rfl (hb hby at_109) k) ?_
      refine OGoalW.mp (S' := (T233.setTop (mkF m 114 #[.val (.int p1), .val (.int p2), .val (.int p3), .val (.int p4), .val (.int (1 : Int32)), .val (.ref b119), .val (.int u135), .val (.ref a147), .val (.int (1 : Int32)), .val (.int (own_ae u135 (1 : Int32))), .val (.int (1 : Int32)), .unset, .unset] [(.int (1 : Int32))]))) (fun _ k => XS.goto X235.here hx rfl (pc0 := 110) (pc' := 114) rfl (hb hby at_110) (by decide) (by decide) k) ?_
      refine OGoalW.mp (S' := (T233.setTop (mkF m 116 #[.val (.int p1), .val (.int p2), .val (.int p3), .val (.int p4), .val (.int (1 : Int32)), .val (.ref b119), .val (.int u135), .val (.ref a147), .val (.int (1 : Int32)), .val (.int (own_ae u135 (1 : Int32))), .val (.int (1 : Int32)), .val (.int (1 : Int32)), .unset] []))) (fun _ k => XS.istore X235.here hx rfl (hb hby at_114) rfl (l' := #[.val (.int p1), .val (.int p2), .val (.int p3), .val (.int p4), .val (.int (1 : Int32)), .val (.ref b119), .val (.int u135), .val (.ref a147), .val (.int (1 : Int32)), .val (.int (own_ae u135 (1 : Int32))), .val (.int (1 : Int32)), .val (.int (1 : Int32)), .unset]) rfl k) ?_
      refine OGoalW.mp (S' := (T233.setTop (mkF m 118 #[.val (.int p1), .val (.int p2), .val (.int p3), .val (.int p4), .val (.int (1 : Int32)), .val (.ref b119), .val (.int u135), .val (.ref a147), .val (.int (1 : Int32)), .val (.int (own_ae u135 (1 : Int32))), .val (.int (1 : Int32)), .val (.int (1 : Int32)), .unset] [(.ref a147)]))) (fun _ k => XS.aload X235.here hx rfl (hb hby at_116) rfl rfl k) ?_
      refine oCallVW (y := (⟨"com/example/deadlock_to_diagnosis/deadlocktodiagnosis/reader/LineScanner", "position", "()I"⟩ : MethodName)) (z := (⟨"com/example/deadlock_to_diagnosis/deadlocktodiagnosis/reader/LineScanner", "position", "()I"⟩ : MethodName)) X235 hx hZ hown (hw _ (List.mem_of_getElem? (i := 59) rfl)) (hw _ (List.mem_of_getElem? (i := 60) rfl)) (hw _ (List.mem_of_getElem? (i := 62) rfl)) (hw _ (List.mem_of_getElem? (i := 61) rfl)) (hw _ (List.mem_of_getElem? (i := 29) rfl)) (hw _ (List.mem_of_getElem? (i := 63) rfl)) (by decide) (rmPo l Z a0 hw a147 T184.heap n0 Z200 u135 F192) e238 E190 [] [] rfl rfl (by rw [hml]; rfl) (notFace_of_selects (args := #[]) (mvT hZ (hw _ (List.mem_of_getElem? (i := 62) rfl)))) (lenOf own_pd___I rfl) 0 (Nat.le_of_eq rfl) (by decide) (by decide) (by decide) (by decide) (hb hby at_118) ?_
      intro v240 T241 L242 X243 q244
      obtain ⟨rfl, N245, e246⟩ := q244
      have N247 := Fr.app N239 N245
      show OGoalW p e below s _ _ _ (T241.setTop (mkF m 121 #[.val (.int p1), .val (.int p2), .val (.int p3), .val (.int p4), .val (.int (1 : Int32)), .val (.ref b119), .val (.int u135), .val (.ref a147), .val (.int (1 : Int32)), .val (.int (own_ae u135 (1 : Int32))), .val (.int (1 : Int32)), .val (.int (1 : Int32)), .unset] [(.int u135)]))
      refine OGoalW.mp (S' := (T241.setTop (mkF m 123 #[.val (.int p1), .val (.int p2), .val (.int p3), .val (.int p4), .val (.int (1 : Int32)), .val (.ref b119), .val (.int u135), .val (.ref a147), .val (.int (1 : Int32)), .val (.int (own_ae u135 (1 : Int32))), .val (.int (1 : Int32)), .val (.int (1 : Int32)), .unset] [(.int u135), (.int u135)]))) (fun _ k => XS.iload X243.here hx rfl (hb hby at_121) rfl k) ?_
      refine OGoalW.mp (S' := (T241.setTop (mkF m 126 #[.val (.int p1), .val (.int p2), .val (.int p3), .val (.int p4), .val (.int (1 : Int32)), .val (.ref b119), .val (.int u135), .val (.ref a147), .val (.int (1 : Int32)), .val (.int (own_ae u135 (1 : Int32))), .val (.int (1 : Int32)), .val (.int (1 : Int32)), .unset] []))) (fun _ k => XS.icmpNo X243.here hx rfl (hb hby at_123) rfl (XT.ii_ne_f rfl) k) ?_
      refine OGoalW.mp (S' := (T241.setTop (mkF m 127 #[.val (.int p1), .val (.int p2), .val (.int p3), .val (.int p4), .val (.int (1 : Int32)), .val (.ref b119), .val (.int u135), .val (.ref a147), .val (.int (1 : Int32)), .val (.int (own_ae u135 (1 : Int32))), .val (.int (1 : Int32)), .val (.int (1 : Int32)), .unset] [(.int (1 : Int32))]))) (fun _ k => XS.iconst X243.here hx rfl (hb hby at_126) k) ?_
      refine OGoalW.mp (S' := (T241.setTop (mkF m 131 #[.val (.int p1), .val (.int p2), .val (.int p3), .val (.int p4), .val (.int (1 : Int32)), .val (.ref b119), .val (.int u135), .val (.ref a147), .val (.int (1 : Int32)), .val (.int (own_ae u135 (1 : Int32))), .val (.int (1 : Int32)), .val (.int (1 : Int32)), .unset] [(.int (1 : Int32))]))) (fun _ k => XS.goto X243.here hx rfl (pc0 := 127) (pc' := 131) rfl (hb hby at_127) (by decide) (by decide) k) ?_
      refine OGoalW.mp (S' := (T241.setTop (mkF m 133 #[.val (.int p1), .val (.int p2), .val (.int p3), .val (.int p4), .val (.int (1 : Int32)), .val (.ref b119), .val (.int u135), .val (.ref a147), .val (.int (1 : Int32)), .val (.int (own_ae u135 (1 : Int32))), .val (.int (1 : Int32)), .val (.int (1 : Int32)), .val (.int (1 : Int32))] []))) (fun _ k => XS.istore X243.here hx rfl (hb hby at_131) rfl (l' := #[.val (.int p1), .val (.int p2), .val (.int p3), .val (.int p4), .val (.int (1 : Int32)), .val (.ref b119), .val (.int u135), .val (.ref a147), .val (.int (1 : Int32)), .val (.int (own_ae u135 (1 : Int32))), .val (.int (1 : Int32)), .val (.int (1 : Int32)), .val (.int (1 : Int32))]) rfl k) ?_
      refine OGoalW.mp (S' := (T241.setTop (mkF m 135 #[.val (.int p1), .val (.int p2), .val (.int p3), .val (.int p4), .val (.int (1 : Int32)), .val (.ref b119), .val (.int u135), .val (.ref a147), .val (.int (1 : Int32)), .val (.int (own_ae u135 (1 : Int32))), .val (.int (1 : Int32)), .val (.int (1 : Int32)), .val (.int (1 : Int32))] [(.int (1 : Int32))]))) (fun _ k => XS.iload X243.here hx rfl (hb hby at_133) rfl k) ?_
      have hd248 : ¬ ((1 : Int32) = 0) := mNe (by omega)
      refine OGoalW.mp (S' := (T241.setTop (mkF m 138 #[.val (.int p1), .val (.int p2), .val (.int p3), .val (.int p4), .val (.int (1 : Int32)), .val (.ref b119), .val (.int u135), .val (.ref a147), .val (.int (1 : Int32)), .val (.int (own_ae u135 (1 : Int32))), .val (.int (1 : Int32)), .val (.int (1 : Int32)), .val (.int (1 : Int32))] []))) (fun _ k => XS.ifNo X243.here hx rfl (hb hby at_135) rfl (XT.i0_eq_f hd248) k) ?_
      refine OGoalW.mp (S' := (T241.setTop (mkF m 140 #[.val (.int p1), .val (.int p2), .val (.int p3), .val (.int p4), .val (.int (1 : Int32)), .val (.ref b119), .val (.int u135), .val (.ref a147), .val (.int (1 : Int32)), .val (.int (own_ae u135 (1 : Int32))), .val (.int (1 : Int32)), .val (.int (1 : Int32)), .val (.int (1 : Int32))] [(.int (1 : Int32))]))) (fun _ k => XS.iload X243.here hx rfl (hb hby at_138) rfl k) ?_
      have hd249 : ¬ ((1 : Int32) = 0) := mNe (by omega)
      refine OGoalW.mp (S' := (T241.setTop (mkF m 143 #[.val (.int p1), .val (.int p2), .val (.int p3), .val (.int p4), .val (.int (1 : Int32)), .val (.ref b119), .val (.int u135), .val (.ref a147), .val (.int (1 : Int32)), .val (.int (own_ae u135 (1 : Int32))), .val (.int (1 : Int32)), .val (.int (1 : Int32)), .val (.int (1 : Int32))] []))) (fun _ k => XS.ifNo X243.here hx rfl (hb hby at_140) rfl (XT.i0_eq_f hd249) k) ?_
      refine OGoalW.mp (S' := (T241.setTop (mkF m 145 #[.val (.int p1), .val (.int p2), .val (.int p3), .val (.int p4), .val (.int (1 : Int32)), .val (.ref b119), .val (.int u135), .val (.ref a147), .val (.int (1 : Int32)), .val (.int (own_ae u135 (1 : Int32))), .val (.int (1 : Int32)), .val (.int (1 : Int32)), .val (.int (1 : Int32))] [(.int (1 : Int32))]))) (fun _ k => XS.iload X243.here hx rfl (hb hby at_143) rfl k) ?_
      have hd250 : ¬ ((1 : Int32) = 0) := mNe (by omega)
      refine OGoalW.mp (S' := (T241.setTop (mkF m 148 #[.val (.int p1), .val (.int p2), .val (.int p3), .val (.int p4), .val (.int (1 : Int32)), .val (.ref b119), .val (.int u135), .val (.ref a147), .val (.int (1 : Int32)), .val (.int (own_ae u135 (1 : Int32))), .val (.int (1 : Int32)), .val (.int (1 : Int32)), .val (.int (1 : Int32))] []))) (fun _ k => XS.ifNo X243.here hx rfl (hb hby at_145) rfl (XT.i0_eq_f hd250) k) ?_
      refine OGoalW.mp (S' := (T241.setTop (mkF m 150 #[.val (.int p1), .val (.int p2), .val (.int p3), .val (.int p4), .val (.int (1 : Int32)), .val (.ref b119), .val (.int u135), .val (.ref a147), .val (.int (1 : Int32)), .val (.int (own_ae u135 (1 : Int32))), .val (.int (1 : Int32)), .val (.int (1 : Int32)), .val (.int (1 : Int32))] [(.int (1 : Int32))]))) (fun _ k => XS.iload X243.here hx rfl (hb hby at_148) rfl k) ?_
      have hd251 : ¬ ((1 : Int32) = 0) := mNe (by omega)
      refine OGoalW.mp (S' := (T241.setTop (mkF m 153 #[.val (.int p1), .val (.int p2), .val (.int p3), .val (.int p4), .val (.int (1 : Int32)), .val (.ref b119), .val (.int u135), .val (.ref a147), .val (.int (1 : Int32)), .val (.int (own_ae u135 (1 : Int32))), .val (.int (1 : Int32)), .val (.int (1 : Int32)), .val (.int (1 : Int32))] []))) (fun _ k => XS.ifNo X243.here hx rfl (hb hby at_150) rfl (XT.i0_eq_f hd251) k) ?_
      refine OGoalW.mp (S' := (T241.setTop (mkF m 154 #[.val (.int p1), .val (.int p2), .val (.int p3), .val (.int p4), .val (.int (1 : Int32)), .val (.ref b119), .val (.int u135), .val (.ref a147), .val (.int (1 : Int32)), .val (.int (own_ae u135 (1 : Int32))), .val (.int (1 : Int32)), .val (.int (1 : Int32)), .val (.int (1 : Int32))] [(.int (1 : Int32))]))) (fun _ k => XS.iconst X243.here hx rfl (hb hby at_153) k) ?_
      refine OGoalW.mp (S' := (T241.setTop (mkF m 158 #[.val (.int p1), .val (.int p2), .val (.int p3), .val (.int p4), .val (.int (1 : Int32)), .val (.ref b119), .val (.int u135), .val (.ref a147), .val (.int (1 : Int32)), .val (.int (own_ae u135 (1 : Int32))), .val (.int (1 : Int32)), .val (.int (1 : Int32)), .val (.int (1 : Int32))] [(.int (1 : Int32))]))) (fun _ k => XS.goto X243.here hx rfl (pc0 := 154) (pc' := 158) rfl (hb hby at_154) (by decide) (by decide) k) ?_
      refine oRetZW X243 hS0 (Nat.le_trans (Nat.le_trans (Nat.le_trans (Nat.le_trans (Nat.le_trans (Nat.le_of_eq (congrArg Array.size hsh)) K126.1) E144.1) K162.1) K189.1) (Nat.le_of_eq (congrArg Array.size e246).symm)) hx hlk hret (Or.inr rfl) (hb hby at_158) ?_ (by decide) (by decide)
      exact ⟨rfl, N247⟩
  · rw [hu]
    show OGoalW p e below s _ _ _ (s₁.setTop (mkF m 5 #[.val (.int p1), .val (.int p2), .val (.int p3), .val (.int p4), .val (.int (2 : Int32)), .unset, .unset, .unset, .unset, .unset, .unset, .unset, .unset] []))
    refine OGoalW.mp (S' := (s₁.setTop (mkF m 7 #[.val (.int p1), .val (.int p2), .val (.int p3), .val (.int p4), .val (.int (2 : Int32)), .unset, .unset, .unset, .unset, .unset, .unset, .unset, .unset] [(.int (2 : Int32))]))) (fun _ k => XS.iload X0.here hx rfl (hb hby at_5) rfl k) ?_
    refine OGoalW.mp (S' := (s₁.setTop (mkF m 8 #[.val (.int p1), .val (.int p2), .val (.int p3), .val (.int p4), .val (.int (2 : Int32)), .unset, .unset, .unset, .unset, .unset, .unset, .unset, .unset] [(.int p2), (.int (2 : Int32))]))) (fun _ k => XS.iloadN X0.here hx rfl (hb hby at_7) rfl k) ?_
    refine OGoalW.mp (S' := (s₁.setTop (mkF m 9 #[.val (.int p1), .val (.int p2), .val (.int p3), .val (.int p4), .val (.int (2 : Int32)), .unset, .unset, .unset, .unset, .unset, .unset, .unset, .unset] [(.int p3), (.int p2), (.int (2 : Int32))]))) (fun _ k => XS.iloadN X0.here hx rfl (hb hby at_8) rfl k) ?_
    refine oCallSW (y := (⟨"com/example/deadlock_to_diagnosis/deadlocktodiagnosis/reader/LineScannerAtEndPinLaw", "drawn", "(III)Ljava/lang/String;"⟩ : MethodName)) X0 hx hZ hown (hw _ (List.mem_of_getElem? (i := 0) rfl)) (hw _ (List.mem_of_getElem? (i := 1) rfl)) (hw _ (List.mem_of_getElem? (i := 2) rfl)) (hw _ (List.mem_of_getElem? (i := 3) rfl)) (by decide) (rmDr2 l Z a0 hw p2 p3 h0 n0 Z0 cs hcs St) e0 [(.int (2 : Int32)), (.int p2), (.int p3)] [] rfl rfl (by rw [hml]; rfl) (lenOf own_pd__III_Ljava_lang_String_ rfl) 0 (Nat.le_of_eq rfl) (by decide) (by decide) (by decide) (by decide) (hb hby at_9) ?_
    intro v253 T254 L255 X256 q257
    obtain ⟨b252, rfl, N258, K259, S260, D261⟩ := q257
    have N262 := Fr.app (Fr.nil n0) N258
    have Z263 : n0 ≤ T254.heap.size := Nat.le_trans Z0 K259.1
    show OGoalW p e below s _ _ _ (T254.setTop (mkF m 12 #[.val (.int p1), .val (.int p2), .val (.int p3), .val (.int p4), .val (.int (2 : Int32)), .unset, .unset, .unset, .unset, .unset, .unset, .unset, .unset] [(.ref b252)]))
    refine OGoalW.mp (S' := (T254.setTop (mkF m 14 #[.val (.int p1), .val (.int p2), .val (.int p3), .val (.int p4), .val (.int (2 : Int32)), .val (.ref b252), .unset, .unset, .unset, .unset, .unset, .unset, .unset] []))) (fun _ k => XS.astore X256.here hx rfl (hb hby at_12) rfl rfl (l' := #[.val (.int p1), .val (.int p2), .val (.int p3), .val (.int p4), .val (.int (2 : Int32)), .val (.ref b252), .unset, .unset, .unset, .unset, .unset, .unset, .unset]) rfl k) ?_
    refine OGoalW.mp (S' := (T254.setTop (mkF m 15 #[.val (.int p1), .val (.int p2), .val (.int p3), .val (.int p4), .val (.int (2 : Int32)), .val (.ref b252), .unset, .unset, .unset, .unset, .unset, .unset, .unset] [(.int p4)]))) (fun _ k => XS.iloadN X256.here hx rfl (hb hby at_14) rfl k) ?_
    refine OGoalW.mp (S' := (T254.setTop (mkF m 17 #[.val (.int p1), .val (.int p2), .val (.int p3), .val (.int p4), .val (.int (2 : Int32)), .val (.ref b252), .unset, .unset, .unset, .unset, .unset, .unset, .unset] [(.int (2147483647 : Int32)), (.int p4)]))) (fun _ k => Stand.ldcI X256 hx hown (mvT hZ (hw _ (List.mem_of_getElem? (i := 26) rfl))) rfl (hb hby at_15) k) ?_
    refine OGoalW.mp (S' := (T254.setTop (mkF m 18 #[.val (.int p1), .val (.int p2), .val (.int p3), .val (.int p4), .val (.int (2 : Int32)), .val (.ref b252), .unset, .unset, .unset, .unset, .unset, .unset, .unset] [(.int (p4 &&& (2147483647 : Int32)))]))) (fun _ k => XS.iand X256.here hx rfl (hb hby at_17) rfl k) ?_
    obtain ⟨u264, hu264⟩ : ∃ z : Int32, z = (p4 &&& (2147483647 : Int32)) := ⟨_, rfl⟩
    rw [← hu264]
    have l265 : (2147483647 : Int32).toInt = 2147483647 := by decide
    have t266 : u264.toInt = (p4).toInt % 2147483648 := by rw [hu264]; exact c_mask p4 (2147483647 : Int32) 31 (by decide) (by decide)
    have r267 := rng32 u264
    refine OGoalW.mp (S' := (T254.setTop (mkF m 20 #[.val (.int p1), .val (.int p2), .val (.int p3), .val (.int p4), .val (.int (2 : Int32)), .val (.ref b252), .unset, .unset, .unset, .unset, .unset, .unset, .unset] [(.int (2 : Int32)), (.int u264)]))) (fun _ k => XS.iload X256.here hx rfl (hb hby at_18) rfl k) ?_
    refine OGoalW.mp (S' := (T254.setTop (mkF m 21 #[.val (.int p1), .val (.int p2), .val (.int p3), .val (.int p4), .val (.int (2 : Int32)), .val (.ref b252), .unset, .unset, .unset, .unset, .unset, .unset, .unset] [(.int (1 : Int32)), (.int (2 : Int32)), (.int u264)]))) (fun _ k => XS.iconst X256.here hx rfl (hb hby at_20) k) ?_
    refine OGoalW.mp (S' := (T254.setTop (mkF m 22 #[.val (.int p1), .val (.int p2), .val (.int p3), .val (.int p4), .val (.int (2 : Int32)), .val (.ref b252), .unset, .unset, .unset, .unset, .unset, .unset, .unset] [(.int ((2 : Int32) + (1 : Int32))), (.int u264)]))) (fun _ k => XS.iadd X256.here hx rfl (hb hby at_21) rfl k) ?_
    rw [show ((2 : Int32) + (1 : Int32)) = (3 : Int32) by decide]
    show OGoalW p e below s _ _ _ (T254.setTop (mkF m 22 #[.val (.int p1), .val (.int p2), .val (.int p3), .val (.int p4), .val (.int (2 : Int32)), .val (.ref b252), .unset, .unset, .unset, .unset, .unset, .unset, .unset] [(.int (3 : Int32)), (.int u264)]))
    refine OGoalW.mp (S' := (T254.setTop (mkF m 23 #[.val (.int p1), .val (.int p2), .val (.int p3), .val (.int p4), .val (.int (2 : Int32)), .val (.ref b252), .unset, .unset, .unset, .unset, .unset, .unset, .unset] [(.int (u264 % (3 : Int32)))]))) (fun _ k => iremM X256 hx rfl (hb hby at_22) rfl (by decide) k) ?_
    obtain ⟨u268, hu268⟩ : ∃ z : Int32, z = (u264 % (3 : Int32)) := ⟨_, rfl⟩
    rw [← hu268]
    have t269 : u268.toInt = (u264).toInt % 3 := by rw [hu268]; exact (c_irem u264 (3 : Int32) 3 (by decide)).1 (by omega)
    have r270 := rng32 u268
    refine OGoalW.mp (S' := (T254.setTop (mkF m 25 #[.val (.int p1), .val (.int p2), .val (.int p3), .val (.int p4), .val (.int (2 : Int32)), .val (.ref b252), .val (.int u268), .unset, .unset, .unset, .unset, .unset, .unset] []))) (fun _ k => XS.istore X256.here hx rfl (hb hby at_23) rfl (l' := #[.val (.int p1), .val (.int p2), .val (.int p3), .val (.int p4), .val (.int (2 : Int32)), .val (.ref b252), .val (.int u268), .unset, .unset, .unset, .unset, .unset, .unset]) rfl k) ?_
    obtain ⟨T271, h275, X272, e273, E276, A277, D278, -, st274⟩ := newO X256 hx hZ hown (hw _ (List.mem_of_getElem? (i := 27) rfl)) (hw _ (List.mem_of_getElem? (i := 28) rfl)) (hw _ (List.mem_of_getElem? (i := 29) rfl)) rfl (g := mkF m 25 #[.val (.int p1), .val (.int p2), .val (.int p3), .val (.int p4), .val (.int (2 : Int32)), .val (.ref b252), .val (.int u268), .unset, .unset, .unset, .unset, .unset, .unset] []) rfl (hb hby at_25) (by decide) (by decide)
    obtain ⟨a279, g280⟩ : ∃ z, z = T254.heap.size := ⟨_, rfl⟩
    rw [← g280] at A277 D278 st274
    have lt281 : b252 < a279 := by rw [g280]; exact D261.lt
    have F282 := S260.ext E276
    have F283 := D261.ext E276
    have F284 : Fld Z h275 a279 "com/example/deadlock_to_diagnosis/deadlocktodiagnosis/reader/LineScanner" "line" "Ljava/lang/String;" .null := D278 (Or.inr (hw _ (List.mem_of_getElem? (i := 35) rfl))) (ty := (.object "java/lang/String")) (by decide)
    have F285 : Fld Z h275 a279 "com/example/deadlock_to_diagnosis/deadlocktodiagnosis/reader/LineScanner" "at" "I" (.int (0 : Int32)) := D278 (Or.inl (hw _ (List.mem_of_getElem? (i := 42) rfl))) (ty := .int) (by decide)
    have Z286 : n0 ≤ h275.size := Nat.le_trans Z263 E276.1
    have ab287 : n0 ≤ a279 := Nat.le_trans Z263 (Nat.le_of_eq g280.symm)
    refine OGoalW.mp (S' := (T271.setTop (mkF m 28 #[.val (.int p1), .val (.int p2), .val (.int p3), .val (.int p4), .val (.int (2 : Int32)), .val (.ref b252), .val (.int u268), .unset, .unset, .unset, .unset, .unset, .unset] [(.ref a279)]))) (fun _ k => st274 _ k) ?_
    refine OGoalW.mp (S' := (T271.setTop (mkF m 29 #[.val (.int p1), .val (.int p2), .val (.int p3), .val (.int p4), .val (.int (2 : Int32)), .val (.ref b252), .val (.int u268), .unset, .unset, .unset, .unset, .unset, .unset] [(.ref a279), (.ref a279)]))) (fun _ k => XS.dup X272.here hx rfl (hb hby at_28) rfl rfl k) ?_
    refine OGoalW.mp (S' := (T271.setTop (mkF m 31 #[.val (.int p1), .val (.int p2), .val (.int p3), .val (.int p4), .val (.int (2 : Int32)), .val (.ref b252), .val (.int u268), .unset, .unset, .unset, .unset, .unset, .unset] [(.ref b252), (.ref a279), (.ref a279)]))) (fun _ k => XS.aload X272.here hx rfl (hb hby at_29) rfl rfl k) ?_
    refine oCallNW (y := (⟨"com/example/deadlock_to_diagnosis/deadlocktodiagnosis/reader/LineScanner", "<init>", "(Ljava/lang/String;)V"⟩ : MethodName)) X272 hx hZ rfl hown (hw _ (List.mem_of_getElem? (i := 30) rfl)) (hw _ (List.mem_of_getElem? (i := 31) rfl)) (hw _ (List.mem_of_getElem? (i := 29) rfl)) (hw _ (List.mem_of_getElem? (i := 32) rfl)) (by decide) (rmLI l Z a0 hw a279 b252 h275 n0 Z286 cs hcs F282 A277 F284 F285 ab287) e273 [(.ref b252)] [(.ref a279)] rfl rfl (by rw [hml]; rfl) (lenOf own_pd__Ljava_lang_String__V rfl) 1 (Nat.le_of_eq rfl) (by decide) (by decide) (by decide) (by decide) (hb hby at_31) ?_
    intro v288 T289 L290 X291 q292
    obtain ⟨rfl, N293, K294, E295, F296, F297, S298⟩ := q292
    have N299 := Fr.app N262 N293
    have F301 := F283.keep K294 A277 (hw _ (List.mem_of_getElem? (i := 28) rfl)) (Nat.ne_of_lt lt281)
    have Z305 : n0 ≤ T289.heap.size := Nat.le_trans Z286 K294.1
    show OGoalW p e below s _ _ _ (T289.setTop (mkF m 34 #[.val (.int p1), .val (.int p2), .val (.int p3), .val (.int p4), .val (.int (2 : Int32)), .val (.ref b252), .val (.int u268), .unset, .unset, .unset, .unset, .unset, .unset] [(.ref a279)]))
    refine OGoalW.mp (S' := (T289.setTop (mkF m 36 #[.val (.int p1), .val (.int p2), .val (.int p3), .val (.int p4), .val (.int (2 : Int32)), .val (.ref b252), .val (.int u268), .val (.ref a279), .unset, .unset, .unset, .unset, .unset] []))) (fun _ k => XS.astore X291.here hx rfl (hb hby at_34) rfl rfl (l' := #[.val (.int p1), .val (.int p2), .val (.int p3), .val (.int p4), .val (.int (2 : Int32)), .val (.ref b252), .val (.int u268), .val (.ref a279), .unset, .unset, .unset, .unset, .unset]) rfl k) ?_
    refine OGoalW.mp (S' := (T289.setTop (mkF m 38 #[.val (.int p1), .val (.int p2), .val (.int p3), .val (.int p4), .val (.int (2 : Int32)), .val (.ref b252), .val (.int u268), .val (.ref a279), .unset, .unset, .unset, .unset, .unset] [(.ref a279)]))) (fun _ k => XS.aload X291.here hx rfl (hb hby at_36) rfl rfl k) ?_
    refine oCallVW (y := (⟨"com/example/deadlock_to_diagnosis/deadlocktodiagnosis/reader/LineScanner", "atEnd", "()Z"⟩ : MethodName)) (z := (⟨"com/example/deadlock_to_diagnosis/deadlocktodiagnosis/reader/LineScanner", "atEnd", "()Z"⟩ : MethodName)) X291 hx hZ hown (hw _ (List.mem_of_getElem? (i := 36) rfl)) (hw _ (List.mem_of_getElem? (i := 37) rfl)) (hw _ (List.mem_of_getElem? (i := 39) rfl)) (hw _ (List.mem_of_getElem? (i := 38) rfl)) (hw _ (List.mem_of_getElem? (i := 29) rfl)) (hw _ (List.mem_of_getElem? (i := 40) rfl)) (by decide) (rmAE l Z a0 hw a279 T289.heap n0 Z305 cs hcs S298 b252 (0 : Int32) (2 : Int32) F301 E295 F296 F297) rfl E295 [] [] rfl rfl (by rw [hml]; rfl) (notFace_of_selects (args := #[]) (mvT hZ (hw _ (List.mem_of_getElem? (i := 39) rfl)))) (lenOf own_pd___Z rfl) 0 (Nat.le_of_eq rfl) (by decide) (by decide) (by decide) (by decide) (hb hby at_38) ?_
    intro v306 T307 L308 X309 q310
    obtain ⟨rfl, N311, e312⟩ := q310
    have N313 := Fr.app N299 N311
    show OGoalW p e below s _ _ _ (T307.setTop (mkF m 41 #[.val (.int p1), .val (.int p2), .val (.int p3), .val (.int p4), .val (.int (2 : Int32)), .val (.ref b252), .val (.int u268), .val (.ref a279), .unset, .unset, .unset, .unset, .unset] [(.int (own_ae (0 : Int32) (2 : Int32)))]))
    refine OGoalW.mp (S' := (T307.setTop (mkF m 43 #[.val (.int p1), .val (.int p2), .val (.int p3), .val (.int p4), .val (.int (2 : Int32)), .val (.ref b252), .val (.int u268), .val (.ref a279), .unset, .unset, .unset, .unset, .unset] [(.int (2 : Int32)), (.int (own_ae (0 : Int32) (2 : Int32)))]))) (fun _ k => XS.iload X309.here hx rfl (hb hby at_41) rfl k) ?_
    have l314 : (2 : Int32).toInt = 2 := by decide
    have hd315 : ¬ ((2 : Int32) = 0) := mNe (by omega)
    refine OGoalW.mp (S' := (T307.setTop (mkF m 50 #[.val (.int p1), .val (.int p2), .val (.int p3), .val (.int p4), .val (.int (2 : Int32)), .val (.ref b252), .val (.int u268), .val (.ref a279), .unset, .unset, .unset, .unset, .unset] [(.int (own_ae (0 : Int32) (2 : Int32)))]))) (fun _ k => XS.ifYes X309.here hx rfl (pc0 := 43) (pc' := 50) rfl (hb hby at_43) rfl (XT.i0_ne_t hd315) (by decide) (by decide) k) ?_
    refine OGoalW.mp (S' := (T307.setTop (mkF m 51 #[.val (.int p1), .val (.int p2), .val (.int p3), .val (.int p4), .val (.int (2 : Int32)), .val (.ref b252), .val (.int u268), .val (.ref a279), .unset, .unset, .unset, .unset, .unset] [(.int (0 : Int32)), (.int (own_ae (0 : Int32) (2 : Int32)))]))) (fun _ k => XS.iconst X309.here hx rfl (hb hby at_50) k) ?_
    refine OGoalW.mp (S' := (T307.setTop (mkF m 54 #[.val (.int p1), .val (.int p2), .val (.int p3), .val (.int p4), .val (.int (2 : Int32)), .val (.ref b252), .val (.int u268), .val (.ref a279), .unset, .unset, .unset, .unset, .unset] []))) (fun _ k => XS.icmpNo X309.here hx rfl (hb hby at_51) rfl (XT.ii_ne_f (by decide)) k) ?_
    refine OGoalW.mp (S' := (T307.setTop (mkF m 55 #[.val (.int p1), .val (.int p2), .val (.int p3), .val (.int p4), .val (.int (2 : Int32)), .val (.ref b252), .val (.int u268), .val (.ref a279), .unset, .unset, .unset, .unset, .unset] [(.int (1 : Int32))]))) (fun _ k => XS.iconst X309.here hx rfl (hb hby at_54) k) ?_
    refine OGoalW.mp (S' := (T307.setTop (mkF m 59 #[.val (.int p1), .val (.int p2), .val (.int p3), .val (.int p4), .val (.int (2 : Int32)), .val (.ref b252), .val (.int u268), .val (.ref a279), .unset, .unset, .unset, .unset, .unset] [(.int (1 : Int32))]))) (fun _ k => XS.goto X309.here hx rfl (pc0 := 55) (pc' := 59) rfl (hb hby at_55) (by decide) (by decide) k) ?_
    refine OGoalW.mp (S' := (T307.setTop (mkF m 61 #[.val (.int p1), .val (.int p2), .val (.int p3), .val (.int p4), .val (.int (2 : Int32)), .val (.ref b252), .val (.int u268), .val (.ref a279), .val (.int (1 : Int32)), .unset, .unset, .unset, .unset] []))) (fun _ k => XS.istore X309.here hx rfl (hb hby at_59) rfl (l' := #[.val (.int p1), .val (.int p2), .val (.int p3), .val (.int p4), .val (.int (2 : Int32)), .val (.ref b252), .val (.int u268), .val (.ref a279), .val (.int (1 : Int32)), .unset, .unset, .unset, .unset]) rfl k) ?_
    refine OGoalW.mp (S' := (T307.setTop (mkF m 63 #[.val (.int p1), .val (.int p2), .val (.int p3), .val (.int p4), .val (.int (2 : Int32)), .val (.ref b252), .val (.int u268), .val (.ref a279), .val (.int (1 : Int32)), .unset, .unset, .unset, .unset] [(.ref a279)]))) (fun _ k => XS.aload X309.here hx rfl (hb hby at_61) rfl rfl k) ?_
    refine OGoalW.mp (S' := (T307.setTop (mkF m 65 #[.val (.int p1), .val (.int p2), .val (.int p3), .val (.int p4), .val (.int (2 : Int32)), .val (.ref b252), .val (.int u268), .val (.ref a279), .val (.int (1 : Int32)), .unset, .unset, .unset, .unset] [(.int u268), (.ref a279)]))) (fun _ k => XS.iload X309.here hx rfl (hb hby at_63) rfl k) ?_
    refine oCallVW (y := (⟨"com/example/deadlock_to_diagnosis/deadlocktodiagnosis/reader/LineScanner", "moveTo", "(I)V"⟩ : MethodName)) (z := (⟨"com/example/deadlock_to_diagnosis/deadlocktodiagnosis/reader/LineScanner", "moveTo", "(I)V"⟩ : MethodName)) X309 hx hZ hown (hw _ (List.mem_of_getElem? (i := 54) rfl)) (hw _ (List.mem_of_getElem? (i := 55) rfl)) (hw _ (List.mem_of_getElem? (i := 57) rfl)) (hw _ (List.mem_of_getElem? (i := 56) rfl)) (hw _ (List.mem_of_getElem? (i := 29) rfl)) (hw _ (List.mem_of_getElem? (i := 58) rfl)) (by decide) (rmMv l Z a0 hw a279 u268 T289.heap n0 Z305 cs hcs S298 b252 (0 : Int32) E295 F296 F297 ab287) e312 E295 [(.int u268)] [] rfl rfl (by rw [hml]; rfl) (notFace_of_selects (args := #[]) (mvT hZ (hw _ (List.mem_of_getElem? (i := 57) rfl)))) (lenOf own_pd__I_V rfl) 0 (Nat.le_of_eq rfl) (by decide) (by decide) (by decide) (by decide) (hb hby at_65) ?_
    intro v316 T317 L318 X319 q320
    obtain ⟨rfl, N321, K322, E323, F324, F325, S326⟩ := q320
    have N327 := Fr.app N313 N321
    have F328 := F301.keep K322 E295 (hw _ (List.mem_of_getElem? (i := 28) rfl)) (Nat.ne_of_lt lt281)
    have Z333 : n0 ≤ T317.heap.size := Nat.le_trans Z305 K322.1
    show OGoalW p e below s _ _ _ (T317.setTop (mkF m 68 #[.val (.int p1), .val (.int p2), .val (.int p3), .val (.int p4), .val (.int (2 : Int32)), .val (.ref b252), .val (.int u268), .val (.ref a279), .val (.int (1 : Int32)), .unset, .unset, .unset, .unset] []))
    refine OGoalW.mp (S' := (T317.setTop (mkF m 70 #[.val (.int p1), .val (.int p2), .val (.int p3), .val (.int p4), .val (.int (2 : Int32)), .val (.ref b252), .val (.int u268), .val (.ref a279), .val (.int (1 : Int32)), .unset, .unset, .unset, .unset] [(.ref a279)]))) (fun _ k => XS.aload X319.here hx rfl (hb hby at_68) rfl rfl k) ?_
    refine oCallVW (y := (⟨"com/example/deadlock_to_diagnosis/deadlocktodiagnosis/reader/LineScanner", "atEnd", "()Z"⟩ : MethodName)) (z := (⟨"com/example/deadlock_to_diagnosis/deadlocktodiagnosis/reader/LineScanner", "atEnd", "()Z"⟩ : MethodName)) X319 hx hZ hown (hw _ (List.mem_of_getElem? (i := 36) rfl)) (hw _ (List.mem_of_getElem? (i := 37) rfl)) (hw _ (List.mem_of_getElem? (i := 39) rfl)) (hw _ (List.mem_of_getElem? (i := 38) rfl)) (hw _ (List.mem_of_getElem? (i := 29) rfl)) (hw _ (List.mem_of_getElem? (i := 40) rfl)) (by decide) (rmAE l Z a0 hw a279 T317.heap n0 Z333 cs hcs S326 b252 u268 (2 : Int32) F328 E323 F324 F325) rfl E323 [] [] rfl rfl (by rw [hml]; rfl) (notFace_of_selects (args := #[]) (mvT hZ (hw _ (List.mem_of_getElem? (i := 39) rfl)))) (lenOf own_pd___Z rfl) 0 (Nat.le_of_eq rfl) (by decide) (by decide) (by decide) (by decide) (hb hby at_70) ?_
    intro v334 T335 L336 X337 q338
    obtain ⟨rfl, N339, e340⟩ := q338
    have N341 := Fr.app N327 N339
    show OGoalW p e below s _ _ _ (T335.setTop (mkF m 73 #[.val (.int p1), .val (.int p2), .val (.int p3), .val (.int p4), .val (.int (2 : Int32)), .val (.ref b252), .val (.int u268), .val (.ref a279), .val (.int (1 : Int32)), .unset, .unset, .unset, .unset] [(.int (own_ae u268 (2 : Int32)))]))
    refine OGoalW.mp (S' := (T335.setTop (mkF m 75 #[.val (.int p1), .val (.int p2), .val (.int p3), .val (.int p4), .val (.int (2 : Int32)), .val (.ref b252), .val (.int u268), .val (.ref a279), .val (.int (1 : Int32)), .val (.int (own_ae u268 (2 : Int32))), .unset, .unset, .unset] []))) (fun _ k => XS.istore X337.here hx rfl (hb hby at_73) rfl (l' := #[.val (.int p1), .val (.int p2), .val (.int p3), .val (.int p4), .val (.int (2 : Int32)), .val (.ref b252), .val (.int u268), .val (.ref a279), .val (.int (1 : Int32)), .val (.int (own_ae u268 (2 : Int32))), .unset, .unset, .unset]) rfl k) ?_
    refine OGoalW.mp (S' := (T335.setTop (mkF m 77 #[.val (.int p1), .val (.int p2), .val (.int p3), .val (.int p4), .val (.int (2 : Int32)), .val (.ref b252), .val (.int u268), .val (.ref a279), .val (.int (1 : Int32)), .val (.int (own_ae u268 (2 : Int32))), .unset, .unset, .unset] [(.int (own_ae u268 (2 : Int32)))]))) (fun _ k => XS.iload X337.here hx rfl (hb hby at_75) rfl k) ?_
    refine OGoalW.mp (S' := (T335.setTop (mkF m 79 #[.val (.int p1), .val (.int p2), .val (.int p3), .val (.int p4), .val (.int (2 : Int32)), .val (.ref b252), .val (.int u268), .val (.ref a279), .val (.int (1 : Int32)), .val (.int (own_ae u268 (2 : Int32))), .unset, .unset, .unset] [(.int u268), (.int (own_ae u268 (2 : Int32)))]))) (fun _ k => XS.iload X337.here hx rfl (hb hby at_77) rfl k) ?_
    refine OGoalW.mp (S' := (T335.setTop (mkF m 81 #[.val (.int p1), .val (.int p2), .val (.int p3), .val (.int p4), .val (.int (2 : Int32)), .val (.ref b252), .val (.int u268), .val (.ref a279), .val (.int (1 : Int32)), .val (.int (own_ae u268 (2 : Int32))), .unset, .unset, .unset] [(.int (2 : Int32)), (.int u268), (.int (own_ae u268 (2 : Int32)))]))) (fun _ k => XS.iload X337.here hx rfl (hb hby at_79) rfl k) ?_
    by_cases hc342 : u268 = (2 : Int32)
    · have g343 := oEq hc342
      refine OGoalW.mp (S' := (T335.setTop (mkF m 84 #[.val (.int p1), .val (.int p2), .val (.int p3), .val (.int p4), .val (.int (2 : Int32)), .val (.ref b252), .val (.int u268), .val (.ref a279), .val (.int (1 : Int32)), .val (.int (own_ae u268 (2 : Int32))), .unset, .unset, .unset] [(.int (own_ae u268 (2 : Int32)))]))) (fun _ k => XS.icmpNo X337.here hx rfl (hb hby at_81) rfl (XT.ii_ne_f hc342) k) ?_
      refine OGoalW.mp (S' := (T335.setTop (mkF m 85 #[.val (.int p1), .val (.int p2), .val (.int p3), .val (.int p4), .val (.int (2 : Int32)), .val (.ref b252), .val (.int u268), .val (.ref a279), .val (.int (1 : Int32)), .val (.int (own_ae u268 (2 : Int32))), .unset, .unset, .unset] [(.int (1 : Int32)), (.int (own_ae u268 (2 : Int32)))]))) (fun _ k => XS.iconst X337.here hx rfl (hb hby at_84) k) ?_
      refine OGoalW.mp (S' := (T335.setTop (mkF m 89 #[.val (.int p1), .val (.int p2), .val (.int p3), .val (.int p4), .val (.int (2 : Int32)), .val (.ref b252), .val (.int u268), .val (.ref a279), .val (.int (1 : Int32)), .val (.int (own_ae u268 (2 : Int32))), .unset, .unset, .unset] [(.int (1 : Int32)), (.int (own_ae u268 (2 : Int32)))]))) (fun _ k => XS.goto X337.here hx rfl (pc0 := 85) (pc' := 89) rfl (hb hby at_85) (by decide) (by decide) k) ?_
      refine OGoalW.mp (S' := (T335.setTop (mkF m 92 #[.val (.int p1), .val (.int p2), .val (.int p3), .val (.int p4), .val (.int (2 : Int32)), .val (.ref b252), .val (.int u268), .val (.ref a279), .val (.int (1 : Int32)), .val (.int (own_ae u268 (2 : Int32))), .unset, .unset, .unset] []))) (fun _ k => XS.icmpNo X337.here hx rfl (hb hby at_89) rfl (XT.ii_ne_f (by unfold own_ae; rw [if_pos hc342])) k) ?_
      refine OGoalW.mp (S' := (T335.setTop (mkF m 93 #[.val (.int p1), .val (.int p2), .val (.int p3), .val (.int p4), .val (.int (2 : Int32)), .val (.ref b252), .val (.int u268), .val (.ref a279), .val (.int (1 : Int32)), .val (.int (own_ae u268 (2 : Int32))), .unset, .unset, .unset] [(.int (1 : Int32))]))) (fun _ k => XS.iconst X337.here hx rfl (hb hby at_92) k) ?_
      refine OGoalW.mp (S' := (T335.setTop (mkF m 97 #[.val (.int p1), .val (.int p2), .val (.int p3), .val (.int p4), .val (.int (2 : Int32)), .val (.ref b252), .val (.int u268), .val (.ref a279), .val (.int (1 : Int32)), .val (.int (own_ae u268 (2 : Int32))), .unset, .unset, .unset] [(.int (1 : Int32))]))) (fun _ k => XS.goto X337.here hx rfl (pc0 := 93) (pc' := 97) rfl (hb hby at_93) (by decide) (by decide) k) ?_
      refine OGoalW.mp (S' := (T335.setTop (mkF m 99 #[.val (.int p1), .val (.int p2), .val (.int p3), .val (.int p4), .val (.int (2 : Int32)), .val (.ref b252), .val (.int u268), .val (.ref a279), .val (.int (1 : Int32)), .val (.int (own_ae u268 (2 : Int32))), .val (.int (1 : Int32)), .unset, .unset] []))) (fun _ k => XS.istore X337.here hx rfl (hb hby at_97) rfl (l' := #[.val (.int p1), .val (.int p2), .val (.int p3), .val (.int p4), .val (.int (2 : Int32)), .val (.ref b252), .val (.int u268), .val (.ref a279), .val (.int (1 : Int32)), .val (.int (own_ae u268 (2 : Int32))), .val (.int (1 : Int32)), .unset, .unset]) rfl k) ?_
      refine OGoalW.mp (S' := (T335.setTop (mkF m 101 #[.val (.int p1), .val (.int p2), .val (.int p3), .val (.int p4), .val (.int (2 : Int32)), .val (.ref b252), .val (.int u268), .val (.ref a279), .val (.int (1 : Int32)), .val (.int (own_ae u268 (2 : Int32))), .val (.int (1 : Int32)), .unset, .unset] [(.ref a279)]))) (fun _ k => XS.aload X337.here hx rfl (hb hby at_99) rfl rfl k) ?_
      refine oCallVW (y := (⟨"com/example/deadlock_to_diagnosis/deadlocktodiagnosis/reader/LineScanner", "atEnd", "()Z"⟩ : MethodName)) (z := (⟨"com/example/deadlock_to_diagnosis/deadlocktodiagnosis/reader/LineScanner", "atEnd", "()Z"⟩ : MethodName)) X337 hx hZ hown (hw _ (List.mem_of_getElem? (i := 36) rfl)) (hw _ (List.mem_of_getElem? (i := 37) rfl)) (hw _ (List.mem_of_getElem? (i := 39) rfl)) (hw _ (List.mem_of_getElem? (i := 38) rfl)) (hw _ (List.mem_of_getElem? (i := 29) rfl)) (hw _ (List.mem_of_getElem? (i := 40) rfl)) (by decide) (rmAE l Z a0 hw a279 T317.heap n0 Z333 cs hcs S326 b252 u268 (2 : Int32) F328 E323 F324 F325) e340 E323 [] [] rfl rfl (by rw [hml]; rfl) (notFace_of_selects (args := #[]) (mvT hZ (hw _ (List.mem_of_getElem? (i := 39) rfl)))) (lenOf own_pd___Z rfl) 0 (Nat.le_of_eq rfl) (by decide) (by decide) (by decide) (by decide) (hb hby at_101) ?_
      intro v344 T345 L346 X347 q348
      obtain ⟨rfl, N349, e350⟩ := q348
      have N351 := Fr.app N341 N349
      show OGoalW p e below s _ _ _ (T345.setTop (mkF m 104 #[.val (.int p1), .val (.int p2), .val (.int p3), .val (.int p4), .val (.int (2 : Int32)), .val (.ref b252), .val (.int u268), .val (.ref a279), .val (.int (1 : Int32)), .val (.int (own_ae u268 (2 : Int32))), .val (.int (1 : Int32)), .unset, .unset] [(.int (own_ae u268 (2 : Int32)))]))
      refine OGoalW.mp (S' := (T345.setTop (mkF m 106 #[.val (.int p1), .val (.int p2), .val (.int p3), .val (.int p4), .val (.int (2 : Int32)), .val (.ref b252), .val (.int u268), .val (.ref a279), .val (.int (1 : Int32)), .val (.int (own_ae u268 (2 : Int32))), .val (.int (1 : Int32)), .unset, .unset] [(.int (own_ae u268 (2 : Int32))), (.int (own_ae u268 (2 : Int32)))]))) (fun _ k => XS.iload X347.here hx rfl (hb hby at_104) rfl k) ?_
      refine OGoalW.mp (S' := (T345.setTop (mkF m 109 #[.val (.int p1), .val (.int p2), .val (.int p3), .val (.int p4), .val (.int (2 : Int32)), .val (.ref b252), .val (.int u268), .val (.ref a279), .val (.int (1 : Int32)), .val (.int (own_ae u268 (2 : Int32))), .val (.int (1 : Int32)), .unset, .unset] []))) (fun _ k => XS.icmpNo X347.here hx rfl (hb hby at_106) rfl (XT.ii_ne_f rfl) k) ?_
      refine OGoalW.mp (S' := (T345.setTop (mkF m 110 #[.val (.int p1), .val (.int p2), .val (.int p3), .val (.int p4), .val (.int (2 : Int32)), .val (.ref b252), .val (.int u268), .val (.ref a279), .val (.int (1 : Int32)), .val (.int (own_ae u268 (2 : Int32))), .val (.int (1 : Int32)), .unset, .unset] [(.int (1 : Int32))]))) (fun _ k => XS.iconst X347.here hx rfl (hb hby at_109) k) ?_
      refine OGoalW.mp (S' := (T345.setTop (mkF m 114 #[.val (.int p1), .val (.int p2), .val (.int p3), .val (.int p4), .val (.int (2 : Int32)), .val (.ref b252), .val (.int u268), .val (.ref a279), .val (.int (1 : Int32)), .val (.int (own_ae u268 (2 : Int32))), .val (.int (1 : Int32)), .unset, .unset] [(.int (1 : Int32))]))) (fun _ k => XS.goto X347.here hx rfl (pc0 := 110) (pc' := 114) rfl (hb hby at_110) (by decide) (by decide) k) ?_
      refine OGoalW.mp (S' := (T345.setTop (mkF m 116 #[.val (.int p1), .val (.int p2), .val (.int p3), .val (.int p4), .val (.int (2 : Int32)), .val (.ref b252), .val (.int u268), .val (.ref a279), .val (.int (1 : Int32)), .val (.int (own_ae u268 (2 : Int32))), .val (.int (1 : Int32)), .val (.int (1 : Int32)), .unset] []))) (fun _ k => XS.istore X347.here hx rfl (hb hby at_114) rfl (l' := #[.val (.int p1), .val (.int p2), .val (.int p3), .val (.int p4), .val (.int (2 : Int32)), .val (.ref b252), .val (.int u268), .val (.ref a279), .val (.int (1 : Int32)), .val (.int (own_ae u268 (2 : Int32))), .val (.int (1 : Int32)), .val (.int (1 : Int32)), .unset]) rfl k) ?_
      refine OGoalW.mp (S' := (T345.setTop (mkF m 118 #[.val (.int p1), .val (.int p2), .val (.int p3), .val (.int p4), .val (.int (2 : Int32)), .val (.ref b252), .val (.int u268), .val (.ref a279), .val (.int (1 : Int32)), .val (.int (own_ae u268 (2 : Int32))), .val (.int (1 : Int32)), .val (.int (1 : Int32)), .unset] [(.ref a279)]))) (fun _ k => XS.aload X347.here hx rfl (hb hby at_116) rfl rfl k) ?_
      refine oCallVW (y := (⟨"com/example/deadlock_to_diagnosis/deadlocktodiagnosis/reader/LineScanner", "position", "()I"⟩ : MethodName)) (z := (⟨"com/example/deadlock_to_diagnosis/deadlocktodiagnosis/reader/LineScanner", "position", "()I"⟩ : MethodName)) X347 hx hZ hown (hw _ (List.mem_of_getElem? (i := 59) rfl)) (hw _ (List.mem_of_getElem? (i := 60) rfl)) (hw _ (List.mem_of_getElem? (i := 62) rfl)) (hw _ (List.mem_of_getElem? (i := 61) rfl)) (hw _ (List.mem_of_getElem? (i := 29) rfl)) (hw _ (List.mem_of_getElem? (i := 63) rfl)) (by decide) (rmPo l Z a0 hw a279 T317.heap n0 Z333 u268 F325) e350 E323 [] [] rfl rfl (by rw [hml]; rfl) (notFace_of_selects (args := #[]) (mvT hZ (hw _ (List.mem_of_getElem? (i := 62) rfl)))) (lenOf own_pd___I rfl) 0 (Nat.le_of_eq rfl) (by decide) (by decide) (by decide) (by decide) (hb hby at_118) ?_
      intro v352 T353 L354 X355 q356
      obtain ⟨rfl, N357, e358⟩ := q356
      have N359 := Fr.app N351 N357
      show OGoalW p e below s _ _ _ (T353.setTop (mkF m 121 #[.val (.int p1), .val (.int p2), .val (.int p3), .val (.int p4), .val (.int (2 : Int32)), .val (.ref b252), .val (.int u268), .val (.ref a279), .val (.int (1 : Int32)), .val (.int (own_ae u268 (2 : Int32))), .val (.int (1 : Int32)), .val (.int (1 : Int32)), .unset] [(.int u268)]))
      refine OGoalW.mp (S' := (T353.setTop (mkF m 123 #[.val (.int p1), .val (.int p2), .val (.int p3), .val (.int p4), .val (.int (2 : Int32)), .val (.ref b252), .val (.int u268), .val (.ref a279), .val (.int (1 : Int32)), .val (.int (own_ae u268 (2 : Int32))), .val (.int (1 : Int32)), .val (.int (1 : Int32)), .unset] [(.int u268), (.int u268)]))) (fun _ k => XS.iload X355.here hx rfl (hb hby at_121) rfl k) ?_
      refine OGoalW.mp (S' := (T353.setTop (mkF m 126 #[.val (.int p1), .val (.int p2), .val (.int p3), .val (.int p4), .val (.int (2 : Int32)), .val (.ref b252), .val (.int u268), .val (.ref a279), .val (.int (1 : Int32)), .val (.int (own_ae u268 (2 : Int32))), .val (.int (1 : Int32)), .val (.int (1 : Int32)), .unset] []))) (fun _ k => XS.icmpNo X355.here hx rfl (hb hby at_123) rfl (XT.ii_ne_f rfl) k) ?_
      refine OGoalW.mp (S' := (T353.setTop (mkF m 127 #[.val (.int p1), .val (.int p2), .val (.int p3), .val (.int p4), .val (.int (2 : Int32)), .val (.ref b252), .val (.int u268), .val (.ref a279), .val (.int (1 : Int32)), .val (.int (own_ae u268 (2 : Int32))), .val (.int (1 : Int32)), .val (.int (1 : Int32)), .unset] [(.int (1 : Int32))]))) (fun _ k => XS.iconst X355.here hx rfl (hb hby at_126) k) ?_
      refine OGoalW.mp (S' := (T353.setTop (mkF m 131 #[.val (.int p1), .val (.int p2), .val (.int p3), .val (.int p4), .val (.int (2 : Int32)), .val (.ref b252), .val (.int u268), .val (.ref a279), .val (.int (1 : Int32)), .val (.int (own_ae u268 (2 : Int32))), .val (.int (1 : Int32)), .val (.int (1 : Int32)), .unset] [(.int (1 : Int32))]))) (fun _ k => XS.goto X355.here hx rfl (pc0 := 127) (pc' := 131) rfl (hb hby at_127) (by decide) (by decide) k) ?_
      refine OGoalW.mp (S' := (T353.setTop (mkF m 133 #[.val (.int p1), .val (.int p2), .val (.int p3), .val (.int p4), .val (.int (2 : Int32)), .val (.ref b252), .val (.int u268), .val (.ref a279), .val (.int (1 : Int32)), .val (.int (own_ae u268 (2 : Int32))), .val (.int (1 : Int32)), .val (.int (1 : Int32)), .val (.int (1 : Int32))] []))) (fun _ k => XS.istore X355.here hx rfl (hb hby at_131) rfl (l' := #[.val (.int p1), .val (.int p2), .val (.int p3), .val (.int p4), .val (.int (2 : Int32)), .val (.ref b252), .val (.int u268), .val (.ref a279), .val (.int (1 : Int32)), .val (.int (own_ae u268 (2 : Int32))), .val (.int (1 : Int32)), .val (.int (1 : Int32)), .val (.int (1 : Int32))]) rfl k) ?_
      refine OGoalW.mp (S' := (T353.setTop (mkF m 135 #[.val (.int p1), .val (.int p2), .val (.int p3), .val (.int p4), .val (.int (2 : Int32)), .val (.ref b252), .val (.int u268), .val (.ref a279), .val (.int (1 : Int32)), .val (.int (own_ae u268 (2 : Int32))), .val (.int (1 : Int32)), .val (.int (1 : Int32)), .val (.int (1 : Int32))] [(.int (1 : Int32))]))) (fun _ k => XS.iload X355.here hx rfl (hb hby at_133) rfl k) ?_
      have hd360 : ¬ ((1 : Int32) = 0) := mNe (by omega)
      refine OGoalW.mp (S' := (T353.setTop (mkF m 138 #[.val (.int p1), .val (.int p2), .val (.int p3), .val (.int p4), .val (.int (2 : Int32)), .val (.ref b252), .val (.int u268), .val (.ref a279), .val (.int (1 : Int32)), .val (.int (own_ae u268 (2 : Int32))), .val (.int (1 : Int32)), .val (.int (1 : Int32)), .val (.int (1 : Int32))] []))) (fun _ k => XS.ifNo X355.here hx rfl (hb hby at_135) rfl (XT.i0_eq_f hd360) k) ?_
      refine OGoalW.mp (S' := (T353.setTop (mkF m 140 #[.val (.int p1), .val (.int p2), .val (.int p3), .val (.int p4), .val (.int (2 : Int32)), .val (.ref b252), .val (.int u268), .val (.ref a279), .val (.int (1 : Int32)), .val (.int (own_ae u268 (2 : Int32))), .val (.int (1 : Int32)), .val (.int (1 : Int32)), .val (.int (1 : Int32))] [(.int (1 : Int32))]))) (fun _ k => XS.iload X355.here hx rfl (hb hby at_138) rfl k) ?_
      have hd361 : ¬ ((1 : Int32) = 0) := mNe (by omega)
      refine OGoalW.mp (S' := (T353.setTop (mkF m 143 #[.val (.int p1), .val (.int p2), .val (.int p3), .val (.int p4), .val (.int (2 : Int32)), .val (.ref b252), .val (.int u268), .val (.ref a279), .val (.int (1 : Int32)), .val (.int (own_ae u268 (2 : Int32))), .val (.int (1 : Int32)), .val (.int (1 : Int32)), .val (.int (1 : Int32))] []))) (fun _ k => XS.ifNo X355.here hx rfl (hb hby at_140) rfl (XT.i0_eq_f hd361) k) ?_
      refine OGoalW.mp (S' := (T353.setTop (mkF m 145 #[.val (.int p1), .val (.int p2), .val (.int p3), .val (.int p4), .val (.int (2 : Int32)), .val (.ref b252), .val (.int u268), .val (.ref a279), .val (.int (1 : Int32)), .val (.int (own_ae u268 (2 : Int32))), .val (.int (1 : Int32)), .val (.int (1 : Int32)), .val (.int (1 : Int32))] [(.int (1 : Int32))]))) (fun _ k => XS.iload X355.here hx rfl (hb hby at_143) rfl k) ?_
      have hd362 : ¬ ((1 : Int32) = 0) := mNe (by omega)
      refine OGoalW.mp (S' := (T353.setTop (mkF m 148 #[.val (.int p1), .val (.int p2), .val (.int p3), .val (.int p4), .val (.int (2 : Int32)), .val (.ref b252), .val (.int u268), .val (.ref a279), .val (.int (1 : Int32)), .val (.int (own_ae u268 (2 : Int32))), .val (.int (1 : Int32)), .val (.int (1 : Int32)), .val (.int (1 : Int32))] []))) (fun _ k => XS.ifNo X355.here hx rfl (hb hby at_145) rfl (XT.i0_eq_f hd362) k) ?_
      refine OGoalW.mp (S' := (T353.setTop (mkF m 150 #[.val (.int p1), .val (.int p2), .val (.int p3), .val (.int p4), .val (.int (2 : Int32)), .val (.ref b252), .val (.int u268), .val (.ref a279), .val (.int (1 : Int32)), .val (.int (own_ae u268 (2 : Int32))), .val (.int (1 : Int32)), .val (.int (1 : Int32)), .val (.int (1 : Int32))] [(.int (1 : Int32))]))) (fun _ k => XS.iload X355.here hx rfl (hb hby at_148) rfl k) ?_
      have hd363 : ¬ ((1 : Int32) = 0) := mNe (by omega)
      refine OGoalW.mp (S' := (T353.setTop (mkF m 153 #[.val (.int p1), .val (.int p2), .val (.int p3), .val (.int p4), .val (.int (2 : Int32)), .val (.ref b252), .val (.int u268), .val (.ref a279), .val (.int (1 : Int32)), .val (.int (own_ae u268 (2 : Int32))), .val (.int (1 : Int32)), .val (.int (1 : Int32)), .val (.int (1 : Int32))] []))) (fun _ k => XS.ifNo X355.here hx rfl (hb hby at_150) rfl (XT.i0_eq_f hd363) k) ?_
      refine OGoalW.mp (S' := (T353.setTop (mkF m 154 #[.val (.int p1), .val (.int p2), .val (.int p3), .val (.int p4), .val (.int (2 : Int32)), .val (.ref b252), .val (.int u268), .val (.ref a279), .val (.int (1 : Int32)), .val (.int (own_ae u268 (2 : Int32))), .val (.int (1 : Int32)), .val (.int (1 : Int32)), .val (.int (1 : Int32))] [(.int (1 : Int32))]))) (fun _ k => XS.iconst X355.here hx rfl (hb hby at_153) k) ?_
      refine OGoalW.mp (S' := (T353.setTop (mkF m 158 #[.val (.int p1), .val (.int p2), .val (.int p3), .val (.int p4), .val (.int (2 : Int32)), .val (.ref b252), .val (.int u268), .val (.ref a279), .val (.int (1 : Int32)), .val (.int (own_ae u268 (2 : Int32))), .val (.int (1 : Int32)), .val (.int (1 : Int32)), .val (.int (1 : Int32))] [(.int (1 : Int32))]))) (fun _ k => XS.goto X355.here hx rfl (pc0 := 154) (pc' := 158) rfl (hb hby at_154) (by decide) (by decide) k) ?_
      refine oRetZW X355 hS0 (Nat.le_trans (Nat.le_trans (Nat.le_trans (Nat.le_trans (Nat.le_trans (Nat.le_of_eq (congrArg Array.size hsh)) K259.1) E276.1) K294.1) K322.1) (Nat.le_of_eq (congrArg Array.size e358).symm)) hx hlk hret (Or.inr rfl) (hb hby at_158) ?_ (by decide) (by decide)
      exact ⟨rfl, N359⟩
    · have g364 := oNe hc342
      refine OGoalW.mp (S' := (T335.setTop (mkF m 88 #[.val (.int p1), .val (.int p2), .val (.int p3), .val (.int p4), .val (.int (2 : Int32)), .val (.ref b252), .val (.int u268), .val (.ref a279), .val (.int (1 : Int32)), .val (.int (own_ae u268 (2 : Int32))), .unset, .unset, .unset] [(.int (own_ae u268 (2 : Int32)))]))) (fun _ k => XS.icmpYes X337.here hx rfl (pc0 := 81) (pc' := 88) rfl (hb hby at_81) rfl (XT.ii_ne_t hc342) (by decide) (by decide) k) ?_
      refine OGoalW.mp (S' := (T335.setTop (mkF m 89 #[.val (.int p1), .val (.int p2), .val (.int p3), .val (.int p4), .val (.int (2 : Int32)), .val (.ref b252), .val (.int u268), .val (.ref a279), .val (.int (1 : Int32)), .val (.int (own_ae u268 (2 : Int32))), .unset, .unset, .unset] [(.int (0 : Int32)), (.int (own_ae u268 (2 : Int32)))]))) (fun _ k => XS.iconst X337.here hx rfl (hb hby at_88) k) ?_
      refine OGoalW.mp (S' := (T335.setTop (mkF m 92 #[.val (.int p1), .val (.int p2), .val (.int p3), .val (.int p4), .val (.int (2 : Int32)), .val (.ref b252), .val (.int u268), .val (.ref a279), .val (.int (1 : Int32)), .val (.int (own_ae u268 (2 : Int32))), .unset, .unset, .unset] []))) (fun _ k => XS.icmpNo X337.here hx rfl (hb hby at_89) rfl (XT.ii_ne_f (by unfold own_ae; rw [if_neg hc342])) k) ?_
      refine OGoalW.mp (S' := (T335.setTop (mkF m 93 #[.val (.int p1), .val (.int p2), .val (.int p3), .val (.int p4), .val (.int (2 : Int32)), .val (.ref b252), .val (.int u268), .val (.ref a279), .val (.int (1 : Int32)), .val (.int (own_ae u268 (2 : Int32))), .unset, .unset, .unset] [(.int (1 : Int32))]))) (fun _ k => XS.iconst X337.here hx rfl (hb hby at_92) k) ?_
      refine OGoalW.mp (S' := (T335.setTop (mkF m 97 #[.val (.int p1), .val (.int p2), .val (.int p3), .val (.int p4), .val (.int (2 : Int32)), .val (.ref b252), .val (.int u268), .val (.ref a279), .val (.int (1 : Int32)), .val (.int (own_ae u268 (2 : Int32))), .unset, .unset, .unset] [(.int (1 : Int32))]))) (fun _ k => XS.goto X337.here hx rfl (pc0 := 93) (pc' := 97) rfl (hb hby at_93) (by decide) (by decide) k) ?_
      refine OGoalW.mp (S' := (T335.setTop (mkF m 99 #[.val (.int p1), .val (.int p2), .val (.int p3), .val (.int p4), .val (.int (2 : Int32)), .val (.ref b252), .val (.int u268), .val (.ref a279), .val (.int (1 : Int32)), .val (.int (own_ae u268 (2 : Int32))), .val (.int (1 : Int32)), .unset, .unset] []))) (fun _ k => XS.istore X337.here hx rfl (hb hby at_97) rfl (l' := #[.val (.int p1), .val (.int p2), .val (.int p3), .val (.int p4), .val (.int (2 : Int32)), .val (.ref b252), .val (.int u268), .val (.ref a279), .val (.int (1 : Int32)), .val (.int (own_ae u268 (2 : Int32))), .val (.int (1 : Int32)), .unset, .unset]) rfl k) ?_
      refine OGoalW.mp (S' := (T335.setTop (mkF m 101 #[.val (.int p1), .val (.int p2), .val (.int p3), .val (.int p4), .val (.int (2 : Int32)), .val (.ref b252), .val (.int u268), .val (.ref a279), .val (.int (1 : Int32)), .val (.int (own_ae u268 (2 : Int32))), .val (.int (1 : Int32)), .unset, .unset] [(.ref a279)]))) (fun _ k => XS.aload X337.here hx rfl (hb hby at_99) rfl rfl k) ?_
      refine oCallVW (y := (⟨"com/example/deadlock_to_diagnosis/deadlocktodiagnosis/reader/LineScanner", "atEnd", "()Z"⟩ : MethodName)) (z := (⟨"com/example/deadlock_to_diagnosis/deadlocktodiagnosis/reader/LineScanner", "atEnd", "()Z"⟩ : MethodName)) X337 hx hZ hown (hw _ (List.mem_of_getElem? (i := 36) rfl)) (hw _ (List.mem_of_getElem? (i := 37) rfl)) (hw _ (List.mem_of_getElem? (i := 39) rfl)) (hw _ (List.mem_of_getElem? (i := 38) rfl)) (hw _ (List.mem_of_getElem? (i := 29) rfl)) (hw _ (List.mem_of_getElem? (i := 40) rfl)) (by decide) (rmAE l Z a0 hw a279 T317.heap n0 Z333 cs hcs S326 b252 u268 (2 : Int32) F328 E323 F324 F325) e340 E323 [] [] rfl rfl (by rw [hml]; rfl) (notFace_of_selects (args := #[]) (mvT hZ (hw _ (List.mem_of_getElem? (i := 39) rfl)))) (lenOf own_pd___Z rfl) 0 (Nat.le_of_eq rfl) (by decide) (by decide) (by decide) (by decide) (hb hby at_101) ?_
      intro v365 T366 L367 X368 q369
      obtain ⟨rfl, N370, e371⟩ := q369
      have N372 := Fr.app N341 N370
      show OGoalW p e below s _ _ _ (T366.setTop (mkF m 104 #[.val (.int p1), .val (.int p2), .val (.int p3), .val (.int p4), .val (.int (2 : Int32)), .val (.ref b252), .val (.int u268), .val (.ref a279), .val (.int (1 : Int32)), .val (.int (own_ae u268 (2 : Int32))), .val (.int (1 : Int32)), .unset, .unset] [(.int (own_ae u268 (2 : Int32)))]))
      refine OGoalW.mp (S' := (T366.setTop (mkF m 106 #[.val (.int p1), .val (.int p2), .val (.int p3), .val (.int p4), .val (.int (2 : Int32)), .val (.ref b252), .val (.int u268), .val (.ref a279), .val (.int (1 : Int32)), .val (.int (own_ae u268 (2 : Int32))), .val (.int (1 : Int32)), .unset, .unset] [(.int (own_ae u268 (2 : Int32))), (.int (own_ae u268 (2 : Int32)))]))) (fun _ k => XS.iload X368.here hx rfl (hb hby at_104) rfl k) ?_
      refine OGoalW.mp (S' := (T366.setTop (mkF m 109 #[.val (.int p1), .val (.int p2), .val (.int p3), .val (.int p4), .val (.int (2 : Int32)), .val (.ref b252), .val (.int u268), .val (.ref a279), .val (.int (1 : Int32)), .val (.int (own_ae u268 (2 : Int32))), .val (.int (1 : Int32)), .unset, .unset] []))) (fun _ k => XS.icmpNo X368.here hx rfl (hb hby at_106) rfl (XT.ii_ne_f rfl) k) ?_
      refine OGoalW.mp (S' := (T366.setTop (mkF m 110 #[.val (.int p1), .val (.int p2), .val (.int p3), .val (.int p4), .val (.int (2 : Int32)), .val (.ref b252), .val (.int u268), .val (.ref a279), .val (.int (1 : Int32)), .val (.int (own_ae u268 (2 : Int32))), .val (.int (1 : Int32)), .unset, .unset] [(.int (1 : Int32))]))) (fun _ k => XS.iconst X368.here hx rfl (hb hby at_109) k) ?_
      refine OGoalW.mp (S' := (T366.setTop (mkF m 114 #[.val (.int p1), .val (.int p2), .val (.int p3), .val (.int p4), .val (.int (2 : Int32)), .val (.ref b252), .val (.int u268), .val (.ref a279), .val (.int (1 : Int32)), .val (.int (own_ae u268 (2 : Int32))), .val (.int (1 : Int32)), .unset, .unset] [(.int (1 : Int32))]))) (fun _ k => XS.goto X368.here hx rfl (pc0 := 110) (pc' := 114) rfl (hb hby at_110) (by decide) (by decide) k) ?_
      refine OGoalW.mp (S' := (T366.setTop (mkF m 116 #[.val (.int p1), .val (.int p2), .val (.int p3), .val (.int p4), .val (.int (2 : Int32)), .val (.ref b252), .val (.int u268), .val (.ref a279), .val (.int (1 : Int32)), .val (.int (own_ae u268 (2 : Int32))), .val (.int (1 : Int32)), .val (.int (1 : Int32)), .unset] []))) (fun _ k => XS.istore X368.here hx rfl (hb hby at_114) rfl (l' := #[.val (.int p1), .val (.int p2), .val (.int p3), .val (.int p4), .val (.int (2 : Int32)), .val (.ref b252), .val (.int u268), .val (.ref a279), .val (.int (1 : Int32)), .val (.int (own_ae u268 (2 : Int32))), .val (.int (1 : Int32)), .val (.int (1 : Int32)), .unset]) rfl k) ?_
      refine OGoalW.mp (S' := (T366.setTop (mkF m 118 #[.val (.int p1), .val (.int p2), .val (.int p3), .val (.int p4), .val (.int (2 : Int32)), .val (.ref b252), .val (.int u268), .val (.ref a279), .val (.int (1 : Int32)), .val (.int (own_ae u268 (2 : Int32))), .val (.int (1 : Int32)), .val (.int (1 : Int32)), .unset] [(.ref a279)]))) (fun _ k => XS.aload X368.here hx rfl (hb hby at_116) rfl rfl k) ?_
      refine oCallVW (y := (⟨"com/example/deadlock_to_diagnosis/deadlocktodiagnosis/reader/LineScanner", "position", "()I"⟩ : MethodName)) (z := (⟨"com/example/deadlock_to_diagnosis/deadlocktodiagnosis/reader/LineScanner", "position", "()I"⟩ : MethodName)) X368 hx hZ hown (hw _ (List.mem_of_getElem? (i := 59) rfl)) (hw _ (List.mem_of_getElem? (i := 60) rfl)) (hw _ (List.mem_of_getElem? (i := 62) rfl)) (hw _ (List.mem_of_getElem? (i := 61) rfl)) (hw _ (List.mem_of_getElem? (i := 29) rfl)) (hw _ (List.mem_of_getElem? (i := 63) rfl)) (by decide) (rmPo l Z a0 hw a279 T317.heap n0 Z333 u268 F325) e371 E323 [] [] rfl rfl (by rw [hml]; rfl) (notFace_of_selects (args := #[]) (mvT hZ (hw _ (List.mem_of_getElem? (i := 62) rfl)))) (lenOf own_pd___I rfl) 0 (Nat.le_of_eq rfl) (by decide) (by decide) (by decide) (by decide) (hb hby at_118) ?_
      intro v373 T374 L375 X376 q377
      obtain ⟨rfl, N378, e379⟩ := q377
      have N380 := Fr.app N372 N378
      show OGoalW p e below s _ _ _ (T374.setTop (mkF m 121 #[.val (.int p1), .val (.int p2), .val (.int p3), .val (.int p4), .val (.int (2 : Int32)), .val (.ref b252), .val (.int u268), .val (.ref a279), .val (.int (1 : Int32)), .val (.int (own_ae u268 (2 : Int32))), .val (.int (1 : Int32)), .val (.int (1 : Int32)), .unset] [(.int u268)]))
      refine OGoalW.mp (S' := (T374.setTop (mkF m 123 #[.val (.int p1), .val (.int p2), .val (.int p3), .val (.int p4), .val (.int (2 : Int32)), .val (.ref b252), .val (.int u268), .val (.ref a279), .val (.int (1 : Int32)), .val (.int (own_ae u268 (2 : Int32))), .val (.int (1 : Int32)), .val (.int (1 : Int32)), .unset] [(.int u268), (.int u268)]))) (fun _ k => XS.iload X376.here hx rfl (hb hby at_121) rfl k) ?_
      refine OGoalW.mp (S' := (T374.setTop (mkF m 126 #[.val (.int p1), .val (.int p2), .val (.int p3), .val (.int p4), .val (.int (2 : Int32)), .val (.ref b252), .val (.int u268), .val (.ref a279), .val (.int (1 : Int32)), .val (.int (own_ae u268 (2 : Int32))), .val (.int (1 : Int32)), .val (.int (1 : Int32)), .unset] []))) (fun _ k => XS.icmpNo X376.here hx rfl (hb hby at_123) rfl (XT.ii_ne_f rfl) k) ?_
      refine OGoalW.mp (S' := (T374.setTop (mkF m 127 #[.val (.int p1), .val (.int p2), .val (.int p3), .val (.int p4), .val (.int (2 : Int32)), .val (.ref b252), .val (.int u268), .val (.ref a279), .val (.int (1 : Int32)), .val (.int (own_ae u268 (2 : Int32))), .val (.int (1 : Int32)), .val (.int (1 : Int32)), .unset] [(.int (1 : Int32))]))) (fun _ k => XS.iconst X376.here hx rfl (hb hby at_126) k) ?_
      refine OGoalW.mp (S' := (T374.setTop (mkF m 131 #[.val (.int p1), .val (.int p2), .val (.int p3), .val (.int p4), .val (.int (2 : Int32)), .val (.ref b252), .val (.int u268), .val (.ref a279), .val (.int (1 : Int32)), .val (.int (own_ae u268 (2 : Int32))), .val (.int (1 : Int32)), .val (.int (1 : Int32)), .unset] [(.int (1 : Int32))]))) (fun _ k => XS.goto X376.here hx rfl (pc0 := 127) (pc' := 131) rfl (hb hby at_127) (by decide) (by decide) k) ?_
      refine OGoalW.mp (S' := (T374.setTop (mkF m 133 #[.val (.int p1), .val (.int p2), .val (.int p3), .val (.int p4), .val (.int (2 : Int32)), .val (.ref b252), .val (.int u268), .val (.ref a279), .val (.int (1 : Int32)), .val (.int (own_ae u268 (2 : Int32))), .val (.int (1 : Int32)), .val (.int (1 : Int32)), .val (.int (1 : Int32))] []))) (fun _ k => XS.istore X376.here hx rfl (hb hby at_131) rfl (l' := #[.val (.int p1), .val (.int p2), .val (.int p3), .val (.int p4), .val (.int (2 : Int32)), .val (.ref b252), .val (.int u268), .val (.ref a279), .val (.int (1 : Int32)), .val (.int (own_ae u268 (2 : Int32))), .val (.int (1 : Int32)), .val (.int (1 : Int32)), .val (.int (1 : Int32))]) rfl k) ?_
      refine OGoalW.mp (S' := (T374.setTop (mkF m 135 #[.val (.int p1), .val (.int p2), .val (.int p3), .val (.int p4), .val (.int (2 : Int32)), .val (.ref b252), .val (.int u268), .val (.ref a279), .val (.int (1 : Int32)), .val (.int (own_ae u268 (2 : Int32))), .val (.int (1 : Int32)), .val (.int (1 : Int32)), .val (.int (1 : Int32))] [(.int (1 : Int32))]))) (fun _ k => XS.iload X376.here hx rfl (hb hby at_133) rfl k) ?_
      have hd381 : ¬ ((1 : Int32) = 0) := mNe (by omega)
      refine OGoalW.mp (S' := (T374.setTop (mkF m 138 #[.val (.int p1), .val (.int p2), .val (.int p3), .val (.int p4), .val (.int (2 : Int32)), .val (.ref b252), .val (.int u268), .val (.ref a279), .val (.int (1 : Int32)), .val (.int (own_ae u268 (2 : Int32))), .val (.int (1 : Int32)), .val (.int (1 : Int32)), .val (.int (1 : Int32))] []))) (fun _ k => XS.ifNo X376.here hx rfl (hb hby at_135) rfl (XT.i0_eq_f hd381) k) ?_
      refine OGoalW.mp (S' := (T374.setTop (mkF m 140 #[.val (.int p1), .val (.int p2), .val (.int p3), .val (.int p4), .val (.int (2 : Int32)), .val (.ref b252), .val (.int u268), .val (.ref a279), .val (.int (1 : Int32)), .val (.int (own_ae u268 (2 : Int32))), .val (.int (1 : Int32)), .val (.int (1 : Int32)), .val (.int (1 : Int32))] [(.int (1 : Int32))]))) (fun _ k => XS.iload X376.here hx rfl (hb hby at_138) rfl k) ?_
      have hd382 : ¬ ((1 : Int32) = 0) := mNe (by omega)
      refine OGoalW.mp (S' := (T374.setTop (mkF m 143 #[.val (.int p1), .val (.int p2), .val (.int p3), .val (.int p4), .val (.int (2 : Int32)), .val (.ref b252), .val (.int u268), .val (.ref a279), .val (.int (1 : Int32)), .val (.int (own_ae u268 (2 : Int32))), .val (.int (1 : Int32)), .val (.int (1 : Int32)), .val (.int (1 : Int32))] []))) (fun _ k => XS.ifNo X376.here hx rfl (hb hby at_140) rfl (XT.i0_eq_f hd382) k) ?_
      refine OGoalW.mp (S' := (T374.setTop (mkF m 145 #[.val (.int p1), .val (.int p2), .val (.int p3), .val (.int p4), .val (.int (2 : Int32)), .val (.ref b252), .val (.int u268), .val (.ref a279), .val (.int (1 : Int32)), .val (.int (own_ae u268 (2 : Int32))), .val (.int (1 : Int32)), .val (.int (1 : Int32)), .val (.int (1 : Int32))] [(.int (1 : Int32))]))) (fun _ k => XS.iload X376.here hx rfl (hb hby at_143) rfl k) ?_
      have hd383 : ¬ ((1 : Int32) = 0) := mNe (by omega)
      refine OGoalW.mp (S' := (T374.setTop (mkF m 148 #[.val (.int p1), .val (.int p2), .val (.int p3), .val (.int p4), .val (.int (2 : Int32)), .val (.ref b252), .val (.int u268), .val (.ref a279), .val (.int (1 : Int32)), .val (.int (own_ae u268 (2 : Int32))), .val (.int (1 : Int32)), .val (.int (1 : Int32)), .val (.int (1 : Int32))] []))) (fun _ k => XS.ifNo X376.here hx rfl (hb hby at_145) rfl (XT.i0_eq_f hd383) k) ?_
      refine OGoalW.mp (S' := (T374.setTop (mkF m 150 #[.val (.int p1), .val (.int p2), .val (.int p3), .val (.int p4), .val (.int (2 : Int32)), .val (.ref b252), .val (.int u268), .val (.ref a279), .val (.int (1 : Int32)), .val (.int (own_ae u268 (2 : Int32))), .val (.int (1 : Int32)), .val (.int (1 : Int32)), .val (.int (1 : Int32))] [(.int (1 : Int32))]))) (fun _ k => XS.iload X376.here hx rfl (hb hby at_148) rfl k) ?_
      have hd384 : ¬ ((1 : Int32) = 0) := mNe (by omega)
      refine OGoalW.mp (S' := (T374.setTop (mkF m 153 #[.val (.int p1), .val (.int p2), .val (.int p3), .val (.int p4), .val (.int (2 : Int32)), .val (.ref b252), .val (.int u268), .val (.ref a279), .val (.int (1 : Int32)), .val (.int (own_ae u268 (2 : Int32))), .val (.int (1 : Int32)), .val (.int (1 : Int32)), .val (.int (1 : Int32))] []))) (fun _ k => XS.ifNo X376.here hx rfl (hb hby at_150) rfl (XT.i0_eq_f hd384) k) ?_
      refine OGoalW.mp (S' := (T374.setTop (mkF m 154 #[.val (.int p1), .val (.int p2), .val (.int p3), .val (.int p4), .val (.int (2 : Int32)), .val (.ref b252), .val (.int u268), .val (.ref a279), .val (.int (1 : Int32)), .val (.int (own_ae u268 (2 : Int32))), .val (.int (1 : Int32)), .val (.int (1 : Int32)), .val (.int (1 : Int32))] [(.int (1 : Int32))]))) (fun _ k => XS.iconst X376.here hx rfl (hb hby at_153) k) ?_
      refine OGoalW.mp (S' := (T374.setTop (mkF m 158 #[.val (.int p1), .val (.int p2), .val (.int p3), .val (.int p4), .val (.int (2 : Int32)), .val (.ref b252), .val (.int u268), .val (.ref a279), .val (.int (1 : Int32)), .val (.int (own_ae u268 (2 : Int32))), .val (.int (1 : Int32)), .val (.int (1 : Int32)), .val (.int (1 : Int32))] [(.int (1 : Int32))]))) (fun _ k => XS.goto X376.here hx rfl (pc0 := 154) (pc' := 158) rfl (hb hby at_154) (by decide) (by decide) k) ?_
      refine oRetZW X376 hS0 (Nat.le_trans (Nat.le_trans (Nat.le_trans (Nat.le_trans (Nat.le_trans (Nat.le_of_eq (congrArg Array.size hsh)) K259.1) E276.1) K294.1) K322.1) (Nat.le_of_eq (congrArg Array.size e379).symm)) hx hlk hret (Or.inr rfl) (hb hby at_158) ?_ (by decide) (by decide)
      exact ⟨rfl, N380⟩
  · rw [hu]
    show OGoalW p e below s _ _ _ (s₁.setTop (mkF m 5 #[.val (.int p1), .val (.int p2), .val (.int p3), .val (.int p4), .val (.int (3 : Int32)), .unset, .unset, .unset, .unset, .unset, .unset, .unset, .unset] []))
    refine OGoalW.mp (S' := (s₁.setTop (mkF m 7 #[.val (.int p1), .val (.int p2), .val (.int p3), .val (.int p4), .val (.int (3 : Int32)), .unset, .unset, .unset, .unset, .unset, .unset, .unset, .unset] [(.int (3 : Int32))]))) (fun _ k => XS.iload X0.here hx rfl (hb hby at_5) rfl k) ?_
    refine OGoalW.mp (S' := (s₁.setTop (mkF m 8 #[.val (.int p1), .val (.int p2), .val (.int p3), .val (.int p4), .val (.int (3 : Int32)), .unset, .unset, .unset, .unset, .unset, .unset, .unset, .unset] [(.int p2), (.int (3 : Int32))]))) (fun _ k => XS.iloadN X0.here hx rfl (hb hby at_7) rfl k) ?_
    refine OGoalW.mp (S' := (s₁.setTop (mkF m 9 #[.val (.int p1), .val (.int p2), .val (.int p3), .val (.int p4), .val (.int (3 : Int32)), .unset, .unset, .unset, .unset, .unset, .unset, .unset, .unset] [(.int p3), (.int p2), (.int (3 : Int32))]))) (fun _ k => XS.iloadN X0.here hx rfl (hb hby at_8) rfl k) ?_
    refine oCallSW (y := (⟨"com/example/deadlock_to_diagnosis/deadlocktodiagnosis/reader/LineScannerAtEndPinLaw", "drawn", "(III)Ljava/lang/String;"⟩ : MethodName)) X0 hx hZ hown (hw _ (List.mem_of_getElem? (i := 0) rfl)) (hw _ (List.mem_of_getElem? (i := 1) rfl)) (hw _ (List.mem_of_getElem? (i := 2) rfl)) (hw _ (List.mem_of_getElem? (i := 3) rfl)) (by decide) (rmDr3 l Z a0 hw p2 p3 h0 n0 Z0 cs hcs St) e0 [(.int (3 : Int32)), (.int p2), (.int p3)] [] rfl rfl (by rw [hml]; rfl) (lenOf own_pd__III_Ljava_lang_String_ rfl) 0 (Nat.le_of_eq rfl) (by decide) (by decide) (by decide) (by decide) (hb hby at_9) ?_
    intro v386 T387 L388 X389 q390
    obtain ⟨b385, rfl, N391, K392, S393, D394⟩ := q390
    have N395 := Fr.app (Fr.nil n0) N391
    have Z396 : n0 ≤ T387.heap.size := Nat.le_trans Z0 K392.1
    show OGoalW p e below s _ _ _ (T387.setTop (mkF m 12 #[.val (.int p1), .val (.int p2), .val (.int p3), .val (.int p4), .val (.int (3 : Int32)), .unset, .unset, .unset, .unset, .unset, .unset, .unset, .unset] [(.ref b385)]))
    refine OGoalW.mp (S' := (T387.setTop (mkF m 14 #[.val (.int p1), .val (.int p2), .val (.int p3), .val (.int p4), .val (.int (3 : Int32)), .val (.ref b385), .unset, .unset, .unset, .unset, .unset, .unset, .unset] []))) (fun _ k => XS.astore X389.here hx rfl (hb hby at_12) rfl rfl (l' := #[.val (.int p1), .val (.int p2), .val (.int p3), .val (.int p4), .val (.int (3 : Int32)), .val (.ref b385), .unset, .unset, .unset, .unset, .unset, .unset, .unset]) rfl k) ?_
    refine OGoalW.mp (S' := (T387.setTop (mkF m 15 #[.val (.int p1), .val (.int p2), .val (.int p3), .val (.int p4), .val (.int (3 : Int32)), .val (.ref b385), .unset, .unset, .unset, .unset, .unset, .unset, .unset] [(.int p4)]))) (fun _ k => XS.iloadN X389.here hx rfl (hb hby at_14) rfl k) ?_
    refine OGoalW.mp (S' := (T387.setTop (mkF m 17 #[.val (.int p1), .val (.int p2), .val (.int p3), .val (.int p4), .val (.int (3 : Int32)), .val (.ref b385), .unset, .unset, .unset, .unset, .unset, .unset, .unset] [(.int (2147483647 : Int32)), (.int p4)]))) (fun _ k => Stand.ldcI X389 hx hown (mvT hZ (hw _ (List.mem_of_getElem? (i := 26) rfl))) rfl (hb hby at_15) k) ?_
    refine OGoalW.mp (S' := (T387.setTop (mkF m 18 #[.val (.int p1), .val (.int p2), .val (.int p3), .val (.int p4), .val (.int (3 : Int32)), .val (.ref b385), .unset, .unset, .unset, .unset, .unset, .unset, .unset] [(.int (p4 &&& (2147483647 : Int32)))]))) (fun _ k => XS.iand X389.here hx rfl (hb hby at_17) rfl k) ?_
    obtain ⟨u397, hu397⟩ : ∃ z : Int32, z = (p4 &&& (2147483647 : Int32)) := ⟨_, rfl⟩
    rw [← hu397]
    have l398 : (2147483647 : Int32).toInt = 2147483647 := by decide
    have t399 : u397.toInt = (p4).toInt % 2147483648 := by rw [hu397]; exact c_mask p4 (2147483647 : Int32) 31 (by decide) (by decide)
    have r400 := rng32 u397
    refine OGoalW.mp (S' := (T387.setTop (mkF m 20 #[.val (.int p1), .val (.int p2), .val (.int p3), .val (.int p4), .val (.int (3 : Int32)), .val (.ref b385), .unset, .unset, .unset, .unset, .unset, .unset, .unset] [(.int (3 : Int32)), (.int u397)]))) (fun _ k => XS.iload X389.here hx rfl (hb hby at_18) rfl k) ?_
    refine OGoalW.mp (S' := (T387.setTop (mkF m 21 #[.val (.int p1), .val (.int p2), .val (.int p3), .val (.int p4), .val (.int (3 : Int32)), .val (.ref b385), .unset, .unset, .unset, .unset, .unset, .unset, .unset] [(.int (1 : Int32)), (.int (3 : Int32)), (.int u397)]))) (fun _ k => XS.iconst X389.here hx rfl (hb hby at_20) k) ?_
    refine OGoalW.mp (S' := (T387.setTop (mkF m 22 #[.val (.int p1), .val (.int p2), .val (.int p3), .val (.int p4), .val (.int (3 : Int32)), .val (.ref b385), .unset, .unset, .unset, .unset, .unset, .unset, .unset] [(.int ((3 : Int32) + (1 : Int32))), (.int u397)]))) (fun _ k => XS.iadd X389.here hx rfl (hb hby at_21) rfl k) ?_
    rw [show ((3 : Int32) + (1 : Int32)) = (4 : Int32) by decide]
    show OGoalW p e below s _ _ _ (T387.setTop (mkF m 22 #[.val (.int p1), .val (.int p2), .val (.int p3), .val (.int p4), .val (.int (3 : Int32)), .val (.ref b385), .unset, .unset, .unset, .unset, .unset, .unset, .unset] [(.int (4 : Int32)), (.int u397)]))
    refine OGoalW.mp (S' := (T387.setTop (mkF m 23 #[.val (.int p1), .val (.int p2), .val (.int p3), .val (.int p4), .val (.int (3 : Int32)), .val (.ref b385), .unset, .unset, .unset, .unset, .unset, .unset, .unset] [(.int (u397 % (4 : Int32)))]))) (fun _ k => iremM X389 hx rfl (hb hby at_22) rfl (by decide) k) ?_
    obtain ⟨u401, hu401⟩ : ∃ z : Int32, z = (u397 % (4 : Int32)) := ⟨_, rfl⟩
    rw [← hu401]
    have l402 : (4 : Int32).toInt = 4 := by decide
    have t403 : u401.toInt = (u397).toInt % 4 := by rw [hu401]; exact (c_irem u397 (4 : Int32) 4 (by decide)).1 (by omega)
    have r404 := rng32 u401
    refine OGoalW.mp (S' := (T387.setTop (mkF m 25 #[.val (.int p1), .val (.int p2), .val (.int p3), .val (.int p4), .val (.int (3 : Int32)), .val (.ref b385), .val (.int u401), .unset, .unset, .unset, .unset, .unset, .unset] []))) (fun _ k => XS.istore X389.here hx rfl (hb hby at_23) rfl (l' := #[.val (.int p1), .val (.int p2), .val (.int p3), .val (.int p4), .val (.int (3 : Int32)), .val (.ref b385), .val (.int u401), .unset, .unset, .unset, .unset, .unset, .unset]) rfl k) ?_
    obtain ⟨T405, h409, X406, e407, E410, A411, D412, -, st408⟩ := newO X389 hx hZ hown (hw _ (List.mem_of_getElem? (i := 27) rfl)) (hw _ (List.mem_of_getElem? (i := 28) rfl)) (hw _ (List.mem_of_getElem? (i := 29) rfl)) rfl (g := mkF m 25 #[.val (.int p1), .val (.int p2), .val (.int p3), .val (.int p4), .val (.int (3 : Int32)), .val (.ref b385), .val (.int u401), .unset, .unset, .unset, .unset, .unset, .unset] []) rfl (hb hby at_25) (by decide) (by decide)
    obtain ⟨a413, g414⟩ : ∃ z, z = T387.heap.size := ⟨_, rfl⟩
    rw [← g414] at A411 D412 st408
    have lt415 : b385 < a413 := by rw [g414]; exact D394.lt
    have F416 := S393.ext E410
    have F417 := D394.ext E410
    have F418 : Fld Z h409 a413 "com/example/deadlock_to_diagnosis/deadlocktodiagnosis/reader/LineScanner" "line" "Ljava/lang/String;" .null := D412 (Or.inr (hw _ (List.mem_of_getElem? (i := 35) rfl))) (ty := (.object "java/lang/String")) (by decide)
    have F419 : Fld Z h409 a413 "com/example/deadlock_to_diagnosis/deadlocktodiagnosis/reader/LineScanner" "at" "I" (.int (0 : Int32)) := D412 (Or.inl (hw _ (List.mem_of_getElem? (i := 42) rfl))) (ty := .int) (by decide)
    have Z420 : n0 ≤ h409.size := Nat.le_trans Z396 E410.1
    have ab421 : n0 ≤ a413 := Nat.le_trans Z396 (Nat.le_of_eq g414.symm)
    refine OGoalW.mp (S' := (T405.setTop (mkF m 28 #[.val (.int p1), .val (.int p2), .val (.int p3), .val (.int p4), .val (.int (3 : Int32)), .val (.ref b385), .val (.int u401), .unset, .unset, .unset, .unset, .unset, .unset] [(.ref a413)]))) (fun _ k => st408 _ k) ?_
    refine OGoalW.mp (S' := (T405.setTop (mkF m 29 #[.val (.int p1), .val (.int p2), .val (.int p3), .val (.int p4), .val (.int (3 : Int32)), .val (.ref b385), .val (.int u401), .unset, .unset, .unset, .unset, .unset, .unset] [(.ref a413), (.ref a413)]))) (fun _ k => XS.dup X406.here hx rfl (hb hby at_28) rfl rfl k) ?_
    refine OGoalW.mp (S' := (T405.setTop (mkF m 31 #[.val (.int p1), .val (.int p2), .val (.int p3), .val (.int p4), .val (.int (3 : Int32)), .val (.ref b385), .val (.int u401), .unset, .unset, .unset, .unset, .unset, .unset] [(.ref b385), (.ref a413), (.ref a413)]))) (fun _ k => XS.aload X406.here hx rfl (hb hby at_29) rfl rfl k) ?_
    refine oCallNW (y := (⟨"com/example/deadlock_to_diagnosis/deadlocktodiagnosis/reader/LineScanner", "<init>", "(Ljava/lang/String;)V"⟩ : MethodName)) X406 hx hZ rfl hown (hw _ (List.mem_of_getElem? (i := 30) rfl)) (hw _ (List.mem_of_getElem? (i := 31) rfl)) (hw _ (List.mem_of_getElem? (i := 29) rfl)) (hw _ (List.mem_of_getElem? (i := 32) rfl)) (by decide) (rmLI l Z a0 hw a413 b385 h409 n0 Z420 cs hcs F416 A411 F418 F419 ab421) e407 [(.ref b385)] [(.ref a413)] rfl rfl (by rw [hml]; rfl) (lenOf own_pd__Ljava_lang_String__V rfl) 1 (Nat.le_of_eq rfl) (by decide) (by decide) (by decide) (by decide) (hb hby at_31) ?_
    intro v422 T423 L424 X425 q426
    obtain ⟨rfl, N427, K428, E429, F430, F431, S432⟩ := q426
    have N433 := Fr.app N395 N427
    have F435 := F417.keep K428 A411 (hw _ (List.mem_of_getElem? (i := 28) rfl)) (Nat.ne_of_lt lt415)
    have Z439 : n0 ≤ T423.heap.size := Nat.le_trans Z420 K428.1
    show OGoalW p e below s _ _ _ (T423.setTop (mkF m 34 #[.val (.int p1), .val (.int p2), .val (.int p3), .val (.int p4), .val (.int (3 : Int32)), .val (.ref b385), .val (.int u401), .unset, .unset, .unset, .unset, .unset, .unset] [(.ref a413)]))
    refine OGoalW.mp (S' := (T423.setTop (mkF m 36 #[.val (.int p1), .val (.int p2), .val (.int p3), .val (.int p4), .val (.int (3 : Int32)), .val (.ref b385), .val (.int u401), .val (.ref a413), .unset, .unset, .unset, .unset, .unset] []))) (fun _ k => XS.astore X425.here hx rfl (hb hby at_34) rfl rfl (l' := #[.val (.int p1), .val (.int p2), .val (.int p3), .val (.int p4), .val (.int (3 : Int32)), .val (.ref b385), .val (.int u401), .val (.ref a413), .unset, .unset, .unset, .unset, .unset]) rfl k) ?_
    refine OGoalW.mp (S' := (T423.setTop (mkF m 38 #[.val (.int p1), .val (.int p2), .val (.int p3), .val (.int p4), .val (.int (3 : Int32)), .val (.ref b385), .val (.int u401), .val (.ref a413), .unset, .unset, .unset, .unset, .unset] [(.ref a413)]))) (fun _ k => XS.aload X425.here hx rfl (hb hby at_36) rfl rfl k) ?_
    refine oCallVW (y := (⟨"com/example/deadlock_to_diagnosis/deadlocktodiagnosis/reader/LineScanner", "atEnd", "()Z"⟩ : MethodName)) (z := (⟨"com/example/deadlock_to_diagnosis/deadlocktodiagnosis/reader/LineScanner", "atEnd", "()Z"⟩ : MethodName)) X425 hx hZ hown (hw _ (List.mem_of_getElem? (i := 36) rfl)) (hw _ (List.mem_of_getElem? (i := 37) rfl)) (hw _ (List.mem_of_getElem? (i := 39) rfl)) (hw _ (List.mem_of_getElem? (i := 38) rfl)) (hw _ (List.mem_of_getElem? (i := 29) rfl)) (hw _ (List.mem_of_getElem? (i := 40) rfl)) (by decide) (rmAE l Z a0 hw a413 T423.heap n0 Z439 cs hcs S432 b385 (0 : Int32) (3 : Int32) F435 E429 F430 F431) rfl E429 [] [] rfl rfl (by rw [hml]; rfl) (notFace_of_selects (args := #[]) (mvT hZ (hw _ (List.mem_of_getElem? (i := 39) rfl)))) (lenOf own_pd___Z rfl) 0 (Nat.le_of_eq rfl) (by decide) (by decide) (by decide) (by decide) (hb hby at_38) ?_
    intro v440 T441 L442 X443 q444
    obtain ⟨rfl, N445, e446⟩ := q444
    have N447 := Fr.app N433 N445
    show OGoalW p e below s _ _ _ (T441.setTop (mkF m 41 #[.val (.int p1), .val (.int p2), .val (.int p3), .val (.int p4), .val (.int (3 : Int32)), .val (.ref b385), .val (.int u401), .val (.ref a413), .unset, .unset, .unset, .unset, .unset] [(.int (own_ae (0 : Int32) (3 : Int32)))]))
    refine OGoalW.mp (S' := (T441.setTop (mkF m 43 #[.val (.int p1), .val (.int p2), .val (.int p3), .val (.int p4), .val (.int (3 : Int32)), .val (.ref b385), .val (.int u401), .val (.ref a413), .unset, .unset, .unset, .unset, .unset] [(.int (3 : Int32)), (.int (own_ae (0 : Int32) (3 : Int32)))]))) (fun _ k => XS.iload X443.here hx rfl (hb hby at_41) rfl k) ?_
    have hd448 : ¬ ((3 : Int32) = 0) := mNe (by omega)
    refine OGoalW.mp (S' := (T441.setTop (mkF m 50 #[.val (.int p1), .val (.int p2), .val (.int p3), .val (.int p4), .val (.int (3 : Int32)), .val (.ref b385), .val (.int u401), .val (.ref a413), .unset, .unset, .unset, .unset, .unset] [(.int (own_ae (0 : Int32) (3 : Int32)))]))) (fun _ k => XS.ifYes X443.here hx rfl (pc0 := 43) (pc' := 50) rfl (hb hby at_43) rfl (XT.i0_ne_t hd448) (by decide) (by decide) k) ?_
    refine OGoalW.mp (S' := (T441.setTop (mkF m 51 #[.val (.int p1), .val (.int p2), .val (.int p3), .val (.int p4), .val (.int (3 : Int32)), .val (.ref b385), .val (.int u401), .val (.ref a413), .unset, .unset, .unset, .unset, .unset] [(.int (0 : Int32)), (.int (own_ae (0 : Int32) (3 : Int32)))]))) (fun _ k => XS.iconst X443.here hx rfl (hb hby at_50) k) ?_
    refine OGoalW.mp (S' := (T441.setTop (mkF m 54 #[.val (.int p1), .val (.int p2), .val (.int p3), .val (.int p4), .val (.int (3 : Int32)), .val (.ref b385), .val (.int u401), .val (.ref a413), .unset, .unset, .unset, .unset, .unset] []))) (fun _ k => XS.icmpNo X443.here hx rfl (hb hby at_51) rfl (XT.ii_ne_f (by decide)) k) ?_
    refine OGoalW.mp (S' := (T441.setTop (mkF m 55 #[.val (.int p1), .val (.int p2), .val (.int p3), .val (.int p4), .val (.int (3 : Int32)), .val (.ref b385), .val (.int u401), .val (.ref a413), .unset, .unset, .unset, .unset, .unset] [(.int (1 : Int32))]))) (fun _ k => XS.iconst X443.here hx rfl (hb hby at_54) k) ?_
    refine OGoalW.mp (S' := (T441.setTop (mkF m 59 #[.val (.int p1), .val (.int p2), .val (.int p3), .val (.int p4), .val (.int (3 : Int32)), .val (.ref b385), .val (.int u401), .val (.ref a413), .unset, .unset, .unset, .unset, .unset] [(.int (1 : Int32))]))) (fun _ k => XS.goto X443.here hx rfl (pc0 := 55) (pc' := 59) rfl (hb hby at_55) (by decide) (by decide) k) ?_
    refine OGoalW.mp (S' := (T441.setTop (mkF m 61 #[.val (.int p1), .val (.int p2), .val (.int p3), .val (.int p4), .val (.int (3 : Int32)), .val (.ref b385), .val (.int u401), .val (.ref a413), .val (.int (1 : Int32)), .unset, .unset, .unset, .unset] []))) (fun _ k => XS.istore X443.here hx rfl (hb hby at_59) rfl (l' := #[.val (.int p1), .val (.int p2), .val (.int p3), .val (.int p4), .val (.int (3 : Int32)), .val (.ref b385), .val (.int u401), .val (.ref a413), .val (.int (1 : Int32)), .unset, .unset, .unset, .unset]) rfl k) ?_
    refine OGoalW.mp (S' := (T441.setTop (mkF m 63 #[.val (.int p1), .val (.int p2), .val (.int p3), .val (.int p4), .val (.int (3 : Int32)), .val (.ref b385), .val (.int u401), .val (.ref a413), .val (.int (1 : Int32)), .unset, .unset, .unset, .unset] [(.ref a413)]))) (fun _ k => XS.aload X443.here hx rfl (hb hby at_61) rfl rfl k) ?_
    refine OGoalW.mp (S' := (T441.setTop (mkF m 65 #[.val (.int p1), .val (.int p2), .val (.int p3), .val (.int p4), .val (.int (3 : Int32)), .val (.ref b385), .val (.int u401), .val (.ref a413), .val (.int (1 : Int32)), .unset, .unset, .unset, .unset] [(.int u401), (.ref a413)]))) (fun _ k => XS.iload X443.here hx rfl (hb hby at_63) rfl k) ?_
    refine oCallVW (y := (⟨"com/example/deadlock_to_diagnosis/deadlocktodiagnosis/reader/LineScanner", "moveTo", "(I)V"⟩ : MethodName)) (z := (⟨"com/example/deadlock_to_diagnosis/deadlocktodiagnosis/reader/LineScanner", "moveTo", "(I)V"⟩ : MethodName)) X443 hx hZ hown (hw _ (List.mem_of_getElem? (i := 54) rfl)) (hw _ (List.mem_of_getElem? (i := 55) rfl)) (hw _ (List.mem_of_getElem? (i := 57) rfl)) (hw _ (List.mem_of_getElem? (i := 56) rfl)) (hw _ (List.mem_of_getElem? (i := 29) rfl)) (hw _ (List.mem_of_getElem? (i := 58) rfl)) (by decide) (rmMv l Z a0 hw a413 u401 T423.heap n0 Z439 cs hcs S432 b385 (0 : Int32) E429 F430 F431 ab421) e446 E429 [(.int u401)] [] rfl rfl (by rw [hml]; rfl) (notFace_of_selects (args := #[]) (mvT hZ (hw _ (List.mem_of_getElem? (i := 57) rfl)))) (lenOf own_pd__I_V rfl) 0 (Nat.le_of_eq rfl) (by decide) (by decide) (by decide) (by decide) (hb hby at_65) ?_
    intro v449 T450 L451 X452 q453
    obtain ⟨rfl, N454, K455, E456, F457, F458, S459⟩ := q453
    have N460 := Fr.app N447 N454
    have F461 := F435.keep K455 E429 (hw _ (List.mem_of_getElem? (i := 28) rfl)) (Nat.ne_of_lt lt415)
    have Z466 : n0 ≤ T450.heap.size := Nat.le_trans Z439 K455.1
    show OGoalW p e below s _ _ _ (T450.setTop (mkF m 68 #[.val (.int p1), .val (.int p2), .val (.int p3), .val (.int p4), .val (.int (3 : Int32)), .val (.ref b385), .val (.int u401), .val (.ref a413), .val (.int (1 : Int32)), .unset, .unset, .unset, .unset] []))
    refine OGoalW.mp (S' := (T450.setTop (mkF m 70 #[.val (.int p1), .val (.int p2), .val (.int p3), .val (.int p4), .val (.int (3 : Int32)), .val (.ref b385), .val (.int u401), .val (.ref a413), .val (.int (1 : Int32)), .unset, .unset, .unset, .unset] [(.ref a413)]))) (fun _ k => XS.aload X452.here hx rfl (hb hby at_68) rfl rfl k) ?_
    refine oCallVW (y := (⟨"com/example/deadlock_to_diagnosis/deadlocktodiagnosis/reader/LineScanner", "atEnd", "()Z"⟩ : MethodName)) (z := (⟨"com/example/deadlock_to_diagnosis/deadlocktodiagnosis/reader/LineScanner", "atEnd", "()Z"⟩ : MethodName)) X452 hx hZ hown (hw _ (List.mem_of_getElem? (i := 36) rfl)) (hw _ (List.mem_of_getElem? (i := 37) rfl)) (hw _ (List.mem_of_getElem? (i := 39) rfl)) (hw _ (List.mem_of_getElem? (i := 38) rfl)) (hw _ (List.mem_of_getElem? (i := 29) rfl)) (hw _ (List.mem_of_getElem? (i := 40) rfl)) (by decide) (rmAE l Z a0 hw a413 T450.heap n0 Z466 cs hcs S459 b385 u401 (3 : Int32) F461 E456 F457 F458) rfl E456 [] [] rfl rfl (by rw [hml]; rfl) (notFace_of_selects (args := #[]) (mvT hZ (hw _ (List.mem_of_getElem? (i := 39) rfl)))) (lenOf own_pd___Z rfl) 0 (Nat.le_of_eq rfl) (by decide) (by decide) (by decide) (by decide) (hb hby at_70) ?_
    intro v467 T468 L469 X470 q471
    obtain ⟨rfl, N472, e473⟩ := q471
    have N474 := Fr.app N460 N472
    show OGoalW p e below s _ _ _ (T468.setTop (mkF m 73 #[.val (.int p1), .val (.int p2), .val (.int p3), .val (.int p4), .val (.int (3 : Int32)), .val (.ref b385), .val (.int u401), .val (.ref a413), .val (.int (1 : Int32)), .unset, .unset, .unset, .unset] [(.int (own_ae u401 (3 : Int32)))]))
    refine OGoalW.mp (S' := (T468.setTop (mkF m 75 #[.val (.int p1), .val (.int p2), .val (.int p3), .val (.int p4), .val (.int (3 : Int32)), .val (.ref b385), .val (.int u401), .val (.ref a413), .val (.int (1 : Int32)), .val (.int (own_ae u401 (3 : Int32))), .unset, .unset, .unset] []))) (fun _ k => XS.istore X470.here hx rfl (hb hby at_73) rfl (l' := #[.val (.int p1), .val (.int p2), .val (.int p3), .val (.int p4), .val (.int (3 : Int32)), .val (.ref b385), .val (.int u401), .val (.ref a413), .val (.int (1 : Int32)), .val (.int (own_ae u401 (3 : Int32))), .unset, .unset, .unset]) rfl k) ?_
    refine OGoalW.mp (S' := (T468.setTop (mkF m 77 #[.val (.int p1), .val (.int p2), .val (.int p3), .val (.int p4), .val (.int (3 : Int32)), .val (.ref b385), .val (.int u401), .val (.ref a413), .val (.int (1 : Int32)), .val (.int (own_ae u401 (3 : Int32))), .unset, .unset, .unset] [(.int (own_ae u401 (3 : Int32)))]))) (fun _ k => XS.iload X470.here hx rfl (hb hby at_75) rfl k) ?_
    refine OGoalW.mp (S' := (T468.setTop (mkF m 79 #[.val (.int p1), .val (.int p2), .val (.int p3), .val (.int p4), .val (.int (3 : Int32)), .val (.ref b385), .val (.int u401), .val (.ref a413), .val (.int (1 : Int32)), .val (.int (own_ae u401 (3 : Int32))), .unset, .unset, .unset] [(.int u401), (.int (own_ae u401 (3 : Int32)))]))) (fun _ k => XS.iload X470.here hx rfl (hb hby at_77) rfl k) ?_
    refine OGoalW.mp (S' := (T468.setTop (mkF m 81 #[.val (.int p1), .val (.int p2), .val (.int p3), .val (.int p4), .val (.int (3 : Int32)), .val (.ref b385), .val (.int u401), .val (.ref a413), .val (.int (1 : Int32)), .val (.int (own_ae u401 (3 : Int32))), .unset, .unset, .unset] [(.int (3 : Int32)), (.int u401), (.int (own_ae u401 (3 : Int32)))]))) (fun _ k => XS.iload X470.here hx rfl (hb hby at_79) rfl k) ?_
    by_cases hc475 : u401 = (3 : Int32)
    · have g476 := oEq hc475
      refine OGoalW.mp (S' := (T468.setTop (mkF m 84 #[.val (.int p1), .val (.int p2), .val (.int p3), .val (.int p4), .val (.int (3 : Int32)), .val (.ref b385), .val (.int u401), .val (.ref a413), .val (.int (1 : Int32)), .val (.int (own_ae u401 (3 : Int32))), .unset, .unset, .unset] [(.int (own_ae u401 (3 : Int32)))]))) (fun _ k => XS.icmpNo X470.here hx rfl (hb hby at_81) rfl (XT.ii_ne_f hc475) k) ?_
      refine OGoalW.mp (S' := (T468.setTop (mkF m 85 #[.val (.int p1), .val (.int p2), .val (.int p3), .val (.int p4), .val (.int (3 : Int32)), .val (.ref b385), .val (.int u401), .val (.ref a413), .val (.int (1 : Int32)), .val (.int (own_ae u401 (3 : Int32))), .unset, .unset, .unset] [(.int (1 : Int32)), (.int (own_ae u401 (3 : Int32)))]))) (fun _ k => XS.iconst X470.here hx rfl (hb hby at_84) k) ?_
      refine OGoalW.mp (S' := (T468.setTop (mkF m 89 #[.val (.int p1), .val (.int p2), .val (.int p3), .val (.int p4), .val (.int (3 : Int32)), .val (.ref b385), .val (.int u401), .val (.ref a413), .val (.int (1 : Int32)), .val (.int (own_ae u401 (3 : Int32))), .unset, .unset, .unset] [(.int (1 : Int32)), (.int (own_ae u401 (3 : Int32)))]))) (fun _ k => XS.goto X470.here hx rfl (pc0 := 85) (pc' := 89) rfl (hb hby at_85) (by decide) (by decide) k) ?_
      refine OGoalW.mp (S' := (T468.setTop (mkF m 92 #[.val (.int p1), .val (.int p2), .val (.int p3), .val (.int p4), .val (.int (3 : Int32)), .val (.ref b385), .val (.int u401), .val (.ref a413), .val (.int (1 : Int32)), .val (.int (own_ae u401 (3 : Int32))), .unset, .unset, .unset] []))) (fun _ k => XS.icmpNo X470.here hx rfl (hb hby at_89) rfl (XT.ii_ne_f (by unfold own_ae; rw [if_pos hc475])) k) ?_
      refine OGoalW.mp (S' := (T468.setTop (mkF m 93 #[.val (.int p1), .val (.int p2), .val (.int p3), .val (.int p4), .val (.int (3 : Int32)), .val (.ref b385), .val (.int u401), .val (.ref a413), .val (.int (1 : Int32)), .val (.int (own_ae u401 (3 : Int32))), .unset, .unset, .unset] [(.int (1 : Int32))]))) (fun _ k => XS.iconst X470.here hx rfl (hb hby at_92) k) ?_
      refine OGoalW.mp (S' := (T468.setTop (mkF m 97 #[.val (.int p1), .val (.int p2), .val (.int p3), .val (.int p4), .val (.int (3 : Int32)), .val (.ref b385), .val (.int u401), .val (.ref a413), .val (.int (1 : Int32)), .val (.int (own_ae u401 (3 : Int32))), .unset, .unset, .unset] [(.int (1 : Int32))]))) (fun _ k => XS.goto X470.here hx rfl (pc0 := 93) (pc' := 97) rfl (hb hby at_93) (by decide) (by decide) k) ?_
      refine OGoalW.mp (S' := (T468.setTop (mkF m 99 #[.val (.int p1), .val (.int p2), .val (.int p3), .val (.int p4), .val (.int (3 : Int32)), .val (.ref b385), .val (.int u401), .val (.ref a413), .val (.int (1 : Int32)), .val (.int (own_ae u401 (3 : Int32))), .val (.int (1 : Int32)), .unset, .unset] []))) (fun _ k => XS.istore X470.here hx rfl (hb hby at_97) rfl (l' := #[.val (.int p1), .val (.int p2), .val (.int p3), .val (.int p4), .val (.int (3 : Int32)), .val (.ref b385), .val (.int u401), .val (.ref a413), .val (.int (1 : Int32)), .val (.int (own_ae u401 (3 : Int32))), .val (.int (1 : Int32)), .unset, .unset]) rfl k) ?_
      refine OGoalW.mp (S' := (T468.setTop (mkF m 101 #[.val (.int p1), .val (.int p2), .val (.int p3), .val (.int p4), .val (.int (3 : Int32)), .val (.ref b385), .val (.int u401), .val (.ref a413), .val (.int (1 : Int32)), .val (.int (own_ae u401 (3 : Int32))), .val (.int (1 : Int32)), .unset, .unset] [(.ref a413)]))) (fun _ k => XS.aload X470.here hx rfl (hb hby at_99) rfl rfl k) ?_
      refine oCallVW (y := (⟨"com/example/deadlock_to_diagnosis/deadlocktodiagnosis/reader/LineScanner", "atEnd", "()Z"⟩ : MethodName)) (z := (⟨"com/example/deadlock_to_diagnosis/deadlocktodiagnosis/reader/LineScanner", "atEnd", "()Z"⟩ : MethodName)) X470 hx hZ hown (hw _ (List.mem_of_getElem? (i := 36) rfl)) (hw _ (List.mem_of_getElem? (i := 37) rfl)) (hw _ (List.mem_of_getElem? (i := 39) rfl)) (hw _ (List.mem_of_getElem? (i := 38) rfl)) (hw _ (List.mem_of_getElem? (i := 29) rfl)) (hw _ (List.mem_of_getElem? (i := 40) rfl)) (by decide) (rmAE l Z a0 hw a413 T450.heap n0 Z466 cs hcs S459 b385 u401 (3 : Int32) F461 E456 F457 F458) e473 E456 [] [] rfl rfl (by rw [hml]; rfl) (notFace_of_selects (args := #[]) (mvT hZ (hw _ (List.mem_of_getElem? (i := 39) rfl)))) (lenOf own_pd___Z rfl) 0 (Nat.le_of_eq rfl) (by decide) (by decide) (by decide) (by decide) (hb hby at_101) ?_
      intro v477 T478 L479 X480 q481
      obtain ⟨rfl, N482, e483⟩ := q481
      have N484 := Fr.app N474 N482
      show OGoalW p e below s _ _ _ (T478.setTop (mkF m 104 #[.val (.int p1), .val (.int p2), .val (.int p3), .val (.int p4), .val (.int (3 : Int32)), .val (.ref b385), .val (.int u401), .val (.ref a413), .val (.int (1 : Int32)), .val (.int (own_ae u401 (3 : Int32))), .val (.int (1 : Int32)), .unset, .unset] [(.int (own_ae u401 (3 : Int32)))]))
      refine OGoalW.mp (S' := (T478.setTop (mkF m 106 #[.val (.int p1), .val (.int p2), .val (.int p3), .val (.int p4), .val (.int (3 : Int32)), .val (.ref b385), .val (.int u401), .val (.ref a413), .val (.int (1 : Int32)), .val (.int (own_ae u401 (3 : Int32))), .val (.int (1 : Int32)), .unset, .unset] [(.int (own_ae u401 (3 : Int32))), (.int (own_ae u401 (3 : Int32)))]))) (fun _ k => XS.iload X480.here hx rfl (hb hby at_104) rfl k) ?_
      refine OGoalW.mp (S' := (T478.setTop (mkF m 109 #[.val (.int p1), .val (.int p2), .val (.int p3), .val (.int p4), .val (.int (3 : Int32)), .val (.ref b385), .val (.int u401), .val (.ref a413), .val (.int (1 : Int32)), .val (.int (own_ae u401 (3 : Int32))), .val (.int (1 : Int32)), .unset, .unset] []))) (fun _ k => XS.icmpNo X480.here hx rfl (hb hby at_106) rfl (XT.ii_ne_f rfl) k) ?_
      refine OGoalW.mp (S' := (T478.setTop (mkF m 110 #[.val (.int p1), .val (.int p2), .val (.int p3), .val (.int p4), .val (.int (3 : Int32)), .val (.ref b385), .val (.int u401), .val (.ref a413), .val (.int (1 : Int32)), .val (.int (own_ae u401 (3 : Int32))), .val (.int (1 : Int32)), .unset, .unset] [(.int (1 : Int32))]))) (fun _ k => XS.iconst X480.here hx rfl (hb hby at_109) k) ?_
      refine OGoalW.mp (S' := (T478.setTop (mkF m 114 #[.val (.int p1), .val (.int p2), .val (.int p3), .val (.int p4), .val (.int (3 : Int32)), .val (.ref b385), .val (.int u401), .val (.ref a413), .val (.int (1 : Int32)), .val (.int (own_ae u401 (3 : Int32))), .val (.int (1 : Int32)), .unset, .unset] [(.int (1 : Int32))]))) (fun _ k => XS.goto X480.here hx rfl (pc0 := 110) (pc' := 114) rfl (hb hby at_110) (by decide) (by decide) k) ?_
      refine OGoalW.mp (S' := (T478.setTop (mkF m 116 #[.val (.int p1), .val (.int p2), .val (.int p3), .val (.int p4), .val (.int (3 : Int32)), .val (.ref b385), .val (.int u401), .val (.ref a413), .val (.int (1 : Int32)), .val (.int (own_ae u401 (3 : Int32))), .val (.int (1 : Int32)), .val (.int (1 : Int32)), .unset] []))) (fun _ k => XS.istore X480.here hx rfl (hb hby at_114) rfl (l' := #[.val (.int p1), .val (.int p2), .val (.int p3), .val (.int p4), .val (.int (3 : Int32)), .val (.ref b385), .val (.int u401), .val (.ref a413), .val (.int (1 : Int32)), .val (.int (own_ae u401 (3 : Int32))), .val (.int (1 : Int32)), .val (.int (1 : Int32)), .unset]) rfl k) ?_
      refine OGoalW.mp (S' := (T478.setTop (mkF m 118 #[.val (.int p1), .val (.int p2), .val (.int p3), .val (.int p4), .val (.int (3 : Int32)), .val (.ref b385), .val (.int u401), .val (.ref a413), .val (.int (1 : Int32)), .val (.int (own_ae u401 (3 : Int32))), .val (.int (1 : Int32)), .val (.int (1 : Int32)), .unset] [(.ref a413)]))) (fun _ k => XS.aload X480.here hx rfl (hb hby at_116) rfl rfl k) ?_
      refine oCallVW (y := (⟨"com/example/deadlock_to_diagnosis/deadlocktodiagnosis/reader/LineScanner", "position", "()I"⟩ : MethodName)) (z := (⟨"com/example/deadlock_to_diagnosis/deadlocktodiagnosis/reader/LineScanner", "position", "()I"⟩ : MethodName)) X480 hx hZ hown (hw _ (List.mem_of_getElem? (i := 59) rfl)) (hw _ (List.mem_of_getElem? (i := 60) rfl)) (hw _ (List.mem_of_getElem? (i := 62) rfl)) (hw _ (List.mem_of_getElem? (i := 61) rfl)) (hw _ (List.mem_of_getElem? (i := 29) rfl)) (hw _ (List.mem_of_getElem? (i := 63) rfl)) (by decide) (rmPo l Z a0 hw a413 T450.heap n0 Z466 u401 F458) e483 E456 [] [] rfl rfl (by rw [hml]; rfl) (notFace_of_selects (args := #[]) (mvT hZ (hw _ (List.mem_of_getElem? (i := 62) rfl)))) (lenOf own_pd___I rfl) 0 (Nat.le_of_eq rfl) (by decide) (by decide) (by decide) (by decide) (hb hby at_118) ?_
      intro v485 T486 L487 X488 q489
      obtain ⟨rfl, N490, e491⟩ := q489
      have N492 := Fr.app N484 N490
      show OGoalW p e below s _ _ _ (T486.setTop (mkF m 121 #[.val (.int p1), .val (.int p2), .val (.int p3), .val (.int p4), .val (.int (3 : Int32)), .val (.ref b385), .val (.int u401), .val (.ref a413), .val (.int (1 : Int32)), .val (.int (own_ae u401 (3 : Int32))), .val (.int (1 : Int32)), .val (.int (1 : Int32)), .unset] [(.int u401)]))
      refine OGoalW.mp (S' := (T486.setTop (mkF m 123 #[.val (.int p1), .val (.int p2), .val (.int p3), .val (.int p4), .val (.int (3 : Int32)), .val (.ref b385), .val (.int u401), .val (.ref a413), .val (.int (1 : Int32)), .val (.int (own_ae u401 (3 : Int32))), .val (.int (1 : Int32)), .val (.int (1 : Int32)), .unset] [(.int u401), (.int u401)]))) (fun _ k => XS.iload X488.here hx rfl (hb hby at_121) rfl k) ?_
      refine OGoalW.mp (S' := (T486.setTop (mkF m 126 #[.val (.int p1), .val (.int p2), .val (.int p3), .val (.int p4), .val (.int (3 : Int32)), .val (.ref b385), .val (.int u401), .val (.ref a413), .val (.int (1 : Int32)), .val (.int (own_ae u401 (3 : Int32))), .val (.int (1 : Int32)), .val (.int (1 : Int32)), .unset] []))) (fun _ k => XS.icmpNo X488.here hx rfl (hb hby at_123) rfl (XT.ii_ne_f rfl) k) ?_
      refine OGoalW.mp (S' := (T486.setTop (mkF m 127 #[.val (.int p1), .val (.int p2), .val (.int p3), .val (.int p4), .val (.int (3 : Int32)), .val (.ref b385), .val (.int u401), .val (.ref a413), .val (.int (1 : Int32)), .val (.int (own_ae u401 (3 : Int32))), .val (.int (1 : Int32)), .val (.int (1 : Int32)), .unset] [(.int (1 : Int32))]))) (fun _ k => XS.iconst X488.here hx rfl (hb hby at_126) k) ?_
      refine OGoalW.mp (S' := (T486.setTop (mkF m 131 #[.val (.int p1), .val (.int p2), .val (.int p3), .val (.int p4), .val (.int (3 : Int32)), .val (.ref b385), .val (.int u401), .val (.ref a413), .val (.int (1 : Int32)), .val (.int (own_ae u401 (3 : Int32))), .val (.int (1 : Int32)), .val (.int (1 : Int32)), .unset] [(.int (1 : Int32))]))) (fun _ k => XS.goto X488.here hx rfl (pc0 := 127) (pc' := 131) rfl (hb hby at_127) (by decide) (by decide) k) ?_
      refine OGoalW.mp (S' := (T486.setTop (mkF m 133 #[.val (.int p1), .val (.int p2), .val (.int p3), .val (.int p4), .val (.int (3 : Int32)), .val (.ref b385), .val (.int u401), .val (.ref a413), .val (.int (1 : Int32)), .val (.int (own_ae u401 (3 : Int32))), .val (.int (1 : Int32)), .val (.int (1 : Int32)), .val (.int (1 : Int32))] []))) (fun _ k => XS.istore X488.here hx rfl (hb hby at_131) rfl (l' := #[.val (.int p1), .val (.int p2), .val (.int p3), .val (.int p4), .val (.int (3 : Int32)), .val (.ref b385), .val (.int u401), .val (.ref a413), .val (.int (1 : Int32)), .val (.int (own_ae u401 (3 : Int32))), .val (.int (1 : Int32)), .val (.int (1 : Int32)), .val (.int (1 : Int32))]) rfl k) ?_
      refine OGoalW.mp (S' := (T486.setTop (mkF m 135 #[.val (.int p1), .val (.int p2), .val (.int p3), .val (.int p4), .val (.int (3 : Int32)), .val (.ref b385), .val (.int u401), .val (.ref a413), .val (.int (1 : Int32)), .val (.int (own_ae u401 (3 : Int32))), .val (.int (1 : Int32)), .val (.int (1 : Int32)), .val (.int (1 : Int32))] [(.int (1 : Int32))]))) (fun _ k => XS.iload X488.here hx rfl (hb hby at_133) rfl k) ?_
      have hd493 : ¬ ((1 : Int32) = 0) := mNe (by omega)
      refine OGoalW.mp (S' := (T486.setTop (mkF m 138 #[.val (.int p1), .val (.int p2), .val (.int p3), .val (.int p4), .val (.int (3 : Int32)), .val (.ref b385), .val (.int u401), .val (.ref a413), .val (.int (1 : Int32)), .val (.int (own_ae u401 (3 : Int32))), .val (.int (1 : Int32)), .val (.int (1 : Int32)), .val (.int (1 : Int32))] []))) (fun _ k => XS.ifNo X488.here hx rfl (hb hby at_135) rfl (XT.i0_eq_f hd493) k) ?_
      refine OGoalW.mp (S' := (T486.setTop (mkF m 140 #[.val (.int p1), .val (.int p2), .val (.int p3), .val (.int p4), .val (.int (3 : Int32)), .val (.ref b385), .val (.int u401), .val (.ref a413), .val (.int (1 : Int32)), .val (.int (own_ae u401 (3 : Int32))), .val (.int (1 : Int32)), .val (.int (1 : Int32)), .val (.int (1 : Int32))] [(.int (1 : Int32))]))) (fun _ k => XS.iload X488.here hx rfl (hb hby at_138) rfl k) ?_
      have hd494 : ¬ ((1 : Int32) = 0) := mNe (by omega)
      refine OGoalW.mp (S' := (T486.setTop (mkF m 143 #[.val (.int p1), .val (.int p2), .val (.int p3), .val (.int p4), .val (.int (3 : Int32)), .val (.ref b385), .val (.int u401), .val (.ref a413), .val (.int (1 : Int32)), .val (.int (own_ae u401 (3 : Int32))), .val (.int (1 : Int32)), .val (.int (1 : Int32)), .val (.int (1 : Int32))] []))) (fun _ k => XS.ifNo X488.here hx rfl (hb hby at_140) rfl (XT.i0_eq_f hd494) k) ?_
      refine OGoalW.mp (S' := (T486.setTop (mkF m 145 #[.val (.int p1), .val (.int p2), .val (.int p3), .val (.int p4), .val (.int (3 : Int32)), .val (.ref b385), .val (.int u401), .val (.ref a413), .val (.int (1 : Int32)), .val (.int (own_ae u401 (3 : Int32))), .val (.int (1 : Int32)), .val (.int (1 : Int32)), .val (.int (1 : Int32))] [(.int (1 : Int32))]))) (fun _ k => XS.iload X488.here hx rfl (hb hby at_143) rfl k) ?_
      have hd495 : ¬ ((1 : Int32) = 0) := mNe (by omega)
      refine OGoalW.mp (S' := (T486.setTop (mkF m 148 #[.val (.int p1), .val (.int p2), .val (.int p3), .val (.int p4), .val (.int (3 : Int32)), .val (.ref b385), .val (.int u401), .val (.ref a413), .val (.int (1 : Int32)), .val (.int (own_ae u401 (3 : Int32))), .val (.int (1 : Int32)), .val (.int (1 : Int32)), .val (.int (1 : Int32))] []))) (fun _ k => XS.ifNo X488.here hx rfl (hb hby at_145) rfl (XT.i0_eq_f hd495) k) ?_
      refine OGoalW.mp (S' := (T486.setTop (mkF m 150 #[.val (.int p1), .val (.int p2), .val (.int p3), .val (.int p4), .val (.int (3 : Int32)), .val (.ref b385), .val (.int u401), .val (.ref a413), .val (.int (1 : Int32)), .val (.int (own_ae u401 (3 : Int32))), .val (.int (1 : Int32)), .val (.int (1 : Int32)), .val (.int (1 : Int32))] [(.int (1 : Int32))]))) (fun _ k => XS.iload X488.here hx rfl (hb hby at_148) rfl k) ?_
      have hd496 : ¬ ((1 : Int32) = 0) := mNe (by omega)
      refine OGoalW.mp (S' := (T486.setTop (mkF m 153 #[.val (.int p1), .val (.int p2), .val (.int p3), .val (.int p4), .val (.int (3 : Int32)), .val (.ref b385), .val (.int u401), .val (.ref a413), .val (.int (1 : Int32)), .val (.int (own_ae u401 (3 : Int32))), .val (.int (1 : Int32)), .val (.int (1 : Int32)), .val (.int (1 : Int32))] []))) (fun _ k => XS.ifNo X488.here hx rfl (hb hby at_150) rfl (XT.i0_eq_f hd496) k) ?_
      refine OGoalW.mp (S' := (T486.setTop (mkF m 154 #[.val (.int p1), .val (.int p2), .val (.int p3), .val (.int p4), .val (.int (3 : Int32)), .val (.ref b385), .val (.int u401), .val (.ref a413), .val (.int (1 : Int32)), .val (.int (own_ae u401 (3 : Int32))), .val (.int (1 : Int32)), .val (.int (1 : Int32)), .val (.int (1 : Int32))] [(.int (1 : Int32))]))) (fun _ k => XS.iconst X488.here hx rfl (hb hby at_153) k) ?_
      refine OGoalW.mp (S' := (T486.setTop (mkF m 158 #[.val (.int p1), .val (.int p2), .val (.int p3), .val (.int p4), .val (.int (3 : Int32)), .val (.ref b385), .val (.int u401), .val (.ref a413), .val (.int (1 : Int32)), .val (.int (own_ae u401 (3 : Int32))), .val (.int (1 : Int32)), .val (.int (1 : Int32)), .val (.int (1 : Int32))] [(.int (1 : Int32))]))) (fun _ k => XS.goto X488.here hx rfl (pc0 := 154) (pc' := 158) rfl (hb hby at_154) (by decide) (by decide) k) ?_
      refine oRetZW X488 hS0 (Nat.le_trans (Nat.le_trans (Nat.le_trans (Nat.le_trans (Nat.le_trans (Nat.le_of_eq (congrArg Array.size hsh)) K392.1) E410.1) K428.1) K455.1) (Nat.le_of_eq (congrArg Array.size e491).symm)) hx hlk hret (Or.inr rfl) (hb hby at_158) ?_ (by decide) (by decide)
      exact ⟨rfl, N492⟩
    · have g497 := oNe hc475
      refine OGoalW.mp (S' := (T468.setTop (mkF m 88 #[.val (.int p1), .val (.int p2), .val (.int p3), .val (.int p4), .val (.int (3 : Int32)), .val (.ref b385), .val (.int u401), .val (.ref a413), .val (.int (1 : Int32)), .val (.int (own_ae u401 (3 : Int32))), .unset, .unset, .unset] [(.int (own_ae u401 (3 : Int32)))]))) (fun _ k => XS.icmpYes X470.here hx rfl (pc0 := 81) (pc' := 88) rfl (hb hby at_81) rfl (XT.ii_ne_t hc475) (by decide) (by decide) k) ?_
      refine OGoalW.mp (S' := (T468.setTop (mkF m 89 #[.val (.int p1), .val (.int p2), .val (.int p3), .val (.int p4), .val (.int (3 : Int32)), .val (.ref b385), .val (.int u401), .val (.ref a413), .val (.int (1 : Int32)), .val (.int (own_ae u401 (3 : Int32))), .unset, .unset, .unset] [(.int (0 : Int32)), (.int (own_ae u401 (3 : Int32)))]))) (fun _ k => XS.iconst X470.here hx rfl (hb hby at_88) k) ?_
      refine OGoalW.mp (S' := (T468.setTop (mkF m 92 #[.val (.int p1), .val (.int p2), .val (.int p3), .val (.int p4), .val (.int (3 : Int32)), .val (.ref b385), .val (.int u401), .val (.ref a413), .val (.int (1 : Int32)), .val (.int (own_ae u401 (3 : Int32))), .unset, .unset, .unset] []))) (fun _ k => XS.icmpNo X470.here hx rfl (hb hby at_89) rfl (XT.ii_ne_f (by unfold own_ae; rw [if_neg hc475])) k) ?_
      refine OGoalW.mp (S' := (T468.setTop (mkF m 93 #[.val (.int p1), .val (.int p2), .val (.int p3), .val (.int p4), .val (.int (3 : Int32)), .val (.ref b385), .val (.int u401), .val (.ref a413), .val (.int (1 : Int32)), .val (.int (own_ae u401 (3 : Int32))), .unset, .unset, .unset] [(.int (1 : Int32))]))) (fun _ k => XS.iconst X470.here hx rfl (hb hby at_92) k) ?_
      refine OGoalW.mp (S' := (T468.setTop (mkF m 97 #[.val (.int p1), .val (.int p2), .val (.int p3), .val (.int p4), .val (.int (3 : Int32)), .val (.ref b385), .val (.int u401), .val (.ref a413), .val (.int (1 : Int32)), .val (.int (own_ae u401 (3 : Int32))), .unset, .unset, .unset] [(.int (1 : Int32))]))) (fun _ k => XS.goto X470.here hx rfl (pc0 := 93) (pc' := 97) rfl (hb hby at_93) (by decide) (by decide) k) ?_
      refine OGoalW.mp (S' := (T468.setTop (mkF m 99 #[.val (.int p1), .val (.int p2), .val (.int p3), .val (.int p4), .val (.int (3 : Int32)), .val (.ref b385), .val (.int u401), .val (.ref a413), .val (.int (1 : Int32)), .val (.int (own_ae u401 (3 : Int32))), .val (.int (1 : Int32)), .unset, .unset] []))) (fun _ k => XS.istore X470.here hx rfl (hb hby at_97) rfl (l' := #[.val (.int p1), .val (.int p2), .val (.int p3), .val (.int p4), .val (.int (3 : Int32)), .val (.ref b385), .val (.int u401), .val (.ref a413), .val (.int (1 : Int32)), .val (.int (own_ae u401 (3 : Int32))), .val (.int (1 : Int32)), .unset, .unset]) rfl k) ?_
      refine OGoalW.mp (S' := (T468.setTop (mkF m 101 #[.val (.int p1), .val (.int p2), .val (.int p3), .val (.int p4), .val (.int (3 : Int32)), .val (.ref b385), .val (.int u401), .val (.ref a413), .val (.int (1 : Int32)), .val (.int (own_ae u401 (3 : Int32))), .val (.int (1 : Int32)), .unset, .unset] [(.ref a413)]))) (fun _ k => XS.aload X470.here hx rfl (hb hby at_99) rfl rfl k) ?_
      refine oCallVW (y := (⟨"com/example/deadlock_to_diagnosis/deadlocktodiagnosis/reader/LineScanner", "atEnd", "()Z"⟩ : MethodName)) (z := (⟨"com/example/deadlock_to_diagnosis/deadlocktodiagnosis/reader/LineScanner", "atEnd", "()Z"⟩ : MethodName)) X470 hx hZ hown (hw _ (List.mem_of_getElem? (i := 36) rfl)) (hw _ (List.mem_of_getElem? (i := 37) rfl)) (hw _ (List.mem_of_getElem? (i := 39) rfl)) (hw _ (List.mem_of_getElem? (i := 38) rfl)) (hw _ (List.mem_of_getElem? (i := 29) rfl)) (hw _ (List.mem_of_getElem? (i := 40) rfl)) (by decide) (rmAE l Z a0 hw a413 T450.heap n0 Z466 cs hcs S459 b385 u401 (3 : Int32) F461 E456 F457 F458) e473 E456 [] [] rfl rfl (by rw [hml]; rfl) (notFace_of_selects (args := #[]) (mvT hZ (hw _ (List.mem_of_getElem? (i := 39) rfl)))) (lenOf own_pd___Z rfl) 0 (Nat.le_of_eq rfl) (by decide) (by decide) (by decide) (by decide) (hb hby at_101) ?_
      intro v498 T499 L500 X501 q502
      obtain ⟨rfl, N503, e504⟩ := q502
      have N505 := Fr.app N474 N503
      show OGoalW p e below s _ _ _ (T499.setTop (mkF m 104 #[.val (.int p1), .val (.int p2), .val (.int p3), .val (.int p4), .val (.int (3 : Int32)), .val (.ref b385), .val (.int u401), .val (.ref a413), .val (.int (1 : Int32)), .val (.int (own_ae u401 (3 : Int32))), .val (.int (1 : Int32)), .unset, .unset] [(.int (own_ae u401 (3 : Int32)))]))
      refine OGoalW.mp (S' := (T499.setTop (mkF m 106 #[.val (.int p1), .val (.int p2), .val (.int p3), .val (.int p4), .val (.int (3 : Int32)), .val (.ref b385), .val (.int u401), .val (.ref a413), .val (.int (1 : Int32)), .val (.int (own_ae u401 (3 : Int32))), .val (.int (1 : Int32)), .unset, .unset] [(.int (own_ae u401 (3 : Int32))), (.int (own_ae u401 (3 : Int32)))]))) (fun _ k => XS.iload X501.here hx rfl (hb hby at_104) rfl k) ?_
      refine OGoalW.mp (S' := (T499.setTop (mkF m 109 #[.val (.int p1), .val (.int p2), .val (.int p3), .val (.int p4), .val (.int (3 : Int32)), .val (.ref b385), .val (.int u401), .val (.ref a413), .val (.int (1 : Int32)), .val (.int (own_ae u401 (3 : Int32))), .val (.int (1 : Int32)), .unset, .unset] []))) (fun _ k => XS.icmpNo X501.here hx rfl (hb hby at_106) rfl (XT.ii_ne_f rfl) k) ?_
      refine OGoalW.mp (S' := (T499.setTop (mkF m 110 #[.val (.int p1), .val (.int p2), .val (.int p3), .val (.int p4), .val (.int (3 : Int32)), .val (.ref b385), .val (.int u401), .val (.ref a413), .val (.int (1 : Int32)), .val (.int (own_ae u401 (3 : Int32))), .val (.int (1 : Int32)), .unset, .unset] [(.int (1 : Int32))]))) (fun _ k => XS.iconst X501.here hx rfl (hb hby at_109) k) ?_
      refine OGoalW.mp (S' := (T499.setTop (mkF m 114 #[.val (.int p1), .val (.int p2), .val (.int p3), .val (.int p4), .val (.int (3 : Int32)), .val (.ref b385), .val (.int u401), .val (.ref a413), .val (.int (1 : Int32)), .val (.int (own_ae u401 (3 : Int32))), .val (.int (1 : Int32)), .unset, .unset] [(.int (1 : Int32))]))) (fun _ k => XS.goto X501.here hx rfl (pc0 := 110) (pc' := 114) rfl (hb hby at_110) (by decide) (by decide) k) ?_
      refine OGoalW.mp (S' := (T499.setTop (mkF m 116 #[.val (.int p1), .val (.int p2), .val (.int p3), .val (.int p4), .val (.int (3 : Int32)), .val (.ref b385), .val (.int u401), .val (.ref a413), .val (.int (1 : Int32)), .val (.int (own_ae u401 (3 : Int32))), .val (.int (1 : Int32)), .val (.int (1 : Int32)), .unset] []))) (fun _ k => XS.istore X501.here hx rfl (hb hby at_114) rfl (l' := #[.val (.int p1), .val (.int p2), .val (.int p3), .val (.int p4), .val (.int (3 : Int32)), .val (.ref b385), .val (.int u401), .val (.ref a413), .val (.int (1 : Int32)), .val (.int (own_ae u401 (3 : Int32))), .val (.int (1 : Int32)), .val (.int (1 : Int32)), .unset]) rfl k) ?_
      refine OGoalW.mp (S' := (T499.setTop (mkF m 118 #[.val (.int p1), .val (.int p2), .val (.int p3), .val (.int p4), .val (.int (3 : Int32)), .val (.ref b385), .val (.int u401), .val (.ref a413), .val (.int (1 : Int32)), .val (.int (own_ae u401 (3 : Int32))), .val (.int (1 : Int32)), .val (.int (1 : Int32)), .unset] [(.ref a413)]))) (fun _ k => XS.aload X501.here hx rfl (hb hby at_116) rfl rfl k) ?_
      refine oCallVW (y := (⟨"com/example/deadlock_to_diagnosis/deadlocktodiagnosis/reader/LineScanner", "position", "()I"⟩ : MethodName)) (z := (⟨"com/example/deadlock_to_diagnosis/deadlocktodiagnosis/reader/LineScanner", "position", "()I"⟩ : MethodName)) X501 hx hZ hown (hw _ (List.mem_of_getElem? (i := 59) rfl)) (hw _ (List.mem_of_getElem? (i := 60) rfl)) (hw _ (List.mem_of_getElem? (i := 62) rfl)) (hw _ (List.mem_of_getElem? (i := 61) rfl)) (hw _ (List.mem_of_getElem? (i := 29) rfl)) (hw _ (List.mem_of_getElem? (i := 63) rfl)) (by decide) (rmPo l Z a0 hw a413 T450.heap n0 Z466 u401 F458) e504 E456 [] [] rfl rfl (by rw [hml]; rfl) (notFace_of_selects (args := #[]) (mvT hZ (hw _ (List.mem_of_getElem? (i := 62) rfl)))) (lenOf own_pd___I rfl) 0 (Nat.le_of_eq rfl) (by decide) (by decide) (by decide) (by decide) (hb hby at_118) ?_
      intro v506 T507 L508 X509 q510
      obtain ⟨rfl, N511, e512⟩ := q510
      have N513 := Fr.app N505 N511
      show OGoalW p e below s _ _ _ (T507.setTop (mkF m 121 #[.val (.int p1), .val (.int p2), .val (.int p3), .val (.int p4), .val (.int (3 : Int32)), .val (.ref b385), .val (.int u401), .val (.ref a413), .val (.int (1 : Int32)), .val (.int (own_ae u401 (3 : Int32))), .val (.int (1 : Int32)), .val (.int (1 : Int32)), .unset] [(.int u401)]))
      refine OGoalW.mp (S' := (T507.setTop (mkF m 123 #[.val (.int p1), .val (.int p2), .val (.int p3), .val (.int p4), .val (.int (3 : Int32)), .val (.ref b385), .val (.int u401), .val (.ref a413), .val (.int (1 : Int32)), .val (.int (own_ae u401 (3 : Int32))), .val (.int (1 : Int32)), .val (.int (1 : Int32)), .unset] [(.int u401), (.int u401)]))) (fun _ k => XS.iload X509.here hx rfl (hb hby at_121) rfl k) ?_
      refine OGoalW.mp (S' := (T507.setTop (mkF m 126 #[.val (.int p1), .val (.int p2), .val (.int p3), .val (.int p4), .val (.int (3 : Int32)), .val (.ref b385), .val (.int u401), .val (.ref a413), .val (.int (1 : Int32)), .val (.int (own_ae u401 (3 : Int32))), .val (.int (1 : Int32)), .val (.int (1 : Int32)), .unset] []))) (fun _ k => XS.icmpNo X509.here hx rfl (hb hby at_123) rfl (XT.ii_ne_f rfl) k) ?_
      refine OGoalW.mp (S' := (T507.setTop (mkF m 127 #[.val (.int p1), .val (.int p2), .val (.int p3), .val (.int p4), .val (.int (3 : Int32)), .val (.ref b385), .val (.int u401), .val (.ref a413), .val (.int (1 : Int32)), .val (.int (own_ae u401 (3 : Int32))), .val (.int (1 : Int32)), .val (.int (1 : Int32)), .unset] [(.int (1 : Int32))]))) (fun _ k => XS.iconst X509.here hx rfl (hb hby at_126) k) ?_
      refine OGoalW.mp (S' := (T507.setTop (mkF m 131 #[.val (.int p1), .val (.int p2), .val (.int p3), .val (.int p4), .val (.int (3 : Int32)), .val (.ref b385), .val (.int u401), .val (.ref a413), .val (.int (1 : Int32)), .val (.int (own_ae u401 (3 : Int32))), .val (.int (1 : Int32)), .val (.int (1 : Int32)), .unset] [(.int (1 : Int32))]))) (fun _ k => XS.goto X509.here hx rfl (pc0 := 127) (pc' := 131) rfl (hb hby at_127) (by decide) (by decide) k) ?_
      refine OGoalW.mp (S' := (T507.setTop (mkF m 133 #[.val (.int p1), .val (.int p2), .val (.int p3), .val (.int p4), .val (.int (3 : Int32)), .val (.ref b385), .val (.int u401), .val (.ref a413), .val (.int (1 : Int32)), .val (.int (own_ae u401 (3 : Int32))), .val (.int (1 : Int32)), .val (.int (1 : Int32)), .val (.int (1 : Int32))] []))) (fun _ k => XS.istore X509.here hx rfl (hb hby at_131) rfl (l' := #[.val (.int p1), .val (.int p2), .val (.int p3), .val (.int p4), .val (.int (3 : Int32)), .val (.ref b385), .val (.int u401), .val (.ref a413), .val (.int (1 : Int32)), .val (.int (own_ae u401 (3 : Int32))), .val (.int (1 : Int32)), .val (.int (1 : Int32)), .val (.int (1 : Int32))]) rfl k) ?_
      refine OGoalW.mp (S' := (T507.setTop (mkF m 135 #[.val (.int p1), .val (.int p2), .val (.int p3), .val (.int p4), .val (.int (3 : Int32)), .val (.ref b385), .val (.int u401), .val (.ref a413), .val (.int (1 : Int32)), .val (.int (own_ae u401 (3 : Int32))), .val (.int (1 : Int32)), .val (.int (1 : Int32)), .val (.int (1 : Int32))] [(.int (1 : Int32))]))) (fun _ k => XS.iload X509.here hx rfl (hb hby at_133) rfl k) ?_
      have hd514 : ¬ ((1 : Int32) = 0) := mNe (by omega)
      refine OGoalW.mp (S' := (T507.setTop (mkF m 138 #[.val (.int p1), .val (.int p2), .val (.int p3), .val (.int p4), .val (.int (3 : Int32)), .val (.ref b385), .val (.int u401), .val (.ref a413), .val (.int (1 : Int32)), .val (.int (own_ae u401 (3 : Int32))), .val (.int (1 : Int32)), .val (.int (1 : Int32)), .val (.int (1 : Int32))] []))) (fun _ k => XS.ifNo X509.here hx rfl (hb hby at_135) rfl (XT.i0_eq_f hd514) k) ?_
      refine OGoalW.mp (S' := (T507.setTop (mkF m 140 #[.val (.int p1), .val (.int p2), .val (.int p3), .val (.int p4), .val (.int (3 : Int32)), .val (.ref b385), .val (.int u401), .val (.ref a413), .val (.int (1 : Int32)), .val (.int (own_ae u401 (3 : Int32))), .val (.int (1 : Int32)), .val (.int (1 : Int32)), .val (.int (1 : Int32))] [(.int (1 : Int32))]))) (fun _ k => XS.iload X509.here hx rfl (hb hby at_138) rfl k) ?_
      have hd515 : ¬ ((1 : Int32) = 0) := mNe (by omega)
      refine OGoalW.mp (S' := (T507.setTop (mkF m 143 #[.val (.int p1), .val (.int p2), .val (.int p3), .val (.int p4), .val (.int (3 : Int32)), .val (.ref b385), .val (.int u401), .val (.ref a413), .val (.int (1 : Int32)), .val (.int (own_ae u401 (3 : Int32))), .val (.int (1 : Int32)), .val (.int (1 : Int32)), .val (.int (1 : Int32))] []))) (fun _ k => XS.ifNo X509.here hx rfl (hb hby at_140) rfl (XT.i0_eq_f hd515) k) ?_
      refine OGoalW.mp (S' := (T507.setTop (mkF m 145 #[.val (.int p1), .val (.int p2), .val (.int p3), .val (.int p4), .val (.int (3 : Int32)), .val (.ref b385), .val (.int u401), .val (.ref a413), .val (.int (1 : Int32)), .val (.int (own_ae u401 (3 : Int32))), .val (.int (1 : Int32)), .val (.int (1 : Int32)), .val (.int (1 : Int32))] [(.int (1 : Int32))]))) (fun _ k => XS.iload X509.here hx rfl (hb hby at_143) rfl k) ?_
      have hd516 : ¬ ((1 : Int32) = 0) := mNe (by omega)
      refine OGoalW.mp (S' := (T507.setTop (mkF m 148 #[.val (.int p1), .val (.int p2), .val (.int p3), .val (.int p4), .val (.int (3 : Int32)), .val (.ref b385), .val (.int u401), .val (.ref a413), .val (.int (1 : Int32)), .val (.int (own_ae u401 (3 : Int32))), .val (.int (1 : Int32)), .val (.int (1 : Int32)), .val (.int (1 : Int32))] []))) (fun _ k => XS.ifNo X509.here hx rfl (hb hby at_145) rfl (XT.i0_eq_f hd516) k) ?_
      refine OGoalW.mp (S' := (T507.setTop (mkF m 150 #[.val (.int p1), .val (.int p2), .val (.int p3), .val (.int p4), .val (.int (3 : Int32)), .val (.ref b385), .val (.int u401), .val (.ref a413), .val (.int (1 : Int32)), .val (.int (own_ae u401 (3 : Int32))), .val (.int (1 : Int32)), .val (.int (1 : Int32)), .val (.int (1 : Int32))] [(.int (1 : Int32))]))) (fun _ k => XS.iload X509.here hx rfl (hb hby at_148) rfl k) ?_
      have hd517 : ¬ ((1 : Int32) = 0) := mNe (by omega)
      refine OGoalW.mp (S' := (T507.setTop (mkF m 153 #[.val (.int p1), .val (.int p2), .val (.int p3), .val (.int p4), .val (.int (3 : Int32)), .val (.ref b385), .val (.int u401), .val (.ref a413), .val (.int (1 : Int32)), .val (.int (own_ae u401 (3 : Int32))), .val (.int (1 : Int32)), .val (.int (1 : Int32)), .val (.int (1 : Int32))] []))) (fun _ k => XS.ifNo X509.here hx rfl (hb hby at_150) rfl (XT.i0_eq_f hd517) k) ?_
      refine OGoalW.mp (S' := (T507.setTop (mkF m 154 #[.val (.int p1), .val (.int p2), .val (.int p3), .val (.int p4), .val (.int (3 : Int32)), .val (.ref b385), .val (.int u401), .val (.ref a413), .val (.int (1 : Int32)), .val (.int (own_ae u401 (3 : Int32))), .val (.int (1 : Int32)), .val (.int (1 : Int32)), .val (.int (1 : Int32))] [(.int (1 : Int32))]))) (fun _ k => XS.iconst X509.here hx rfl (hb hby at_153) k) ?_
      refine OGoalW.mp (S' := (T507.setTop (mkF m 158 #[.val (.int p1), .val (.int p2), .val (.int p3), .val (.int p4), .val (.int (3 : Int32)), .val (.ref b385), .val (.int u401), .val (.ref a413), .val (.int (1 : Int32)), .val (.int (own_ae u401 (3 : Int32))), .val (.int (1 : Int32)), .val (.int (1 : Int32)), .val (.int (1 : Int32))] [(.int (1 : Int32))]))) (fun _ k => XS.goto X509.here hx rfl (pc0 := 154) (pc' := 158) rfl (hb hby at_154) (by decide) (by decide) k) ?_
      refine oRetZW X509 hS0 (Nat.le_trans (Nat.le_trans (Nat.le_trans (Nat.le_trans (Nat.le_trans (Nat.le_of_eq (congrArg Array.size hsh)) K392.1) E410.1) K428.1) K455.1) (Nat.le_of_eq (congrArg Array.size e512).symm)) hx hlk hret (Or.inr rfl) (hb hby at_158) ?_ (by decide) (by decide)
      exact ⟨rfl, N513⟩
set_option maxRecDepth 65536 in
set_option maxHeartbeats 40000000 in
theorem comes_1 {Post : Tables → Env → Array Value → State → Outcome → State → Prop} (hpost : ∀ tb e args s v u, (limb_1_1.after args s (.returned v) u = true ∧ limb_1_2.after args s (.returned v) u = true ∧ True) → ReturnedEndW s (.returned v) u (Jvm.fieldLocs frame_1_writes args s ++ Jvm.arrayLocs frame_1_arrays args s ++ Jvm.staticLocs frame_1_statics s) 24 1152 → Post tb e args s (.returned v) u) :
    ArmFor flags0 classFile x code maxLocals ret World_1 tables_1 room_1 Calls_1 rest_1 Pre_1 Post := by
  intro l hfl _ _ p e ha hc hk s m args below hf hA hF happ hP
  obtain ⟨hcalls, hrest, hpre⟩ := hP
  obtain ⟨-, -, -, hnamed, -, -, -, hat⟩ := (Spec.applies_iff hf).mp happ
  obtain ⟨hg, hn⟩ := and_e (Cond.before_iff.mp (show (Jvm.Cond.and given_1 narrow_1).before args s = true from hpre))
  obtain ⟨hcnt, hg⟩ := and_e hg
  obtain ⟨w0, w1, w2, w3, rfl⟩ : ∃ w0 w1 w2 w3 : Value, args = #[w0, w1, w2, w3] := by
    have hs : args.size = 4 := by simpa [Cond.value, given_1] using hcnt
    obtain ⟨L⟩ := args
    match L, hs with
    | [w0, w1, w2, w3], _ => exact ⟨w0, w1, w2, w3, rfl⟩
  have hw := fun d (hd : d ∈ tables_1) => atoms_spec (ws := Jvm.Cond.code x code maxLocals ret :: tables_1) hat d (List.mem_cons_of_mem _ hd)
  have hfit : Fit s := fun {y c} hc i hi => by
    obtain ⟨ha, rfl⟩ := Array.getElem?_eq_some_iff.mp hc
    have q := List.all_eq_true.mp ((Array.all_eq_true_iff_forall_mem.mp hF) _ (Array.getElem_mem ha)) i (List.mem_range.mpr hi)
    simpa [Array.getElem?_eq_getElem hi] using q
  obtain ⟨hg0, hg⟩ := and_e hg
  obtain ⟨i0, ei0⟩ := is_v hg0
  obtain rfl : w0 = (.int i0) := Option.some.inj ei0
  obtain ⟨hg1, hg⟩ := and_e hg
  obtain ⟨i1, ei1⟩ := is_v hg1
  obtain rfl : w1 = (.int i1) := Option.some.inj ei1
  obtain ⟨hg2, hg⟩ := and_e hg
  obtain ⟨i2, ei2⟩ := is_v hg2
  obtain rfl : w2 = (.int i2) := Option.some.inj ei2
  obtain ⟨i3, ei3⟩ := is_v hg
  obtain rfl : w3 = (.int i3) := Option.some.inj ei3
  have hr := Cond.before_iff.mp (show rest_1_c.before _ s = true from hrest)
  obtain ⟨rest_0, hr⟩ := and_e hr
  obtain ⟨rest_1i, hr⟩ := and_e hr
  obtain ⟨rest_2, hr⟩ := and_e hr
  obtain ⟨cs, ecs⟩ := is_v rest_1i
  have hcs : ¬ cs = 0 := fun q => oNot rest_2 (eq_i ecs (Term.int_eval (0)) (by rw [q]))
  have St : Stt s s.heap cs := Sta.start ecs (Or.inl (Cond.before_iff.mpr rest_0))
  have hcw : Jvm.Lit.compactW.before _ s = true := Cond.before_iff.mpr rest_2
  have hch : Jvm.Lit.constHeld s "java/lang/String" 7 := hcalls.1 ("java/lang/String", 7) (by simp [consts_1])
  obtain ⟨n, o, h1, h2, h3, _, L, rfl, ⟨rfl, N⟩, hq⟩ := rm0 l s _ hw i0 i1 i2 i3 s.heap s.heap.size (Nat.le_refl _) cs hcs St (fun b cl q => q) hcw hch tables_1 p e ha hc hk s m _ below hf ((Spec.applies_iff_loose hf).mp happ).1 ⟨rfl, State.Warmed39.refl s, rfl, rfl⟩ trivial
  refine ⟨n, _, h1, h2, h3, hpost _ _ _ _ _ _ ⟨Cond.after_iff.mpr rfl, Cond.after_iff.mpr (eq_i res_at (Term.int_eval (1)) rfl), trivial⟩ ⟨hq.1, hq.2.1, hq.2.2.1, (hq.2.2.2.sift fun y hy => Or.inr (N y hy)).mono (by decide) (by decide)⟩⟩
theorem main_1_1 : Claimed_1_1 := comes_1 fun _ _ _ _ _ _ h hF => ⟨h.1, hF⟩
theorem main_1_2 : Claimed_1_2 := comes_1 fun _ _ _ _ _ _ h hF => ⟨h.2.1, hF⟩
end Jvm.Pilot.@@N@@
namespace Jvm.Pilot.@@N@@
open Jvm Jvm.ClassFile Sem Op Lib Jvm.Free Jvm.Stand Jvm.Pilot.@@N@@.Jvm.D
/-! MADE BY PROGRAM (witnessworld.py) out of the Statement's table words and the real class files: 20 classes; the members and pool entries that the words name. The judged class is class 1, her method 2. -/
namespace start1
open Jvm.ClassFile
def u (s : String) : CpInfo := .utf8 (stringToUtf16 s)
/-- a pool by its gaps: so many unusable entries, then the entry; so many at the end -/
def gap : Nat → List CpInfo → List CpInfo
  | 0, r => r
  | n + 1, r => .unusable :: gap n r
def poolList (es : List (Nat × CpInfo)) (last : Nat) : List CpInfo := es.foldr (fun e r => gap e.1 (e.2 :: r)) (gap last [])
def pool (es : List (Nat × CpInfo)) (last : Nat) : Array CpInfo := ⟨poolList es last⟩
def fileOf (pool : Array CpInfo) (this : Nat) (attrs : Array Attribute := #[]) (ms : Array MethodInfo := #[]) (fl : Nat := 33) (sup : Nat := 0) (ifs : Array Nat := #[]) (fds : Array FieldInfo := #[]) : ClassFile where
  minorVersion := 0
  majorVersion := 65
  constantPool := pool
  accessFlags := fl
  thisClass := this
  superClass := sup
  interfaces := ifs
  fields := fds
  methods := ms
  attributes := attrs
def plain (name : String) (sup : Option ClassId) : Class where
  name := name
  kind := .ordinary
  loader := none
  accessFlags := 33
  super := sup
  interfaces := #[]
  cf := none
  fields := #[]
  methods := #[]
  instanceTypes := #[]
  staticTypes := #[]
  resolved := #[]
  callSites := []
  init := .initialized
  statics := none
  mirror := none

def pool0 : Array CpInfo := pool [(5, u "<init>"), (0, u "()V"), (1, .class_ 10), (1, u "java/lang/Object")] 113

def k0c0 : Code := { maxStack := 0, maxLocals := 1, code := object_method_1_code, exceptionTable := #[], attributes := #[] }
def k0m0 : Method := { name := "<init>", desc := "()V", sig := { parameters := [], returnType := none }, accessFlags := 1, code := some k0c0 }
/-- java/lang/Object -/
def k0 : Class := { plain "java/lang/Object" none with
  accessFlags := 33
  interfaces := #[]
  cf := some (fileOf pool0 8 #[] #[{ accessFlags := 1, nameIndex := 5, descriptorIndex := 6, attributes := #[] }] 33 0 #[] #[])
  fields := #[]
  methods := #[k0m0]
  instanceTypes := #[]
  staticTypes := #[]
  resolved := Array.replicate 124 none
  statics := none }

def pool1 : Array CpInfo := pool [(2, .class_ 4), (1, u "java/lang/Object"), (0, u "<init>"), (0, u "()V"), (0, .class_ 8), (0, u "java/lang/String"), (0, .methodref 7 10), (0, .nameAndType 5 11), (0, u "([C)V"), (0, .methodref 13 14), (0, .class_ 15), (0, .nameAndType 16 17), (0, u "com/example/deadlock_to_diagnosis/deadlocktodiagnosis/reader/LineScannerAtEndPinLaw"), (0, u "drawn"), (0, u "(III)Ljava/lang/String;"), (0, .integer 2147483647), (0, .class_ 20), (0, u "com/example/deadlock_to_diagnosis/deadlocktodiagnosis/reader/LineScanner"), (0, .methodref 19 22), (0, .nameAndType 5 23), (0, u "(Ljava/lang/String;)V"), (0, .methodref 19 25), (0, .nameAndType 26 27), (0, u "atEnd"), (0, u "()Z"), (0, .methodref 19 29), (0, .nameAndType 30 31), (0, u "moveTo"), (0, u "(I)V"), (0, .methodref 19 33), (0, .nameAndType 34 35), (0, u "position"), (0, u "()I"), (5, u "law"), (0, u "(IIII)Z")] 2

def k1m0 : Method := { name := "<init>", desc := "()V", sig := { parameters := [], returnType := none }, accessFlags := 2, code := none }
def k1c1 : Code := { maxStack := 4, maxLocals := 7, code := method_2_code, exceptionTable := #[], attributes := #[] }
def k1m1 : Method := { name := "drawn", desc := "(III)Ljava/lang/String;", sig := { parameters := [.int, .int, .int], returnType := some (.object "java/lang/String") }, accessFlags := 10, code := some k1c1 }
def k1c2 : Code := { maxStack := 3, maxLocals := 13, code := code, exceptionTable := #[], attributes := #[] }
def k1m2 : Method := { name := "law", desc := "(IIII)Z", sig := { parameters := [.int, .int, .int, .int], returnType := some .boolean }, accessFlags := 9, code := some k1c2 }
/-- com/example/deadlock_to_diagnosis/deadlocktodiagnosis/reader/LineScannerAtEndPinLaw -/
def k1 : Class := { plain "com/example/deadlock_to_diagnosis/deadlocktodiagnosis/reader/LineScannerAtEndPinLaw" (some 0) with
  accessFlags := 49
  interfaces := #[]
  cf := some (fileOf pool1 13 #[] #[{ accessFlags := 2, nameIndex := 5, descriptorIndex := 6, attributes := #[] }, { accessFlags := 10, nameIndex := 16, descriptorIndex := 17, attributes := #[] }, { accessFlags := 9, nameIndex := 41, descriptorIndex := 42, attributes := #[] }] 49 2 #[] #[])
  fields := #[]
  methods := #[k1m0, k1m1, k1m2]
  instanceTypes := #[]
  staticTypes := #[]
  resolved := Array.replicate 45 none
  statics := none }

def pool2 : Array CpInfo := pool [(1, .class_ 2), (0, u "java/io/Serializable"), (0, .class_ 4), (0, u "java/lang/Object")] 2

/-- java/io/Serializable -/
def k2 : Class := { plain "java/io/Serializable" (some 0) with
  accessFlags := 1537
  interfaces := #[]
  cf := some (fileOf pool2 1 #[] #[] 1537 3 #[] #[])
  fields := #[]
  methods := #[]
  instanceTypes := #[]
  staticTypes := #[]
  resolved := Array.replicate 7 none
  statics := none }

def pool3 : Array CpInfo := pool [(1, .class_ 2), (0, u "java/lang/Comparable"), (0, .class_ 4), (0, u "java/lang/Object")] 7

/-- java/lang/Comparable -/
def k3 : Class := { plain "java/lang/Comparable" (some 0) with
  accessFlags := 1537
  interfaces := #[]
  cf := some (fileOf pool3 1 #[] #[] 1537 3 #[] #[])
  fields := #[]
  methods := #[]
  instanceTypes := #[]
  staticTypes := #[]
  resolved := Array.replicate 12 none
  statics := none }

def pool4 : Array CpInfo := pool [(2, .class_ 4), (1, u "java/lang/CharSequence"), (42, .class_ 48), (0, u "java/lang/CharSequence$1CodePointIterator"), (10, .class_ 60), (0, u "java/lang/CharSequence$1CharIterator"), (5, .class_ 67), (0, u "java/lang/Object")] 63

/-- java/lang/CharSequence -/
def k4 : Class := { plain "java/lang/CharSequence" (some 0) with
  accessFlags := 1537
  interfaces := #[]
  cf := some (fileOf pool4 2 #[.nestMembers #[47, 59]] #[] 1537 66 #[] #[])
  fields := #[]
  methods := #[]
  instanceTypes := #[]
  staticTypes := #[]
  resolved := Array.replicate 131 none
  statics := none }

def pool5 : Array CpInfo := pool [(1, .class_ 2), (0, u "java/lang/constant/Constable"), (0, .class_ 4), (0, u "java/lang/Object")] 6

/-- java/lang/constant/Constable -/
def k5 : Class := { plain "java/lang/constant/Constable" (some 0) with
  accessFlags := 1537
  interfaces := #[]
  cf := some (fileOf pool5 1 #[] #[] 1537 3 #[] #[])
  fields := #[]
  methods := #[]
  instanceTypes := #[]
  staticTypes := #[]
  resolved := Array.replicate 11 none
  statics := none }

def pool6 : Array CpInfo := pool [(1, .class_ 2), (0, u "java/lang/constant/ConstantDesc"), (0, .class_ 4), (0, u "java/lang/Object")] 32

/-- java/lang/constant/ConstantDesc -/
def k6 : Class := { plain "java/lang/constant/ConstantDesc" (some 0) with
  accessFlags := 1537
  interfaces := #[]
  cf := some (fileOf pool6 1 #[] #[] 1537 3 #[] #[])
  fields := #[]
  methods := #[]
  instanceTypes := #[]
  staticTypes := #[]
  resolved := Array.replicate 37 none
  statics := none }

def pool7 : Array CpInfo := pool [(1, .methodref 2 3), (0, .class_ 4), (0, .nameAndType 5 6), (0, u "java/lang/Object"), (0, u "<init>"), (0, u "()V"), (0, .string 8), (0, u ""), (0, .fieldref 10 11), (0, .class_ 12), (0, .nameAndType 13 14), (0, u "java/lang/String"), (0, u "value"), (0, u "[B"), (0, .fieldref 10 16), (0, .nameAndType 17 18), (0, u "coder"), (0, u "B"), (2, u "hash"), (0, u "I"), (2, u "hashIsZero"), (0, u "Z"), (0, .methodref 10 28), (0, .nameAndType 5 29), (0, u "([CIILjava/lang/Void;)V"), (8, .fieldref 10 39), (0, .nameAndType 40 26), (0, u "COMPACT_STRINGS"), (1, .class_ 44), (1, u "java/lang/StringUTF16"), (0, u "compress"), (1, .methodref 42 48), (0, .nameAndType 49 50), (0, u "coderFromArrayLen"), (0, u "([BI)B"), (126, .methodref 42 178), (0, .nameAndType 45 179), (0, u "([CII)[B"), (154, u "()I"), (0, .methodref 10 336), (0, .nameAndType 17 337), (0, u "()B"), (169, u "length"), (67, .class_ 576), (0, u "java/lang/CharSequence"), (22, u "CASE_INSENSITIVE_ORDER"), (0, u "Ljava/util/Comparator;"), (409, u "([C)V"), (90, u "serialPersistentFields"), (0, u "[Ljava/io/ObjectStreamField;"), (0, .class_ 1104), (0, u "java/lang/String$CaseInsensitiveComparator"), (1, .class_ 1107), (0, u "java/io/Serializable"), (0, .class_ 1109), (0, u "java/lang/Comparable"), (0, .class_ 1111), (0, u "java/lang/constant/Constable"), (0, .class_ 1113), (0, u "java/lang/constant/ConstantDesc"), (2, u "serialVersionUID"), (0, u "J"), (3, u "REPL"), (0, u "C"), (2, u "LATIN1"), (1, u "UTF16")] 323

def k7m0 : Method := { name := "<init>", desc := "()V", sig := { parameters := [], returnType := none }, accessFlags := 1, code := none }
def k7c1 : Code := { maxStack := 5, maxLocals := 2, code := jdk_42_method_3_code, exceptionTable := #[], attributes := #[] }
def k7m1 : Method := { name := "<init>", desc := "([C)V", sig := { parameters := [(.array .char)], returnType := none }, accessFlags := 1, code := some k7c1 }
def k7c2 : Code := { maxStack := 2, maxLocals := 1, code := jdk_42_method_54_code, exceptionTable := #[], attributes := #[] }
def k7m2 : Method := { name := "length", desc := "()I", sig := { parameters := [], returnType := some .int }, accessFlags := 1, code := some k7c2 }
def k7c3 : Code := { maxStack := 4, maxLocals := 6, code := jdk_42_method_149_code, exceptionTable := #[], attributes := #[] }
def k7m3 : Method := { name := "<init>", desc := "([CIILjava/lang/Void;)V", sig := { parameters := [(.array .char), .int, .int, (.object "java/lang/Void")], returnType := none }, accessFlags := 2, code := some k7c3 }
def k7c4 : Code := { maxStack := 1, maxLocals := 1, code := jdk_42_method_152_code, exceptionTable := #[], attributes := #[] }
def k7m4 : Method := { name := "coder", desc := "()B", sig := { parameters := [], returnType := some .byte }, accessFlags := 0, code := some k7c4 }
/-- java/lang/String -/
def k7 : Class := { plain "java/lang/String" (some 0) with
  accessFlags := 49
  interfaces := #[2, 3, 4, 5, 6]
  cf := some (fileOf pool7 10 #[.nestMembers #[1103]] #[{ accessFlags := 1, nameIndex := 5, descriptorIndex := 6, attributes := #[] }, { accessFlags := 1, nameIndex := 5, descriptorIndex := 1010, attributes := #[] }, { accessFlags := 1, nameIndex := 507, descriptorIndex := 334, attributes := #[] }, { accessFlags := 2, nameIndex := 5, descriptorIndex := 29, attributes := #[] }, { accessFlags := 0, nameIndex := 17, descriptorIndex := 337, attributes := #[] }] 49 2 #[1106, 1108, 575, 1110, 1112] #[{ accessFlags := 18, nameIndex := 13, descriptorIndex := 14, attributes := #[] }, { accessFlags := 18, nameIndex := 17, descriptorIndex := 18, attributes := #[] }, { accessFlags := 2, nameIndex := 21, descriptorIndex := 22, attributes := #[] }, { accessFlags := 2, nameIndex := 25, descriptorIndex := 26, attributes := #[] }, { accessFlags := 26, nameIndex := 1116, descriptorIndex := 1117, attributes := #[] }, { accessFlags := 24, nameIndex := 40, descriptorIndex := 26, attributes := #[] }, { accessFlags := 26, nameIndex := 1101, descriptorIndex := 1102, attributes := #[] }, { accessFlags := 26, nameIndex := 1121, descriptorIndex := 1122, attributes := #[] }, { accessFlags := 25, nameIndex := 599, descriptorIndex := 600, attributes := #[] }, { accessFlags := 24, nameIndex := 1125, descriptorIndex := 18, attributes := #[] }, { accessFlags := 24, nameIndex := 1127, descriptorIndex := 18, attributes := #[] }])
  fields := #[{ name := "value", type := (.array .byte), accessFlags := 18, slot := 0, constantValue := 0 }, { name := "coder", type := .byte, accessFlags := 18, slot := 1, constantValue := 0 }, { name := "hash", type := .int, accessFlags := 2, slot := 2, constantValue := 0 }, { name := "hashIsZero", type := .boolean, accessFlags := 2, slot := 3, constantValue := 0 }, { name := "serialVersionUID", type := .long, accessFlags := 26, slot := 0, constantValue := 0 }, { name := "COMPACT_STRINGS", type := .boolean, accessFlags := 24, slot := 1, constantValue := 0 }, { name := "serialPersistentFields", type := (.array (.object "java/io/ObjectStreamField")), accessFlags := 26, slot := 2, constantValue := 0 }, { name := "REPL", type := .char, accessFlags := 26, slot := 3, constantValue := 0 }, { name := "CASE_INSENSITIVE_ORDER", type := (.object "java/util/Comparator"), accessFlags := 25, slot := 4, constantValue := 0 }, { name := "LATIN1", type := .byte, accessFlags := 24, slot := 5, constantValue := 0 }, { name := "UTF16", type := .byte, accessFlags := 24, slot := 6, constantValue := 0 }]
  methods := #[k7m0, k7m1, k7m2, k7m3, k7m4]
  instanceTypes := #[(.array .byte), .byte, .int, .boolean]
  staticTypes := #[.long, .boolean, (.array (.object "java/io/ObjectStreamField")), .char, (.object "java/util/Comparator"), .byte, .byte]
  resolved := Array.replicate 1451 none
  statics := some 0 }

def pool8 : Array CpInfo := pool [(1, .methodref 2 3), (0, .class_ 4), (0, .nameAndType 5 6), (0, u "java/lang/Object"), (0, u "<init>"), (0, u "()V"), (0, .fieldref 8 9), (0, .class_ 10), (0, .nameAndType 11 12), (0, u "com/example/deadlock_to_diagnosis/deadlocktodiagnosis/reader/LineScanner"), (0, u "line"), (0, u "Ljava/lang/String;"), (0, .fieldref 8 14), (0, .nameAndType 15 16), (0, u "at"), (0, u "I"), (0, .methodref 18 19), (0, .class_ 20), (0, .nameAndType 21 22), (0, u "java/lang/String"), (0, u "length"), (0, u "()I"), (11, u "()Z"), (42, u "(Ljava/lang/String;)V"), (3, u "position"), (0, u "moveTo"), (0, u "(I)V"), (0, u "atEnd")] 15

def k8c0 : Code := { maxStack := 2, maxLocals := 2, code := prog_19_method_1_code, exceptionTable := #[], attributes := #[] }
def k8m0 : Method := { name := "<init>", desc := "(Ljava/lang/String;)V", sig := { parameters := [(.object "java/lang/String")], returnType := none }, accessFlags := 0, code := some k8c0 }
def k8c1 : Code := { maxStack := 1, maxLocals := 1, code := prog_19_method_3_code, exceptionTable := #[], attributes := #[] }
def k8m1 : Method := { name := "position", desc := "()I", sig := { parameters := [], returnType := some .int }, accessFlags := 0, code := some k8c1 }
def k8c2 : Code := { maxStack := 2, maxLocals := 2, code := prog_19_method_4_code, exceptionTable := #[], attributes := #[] }
def k8m2 : Method := { name := "moveTo", desc := "(I)V", sig := { parameters := [.int], returnType := none }, accessFlags := 0, code := some k8c2 }
def k8c3 : Code := { maxStack := 2, maxLocals := 1, code := prog_19_method_5_code, exceptionTable := #[], attributes := #[] }
def k8m3 : Method := { name := "atEnd", desc := "()Z", sig := { parameters := [], returnType := some .boolean }, accessFlags := 0, code := some k8c3 }
/-- com/example/deadlock_to_diagnosis/deadlocktodiagnosis/reader/LineScanner -/
def k8 : Class := { plain "com/example/deadlock_to_diagnosis/deadlocktodiagnosis/reader/LineScanner" (some 0) with
  accessFlags := 48
  interfaces := #[]
  cf := some (fileOf pool8 8 #[] #[{ accessFlags := 0, nameIndex := 5, descriptorIndex := 77, attributes := #[] }, { accessFlags := 0, nameIndex := 81, descriptorIndex := 22, attributes := #[] }, { accessFlags := 0, nameIndex := 82, descriptorIndex := 83, attributes := #[] }, { accessFlags := 0, nameIndex := 84, descriptorIndex := 34, attributes := #[] }] 48 2 #[] #[{ accessFlags := 18, nameIndex := 11, descriptorIndex := 12, attributes := #[] }, { accessFlags := 2, nameIndex := 15, descriptorIndex := 16, attributes := #[] }])
  fields := #[{ name := "line", type := (.object "java/lang/String"), accessFlags := 18, slot := 0, constantValue := 0 }, { name := "at", type := .int, accessFlags := 2, slot := 1, constantValue := 0 }]
  methods := #[k8m0, k8m1, k8m2, k8m3]
  instanceTypes := #[(.object "java/lang/String"), .int]
  staticTypes := #[]
  resolved := Array.replicate 100 none
  statics := none }

def pool9 : Array CpInfo := pool [(6, .class_ 8), (1, u "java/lang/Object"), (0, u "<init>"), (0, u "()V"), (1, .class_ 14), (1, u "java/lang/StringUTF16"), (31, u "$assertionsDisabled"), (0, u "Z"), (13, u "HI_BYTE_SHIFT"), (0, u "I"), (2, u "LO_BYTE_SHIFT"), (49, .methodref 12 116), (0, .nameAndType 117 118), (0, u "compress"), (0, u "([CI[BII)I"), (3, u "([CII)[B"), (138, u "coderFromArrayLen"), (0, u "([BI)B"), (106, .class_ 371), (1, u "java/lang/StringUTF16$LinesSpliterator"), (58, u "MAX_LENGTH"), (196, .class_ 628), (0, u "java/lang/StringUTF16$CodePointsSpliterator"), (0, .class_ 630), (0, u "java/lang/StringUTF16$CharsSpliterator")] 4

def k9m0 : Method := { name := "<init>", desc := "()V", sig := { parameters := [], returnType := none }, accessFlags := 0, code := none }
def k9c1 : Code := { maxStack := 2, maxLocals := 2, code := jdk_52_method_15_code, exceptionTable := #[], attributes := #[] }
def k9m1 : Method := { name := "coderFromArrayLen", desc := "([BI)B", sig := { parameters := [(.array .byte), .int], returnType := some .byte }, accessFlags := 8, code := some k9c1 }
def k9c2 : Code := { maxStack := 5, maxLocals := 6, code := jdk_52_method_16_code, exceptionTable := #[], attributes := #[] }
def k9m2 : Method := { name := "compress", desc := "([CII)[B", sig := { parameters := [(.array .char), .int, .int], returnType := some (.array .byte) }, accessFlags := 9, code := some k9c2 }
def k9c3 : Code := { maxStack := 3, maxLocals := 7, code := jdk_52_method_21_code, exceptionTable := #[], attributes := #[] }
def k9m3 : Method := { name := "compress", desc := "([CI[BII)I", sig := { parameters := [(.array .char), .int, (.array .byte), .int, .int], returnType := some .int }, accessFlags := 9, code := some k9c3 }
/-- java/lang/StringUTF16 -/
def k9 : Class := { plain "java/lang/StringUTF16" (some 0) with
  accessFlags := 48
  interfaces := #[]
  cf := some (fileOf pool9 12 #[.nestMembers #[627, 629, 369]] #[{ accessFlags := 0, nameIndex := 9, descriptorIndex := 10, attributes := #[] }, { accessFlags := 8, nameIndex := 261, descriptorIndex := 262, attributes := #[] }, { accessFlags := 9, nameIndex := 117, descriptorIndex := 122, attributes := #[] }, { accessFlags := 9, nameIndex := 117, descriptorIndex := 118, attributes := #[] }] 48 6 #[] #[{ accessFlags := 26, nameIndex := 61, descriptorIndex := 62, attributes := #[] }, { accessFlags := 26, nameIndex := 65, descriptorIndex := 62, attributes := #[] }, { accessFlags := 24, nameIndex := 430, descriptorIndex := 62, attributes := #[] }, { accessFlags := 4120, nameIndex := 46, descriptorIndex := 47, attributes := #[] }])
  fields := #[{ name := "HI_BYTE_SHIFT", type := .int, accessFlags := 26, slot := 0, constantValue := 0 }, { name := "LO_BYTE_SHIFT", type := .int, accessFlags := 26, slot := 1, constantValue := 0 }, { name := "MAX_LENGTH", type := .int, accessFlags := 24, slot := 2, constantValue := 0 }, { name := "$assertionsDisabled", type := .boolean, accessFlags := 4120, slot := 3, constantValue := 0 }]
  methods := #[k9m0, k9m1, k9m2, k9m3]
  instanceTypes := #[]
  staticTypes := #[.int, .int, .int, .boolean]
  resolved := Array.replicate 635 none
  statics := none }

def pool10 : Array CpInfo := pool [(4, .class_ 6), (1, u "java/lang/Object"), (0, u "<init>"), (0, u "()V"), (5, .class_ 16), (1, u "java/lang/StringLatin1"), (104, u "$assertionsDisabled"), (0, u "Z"), (98, .class_ 223), (1, u "java/lang/StringLatin1$LinesSpliterator"), (166, .class_ 391), (0, u "java/lang/StringLatin1$CharsSpliterator")] 3

def k10m0 : Method := { name := "<init>", desc := "()V", sig := { parameters := [], returnType := none }, accessFlags := 0, code := none }
/-- java/lang/StringLatin1 -/
def k10 : Class := { plain "java/lang/StringLatin1" (some 0) with
  accessFlags := 48
  interfaces := #[]
  cf := some (fileOf pool10 14 #[.nestMembers #[390, 221]] #[{ accessFlags := 0, nameIndex := 7, descriptorIndex := 8, attributes := #[] }] 48 4 #[] #[{ accessFlags := 4120, nameIndex := 121, descriptorIndex := 122, attributes := #[] }])
  fields := #[{ name := "$assertionsDisabled", type := .boolean, accessFlags := 4120, slot := 0, constantValue := 0 }]
  methods := #[k10m0]
  instanceTypes := #[]
  staticTypes := #[.boolean]
  resolved := Array.replicate 395 none
  statics := none }

def pool11 : Array CpInfo := pool [(2, .class_ 4), (1, u "java/lang/Object"), (0, u "<init>"), (0, u "()V"), (17, .class_ 26), (1, u "jdk/internal/util/Preconditions"), (28, .class_ 56), (0, u "jdk/internal/util/Preconditions$4"), (57, .class_ 115), (0, u "jdk/internal/util/Preconditions$1"), (7, u "SIOOBE_FORMATTER"), (0, u "Ljava/util/function/BiFunction;"), (0, .class_ 126), (0, u "jdk/internal/util/Preconditions$2"), (3, u "AIOOBE_FORMATTER"), (0, .class_ 132), (0, u "jdk/internal/util/Preconditions$3"), (3, u "IOOBE_FORMATTER")] 57

def k11m0 : Method := { name := "<init>", desc := "()V", sig := { parameters := [], returnType := none }, accessFlags := 1, code := none }
/-- jdk/internal/util/Preconditions -/
def k11 : Class := { plain "jdk/internal/util/Preconditions" (some 0) with
  accessFlags := 33
  interfaces := #[]
  cf := some (fileOf pool11 24 #[.nestMembers #[55, 131, 125, 114]] #[{ accessFlags := 1, nameIndex := 5, descriptorIndex := 6, attributes := #[] }] 33 2 #[] #[{ accessFlags := 25, nameIndex := 123, descriptorIndex := 124, attributes := #[] }, { accessFlags := 25, nameIndex := 130, descriptorIndex := 124, attributes := #[] }, { accessFlags := 25, nameIndex := 136, descriptorIndex := 124, attributes := #[] }])
  fields := #[{ name := "SIOOBE_FORMATTER", type := (.object "java/util/function/BiFunction"), accessFlags := 25, slot := 0, constantValue := 0 }, { name := "AIOOBE_FORMATTER", type := (.object "java/util/function/BiFunction"), accessFlags := 25, slot := 1, constantValue := 0 }, { name := "IOOBE_FORMATTER", type := (.object "java/util/function/BiFunction"), accessFlags := 25, slot := 2, constantValue := 0 }]
  methods := #[k11m0]
  instanceTypes := #[]
  staticTypes := #[(.object "java/util/function/BiFunction"), (.object "java/util/function/BiFunction"), (.object "java/util/function/BiFunction")]
  resolved := Array.replicate 194 none
  statics := some 1 }

def pool12 : Array CpInfo := pool [(9, u "<init>"), (6, .class_ 18), (1, u "java/lang/Object"), (0, u "()V"), (1, .class_ 23), (1, u "jdk/internal/util/ArraysSupport"), (0, u "LOG2_ARRAY_LONG_INDEX_SCALE"), (0, u "I"), (2, u "U"), (0, u "Ljdk/internal/misc/Unsafe;"), (8, u "BIG_ENDIAN"), (0, u "Z"), (8, u "LOG2_BYTE_BIT_SIZE"), (4, u "LOG2_ARRAY_INT_INDEX_SCALE"), (54, u "JLA"), (0, u "Ljdk/internal/access/JavaLangAccess;"), (11, u "LOG2_ARRAY_BOOLEAN_INDEX_SCALE"), (9, u "LOG2_ARRAY_BYTE_INDEX_SCALE"), (5, u "LOG2_ARRAY_CHAR_INDEX_SCALE"), (5, u "LOG2_ARRAY_SHORT_INDEX_SCALE"), (18, u "LOG2_ARRAY_FLOAT_INDEX_SCALE"), (24, u "LOG2_ARRAY_DOUBLE_INDEX_SCALE"), (89, u "T_BOOLEAN"), (2, u "T_CHAR"), (1, u "T_FLOAT"), (1, u "T_DOUBLE"), (1, u "T_BYTE"), (1, u "T_SHORT"), (1, u "T_INT"), (1, u "T_LONG"), (1, u "SOFT_MAX_ARRAY_LENGTH")] 83

def k12m0 : Method := { name := "<init>", desc := "()V", sig := { parameters := [], returnType := none }, accessFlags := 2, code := none }
/-- jdk/internal/util/ArraysSupport -/
def k12 : Class := { plain "jdk/internal/util/ArraysSupport" (some 0) with
  accessFlags := 33
  interfaces := #[]
  cf := some (fileOf pool12 21 #[] #[{ accessFlags := 2, nameIndex := 9, descriptorIndex := 19, attributes := #[] }] 33 16 #[] #[{ accessFlags := 24, nameIndex := 28, descriptorIndex := 29, attributes := #[] }, { accessFlags := 26, nameIndex := 38, descriptorIndex := 39, attributes := #[] }, { accessFlags := 25, nameIndex := 121, descriptorIndex := 25, attributes := #[] }, { accessFlags := 25, nameIndex := 131, descriptorIndex := 25, attributes := #[] }, { accessFlags := 25, nameIndex := 137, descriptorIndex := 25, attributes := #[] }, { accessFlags := 25, nameIndex := 143, descriptorIndex := 25, attributes := #[] }, { accessFlags := 25, nameIndex := 53, descriptorIndex := 25, attributes := #[] }, { accessFlags := 25, nameIndex := 24, descriptorIndex := 25, attributes := #[] }, { accessFlags := 25, nameIndex := 162, descriptorIndex := 25, attributes := #[] }, { accessFlags := 25, nameIndex := 187, descriptorIndex := 25, attributes := #[] }, { accessFlags := 26, nameIndex := 48, descriptorIndex := 25, attributes := #[] }, { accessFlags := 25, nameIndex := 277, descriptorIndex := 25, attributes := #[] }, { accessFlags := 25, nameIndex := 280, descriptorIndex := 25, attributes := #[] }, { accessFlags := 25, nameIndex := 282, descriptorIndex := 25, attributes := #[] }, { accessFlags := 25, nameIndex := 284, descriptorIndex := 25, attributes := #[] }, { accessFlags := 25, nameIndex := 286, descriptorIndex := 25, attributes := #[] }, { accessFlags := 25, nameIndex := 288, descriptorIndex := 25, attributes := #[] }, { accessFlags := 25, nameIndex := 290, descriptorIndex := 25, attributes := #[] }, { accessFlags := 25, nameIndex := 292, descriptorIndex := 25, attributes := #[] }, { accessFlags := 26, nameIndex := 108, descriptorIndex := 109, attributes := #[] }, { accessFlags := 25, nameIndex := 294, descriptorIndex := 25, attributes := #[] }])
  fields := #[{ name := "U", type := (.object "jdk/internal/misc/Unsafe"), accessFlags := 24, slot := 0, constantValue := 0 }, { name := "BIG_ENDIAN", type := .boolean, accessFlags := 26, slot := 1, constantValue := 0 }, { name := "LOG2_ARRAY_BOOLEAN_INDEX_SCALE", type := .int, accessFlags := 25, slot := 2, constantValue := 0 }, { name := "LOG2_ARRAY_BYTE_INDEX_SCALE", type := .int, accessFlags := 25, slot := 3, constantValue := 0 }, { name := "LOG2_ARRAY_CHAR_INDEX_SCALE", type := .int, accessFlags := 25, slot := 4, constantValue := 0 }, { name := "LOG2_ARRAY_SHORT_INDEX_SCALE", type := .int, accessFlags := 25, slot := 5, constantValue := 0 }, { name := "LOG2_ARRAY_INT_INDEX_SCALE", type := .int, accessFlags := 25, slot := 6, constantValue := 0 }, { name := "LOG2_ARRAY_LONG_INDEX_SCALE", type := .int, accessFlags := 25, slot := 7, constantValue := 0 }, { name := "LOG2_ARRAY_FLOAT_INDEX_SCALE", type := .int, accessFlags := 25, slot := 8, constantValue := 0 }, { name := "LOG2_ARRAY_DOUBLE_INDEX_SCALE", type := .int, accessFlags := 25, slot := 9, constantValue := 0 }, { name := "LOG2_BYTE_BIT_SIZE", type := .int, accessFlags := 26, slot := 10, constantValue := 0 }, { name := "T_BOOLEAN", type := .int, accessFlags := 25, slot := 11, constantValue := 0 }, { name := "T_CHAR", type := .int, accessFlags := 25, slot := 12, constantValue := 0 }, { name := "T_FLOAT", type := .int, accessFlags := 25, slot := 13, constantValue := 0 }, { name := "T_DOUBLE", type := .int, accessFlags := 25, slot := 14, constantValue := 0 }, { name := "T_BYTE", type := .int, accessFlags := 25, slot := 15, constantValue := 0 }, { name := "T_SHORT", type := .int, accessFlags := 25, slot := 16, constantValue := 0 }, { name := "T_INT", type := .int, accessFlags := 25, slot := 17, constantValue := 0 }, { name := "T_LONG", type := .int, accessFlags := 25, slot := 18, constantValue := 0 }, { name := "JLA", type := (.object "jdk/internal/access/JavaLangAccess"), accessFlags := 26, slot := 19, constantValue := 0 }, { name := "SOFT_MAX_ARRAY_LENGTH", type := .int, accessFlags := 25, slot := 20, constantValue := 0 }]
  methods := #[k12m0]
  instanceTypes := #[]
  staticTypes := #[(.object "jdk/internal/misc/Unsafe"), .boolean, .int, .int, .int, .int, .int, .int, .int, .int, .int, .int, .int, .int, .int, .int, .int, .int, .int, (.object "jdk/internal/access/JavaLangAccess"), .int]
  resolved := Array.replicate 378 none
  statics := none }

def pool13 : Array CpInfo := pool [(1, u "java/lang/Cloneable"), (0, .class_ 1), (0, u "java/lang/Object"), (0, .class_ 3)] 3

/-- java/lang/Cloneable -/
def k13 : Class := { plain "java/lang/Cloneable" (some 0) with
  accessFlags := 1537
  interfaces := #[]
  cf := some (fileOf pool13 2 #[] #[] 1537 4 #[] #[])
  fields := #[]
  methods := #[]
  instanceTypes := #[]
  staticTypes := #[]
  resolved := Array.replicate 8 none
  statics := none }

/-- the primitive byte -/
def k14 : Class := { plain "byte" none with kind := .primitive 'B', accessFlags := 0x411 }
/-- [B -/
def k15 : Class := { plain "[B" (some 0) with kind := .array 14 .byte, interfaces := #[13, 2], accessFlags := 1041 }

/-- the primitive char -/
def k16 : Class := { plain "char" none with kind := .primitive 'C', accessFlags := 0x411 }
/-- [C -/
def k17 : Class := { plain "[C" (some 0) with kind := .array 16 .char, interfaces := #[13, 2], accessFlags := 1041 }

/-- the primitive int -/
def k18 : Class := { plain "int" none with kind := .primitive 'I', accessFlags := 0x411 }
/-- [I -/
def k19 : Class := { plain "[I" (some 0) with kind := .array 18 .int, interfaces := #[13, 2], accessFlags := 1041 }

def heap : Heap := #[{ cls := 7, slots := #[.long 0, .int 1, .null, .int 0, .null, .int 0, .int 0], vm := .statics 7 },
  { cls := 11, slots := #[.null, .null, .null], vm := .statics 11 }]
def classes : Array Class := #[k0, k1, k2, k3, k4, k5, k6, k7, k8, k9, k10, k11, k12, k13, k14, k15, k16, k17, k18, k19]
def interned : List (Array UInt16 × Addr) := []
def slotsUsed : Nat := 10
def theMethod : MethodId := ⟨1, 2⟩
def args0 : Array Value := #[.int 1, .int 2, .int 3, .int 4]
def aboutOver (below : List Frame) : State where
  vm := { classes := classes, interned := interned.toArray }
  heap := heap
  slotsUsed := slotsUsed
  threads := #[{ frames := .invoking theMethod args0 :: below }]
def below0 : List Frame := [.native { method := ⟨0, 0⟩, args := #[] }]
def about1 : State := aboutOver below0
def p0 : Program := .bare "" "" ""
def e0 : Env := launch0.env 0 0 0
theorem w_frames : about1.frames = Frame.invoking theMethod args0 :: below0 := rfl
set_option maxRecDepth 65536 in
theorem w_args : argsFit about1.vm theMethod args0 = true := by decide +kernel
set_option maxRecDepth 65536 in
theorem w_heap : heapFits about1 = true := by decide +kernel
set_option maxRecDepth 65536 in
theorem w_runnable : about1.curStatus? = some .runnable := by decide +kernel
set_option maxRecDepth 65536 in
theorem w_alone : about1.alone = true := by decide +kernel
set_option maxRecDepth 65536 in
theorem w_named : about1.methodNamed? x = some theMethod := by decide +kernel
set_option maxRecDepth 65536 in
theorem w_hears : about1.hears theMethod below0 = true := by decide +kernel
set_option maxRecDepth 65536 in
theorem w_ripe : about1.ripe theMethod args0 below0 = true := by decide +kernel
theorem w_running : about1.status = .running := rfl
set_option maxRecDepth 65536 in
theorem w_room : about1.hasRoom e0.platform room_1 = true :=
  launch0.hasRoom_least _ room_1 (by decide +kernel) (by decide +kernel) (by decide +kernel) (by decide +kernel) (by decide +kernel) (by decide +kernel)
theorem allAtoms_all (ts : List Jvm.Cond) (a : Array Jvm.Value) (st : Jvm.State) : (allAtoms ts).before a st = ts.all (fun c => c.before a st) := by
  induction ts with
  | nil => rfl
  | cons c t ih =>
    show (Jvm.Cond.and c (allAtoms t)).before a st = _
    rw [Jvm.Cond.before_and, ih, List.all_cons]
def words1 : List Jvm.Cond := Jvm.Cond.code x code maxLocals ret :: tables_1
/-- a 'code' word, met by the world's own term for the bytes: nothing is compared byte by byte -/
theorem code_word {y : MethodName} {bytes : ByteArray} {mx : Nat} {rt : Option FieldType} {a : Array Value} {s : State} {m : MethodId} {meth : Method} {c : Code} (h1 : s.methodNamed? y = some m) (h2 : s.vm.method? m = some meth) (h3 : meth.code = some c) (h4 : c.code = bytes)
    (h5 : (c.maxLocals == mx && c.exceptionTable.isEmpty && decide (c.maxStack ≤ mostOperands) && decide (meth.sig.returnType = rt) && !meth.locks && decide (parseMethodDescriptor y.desc = some meth.sig)) = true) : (Jvm.Cond.code y bytes mx rt).before a s = true := by
  simp only [Bool.and_eq_true, beq_iff_eq, Bool.not_eq_true', decide_eq_true_eq] at h5
  obtain ⟨⟨⟨⟨⟨g1, g2⟩, g3⟩, g4⟩, g5⟩, g6⟩ := h5
  simp [Cond.before, Cond.holds, Cond.value, h1, h2, h3, h4, g1, g2, g3, g4, g5, g6]
def isCode : Jvm.Cond → Bool
  | .code _ _ _ _ => true
  | _ => false
theorem all_split {L : List Jvm.Cond} {P : Jvm.Cond → Bool} (h1 : L.all (fun c => isCode c || P c) = true) (h2 : ∀ c ∈ L.filter isCode, P c = true) : L.all P = true := by
  refine List.all_eq_true.mpr fun c hc => ?_
  have h := List.all_eq_true.mp h1 c hc
  rcases Bool.eq_false_or_eq_true (isCode c) with hi | hi
  · exact h2 c (List.mem_filter.mpr ⟨hc, hi⟩)
  · simpa [hi] using h
set_option maxRecDepth 65536 in
theorem w_c0 : (Jvm.Cond.code x code maxLocals ret).before args0 about1 = true := code_word (m := ⟨1, 2⟩) (meth := k1m2) (c := k1c2) (by decide +kernel) rfl rfl rfl (by decide +kernel)
set_option maxRecDepth 65536 in
theorem w_c1 : (Jvm.Cond.code ({ cls := "com/example/deadlock_to_diagnosis/deadlocktodiagnosis/reader/LineScannerAtEndPinLaw", name := "drawn", desc := "(III)Ljava/lang/String;" } : Jvm.MethodName) method_2_code (7 : Nat) (Option.some (Jvm.ClassFile.FieldType.object "java/lang/String"))).before args0 about1 = true := code_word (m := ⟨1, 1⟩) (meth := k1m1) (c := k1c1) (by decide +kernel) rfl rfl rfl (by decide +kernel)
set_option maxRecDepth 65536 in
theorem w_c2 : (Jvm.Cond.code ({ cls := "java/lang/String", name := "<init>", desc := "([C)V" } : Jvm.MethodName) jdk_42_method_3_code (2 : Nat) (Option.none : Option Jvm.ClassFile.FieldType)).before args0 about1 = true := code_word (m := ⟨7, 1⟩) (meth := k7m1) (c := k7c1) (by decide +kernel) rfl rfl rfl (by decide +kernel)
set_option maxRecDepth 65536 in
theorem w_c3 : (Jvm.Cond.code ({ cls := "java/lang/String", name := "<init>", desc := "([CIILjava/lang/Void;)V" } : Jvm.MethodName) jdk_42_method_149_code (6 : Nat) (Option.none : Option Jvm.ClassFile.FieldType)).before args0 about1 = true := code_word (m := ⟨7, 3⟩) (meth := k7m3) (c := k7c3) (by decide +kernel) rfl rfl rfl (by decide +kernel)
set_option maxRecDepth 65536 in
theorem w_c4 : (Jvm.Cond.code ({ cls := "java/lang/Object", name := "<init>", desc := "()V" } : Jvm.MethodName) object_method_1_code (1 : Nat) (Option.none : Option Jvm.ClassFile.FieldType)).before args0 about1 = true := code_word (m := ⟨0, 0⟩) (meth := k0m0) (c := k0c0) (by decide +kernel) rfl rfl rfl (by decide +kernel)
set_option maxRecDepth 65536 in
theorem w_c5 : (Jvm.Cond.code ({ cls := "com/example/deadlock_to_diagnosis/deadlocktodiagnosis/reader/LineScanner", name := "<init>", desc := "(Ljava/lang/String;)V" } : Jvm.MethodName) prog_19_method_1_code (2 : Nat) (Option.none : Option Jvm.ClassFile.FieldType)).before args0 about1 = true := code_word (m := ⟨8, 0⟩) (meth := k8m0) (c := k8c0) (by decide +kernel) rfl rfl rfl (by decide +kernel)
set_option maxRecDepth 65536 in
theorem w_c6 : (Jvm.Cond.code ({ cls := "com/example/deadlock_to_diagnosis/deadlocktodiagnosis/reader/LineScanner", name := "atEnd", desc := "()Z" } : Jvm.MethodName) prog_19_method_5_code (1 : Nat) (Option.some Jvm.ClassFile.FieldType.boolean)).before args0 about1 = true := code_word (m := ⟨8, 3⟩) (meth := k8m3) (c := k8c3) (by decide +kernel) rfl rfl rfl (by decide +kernel)
set_option maxRecDepth 65536 in
theorem w_c7 : (Jvm.Cond.code ({ cls := "java/lang/String", name := "length", desc := "()I" } : Jvm.MethodName) jdk_42_method_54_code (1 : Nat) (Option.some Jvm.ClassFile.FieldType.int)).before args0 about1 = true := code_word (m := ⟨7, 2⟩) (meth := k7m2) (c := k7c2) (by decide +kernel) rfl rfl rfl (by decide +kernel)
set_option maxRecDepth 65536 in
theorem w_c8 : (Jvm.Cond.code ({ cls := "java/lang/String", name := "coder", desc := "()B" } : Jvm.MethodName) jdk_42_method_152_code (1 : Nat) (Option.some Jvm.ClassFile.FieldType.byte)).before args0 about1 = true := code_word (m := ⟨7, 4⟩) (meth := k7m4) (c := k7c4) (by decide +kernel) rfl rfl rfl (by decide +kernel)
set_option maxRecDepth 65536 in
theorem w_c9 : (Jvm.Cond.code ({ cls := "com/example/deadlock_to_diagnosis/deadlocktodiagnosis/reader/LineScanner", name := "moveTo", desc := "(I)V" } : Jvm.MethodName) prog_19_method_4_code (2 : Nat) (Option.none : Option Jvm.ClassFile.FieldType)).before args0 about1 = true := code_word (m := ⟨8, 2⟩) (meth := k8m2) (c := k8c2) (by decide +kernel) rfl rfl rfl (by decide +kernel)
set_option maxRecDepth 65536 in
theorem w_c10 : (Jvm.Cond.code ({ cls := "com/example/deadlock_to_diagnosis/deadlocktodiagnosis/reader/LineScanner", name := "position", desc := "()I" } : Jvm.MethodName) prog_19_method_3_code (1 : Nat) (Option.some Jvm.ClassFile.FieldType.int)).before args0 about1 = true := code_word (m := ⟨8, 1⟩) (meth := k8m1) (c := k8c1) (by decide +kernel) rfl rfl rfl (by decide +kernel)
set_option maxRecDepth 65536 in
theorem w_c11 : (Jvm.Cond.code ({ cls := "java/lang/StringUTF16", name := "compress", desc := "([CII)[B" } : Jvm.MethodName) jdk_52_method_16_code (6 : Nat) (Option.some (Jvm.ClassFile.FieldType.array Jvm.ClassFile.FieldType.byte))).before args0 about1 = true := code_word (m := ⟨9, 2⟩) (meth := k9m2) (c := k9c2) (by decide +kernel) rfl rfl rfl (by decide +kernel)
set_option maxRecDepth 65536 in
theorem w_c12 : (Jvm.Cond.code ({ cls := "java/lang/StringUTF16", name := "compress", desc := "([CI[BII)I" } : Jvm.MethodName) jdk_52_method_21_code (7 : Nat) (Option.some Jvm.ClassFile.FieldType.int)).before args0 about1 = true := code_word (m := ⟨9, 3⟩) (meth := k9m3) (c := k9c3) (by decide +kernel) rfl rfl rfl (by decide +kernel)
set_option maxRecDepth 65536 in
theorem w_c13 : (Jvm.Cond.code ({ cls := "java/lang/StringUTF16", name := "coderFromArrayLen", desc := "([BI)B" } : Jvm.MethodName) jdk_52_method_15_code (2 : Nat) (Option.some Jvm.ClassFile.FieldType.byte)).before args0 about1 = true := code_word (m := ⟨9, 1⟩) (meth := k9m1) (c := k9c1) (by decide +kernel) rfl rfl rfl (by decide +kernel)
def codes1 : List Jvm.Cond := [Jvm.Cond.code x code maxLocals ret, Jvm.Cond.code ({ cls := "com/example/deadlock_to_diagnosis/deadlocktodiagnosis/reader/LineScannerAtEndPinLaw", name := "drawn", desc := "(III)Ljava/lang/String;" } : Jvm.MethodName) method_2_code (7 : Nat) (Option.some (Jvm.ClassFile.FieldType.object "java/lang/String")), Jvm.Cond.code ({ cls := "java/lang/String", name := "<init>", desc := "([C)V" } : Jvm.MethodName) jdk_42_method_3_code (2 : Nat) (Option.none : Option Jvm.ClassFile.FieldType), Jvm.Cond.code ({ cls := "java/lang/String", name := "<init>", desc := "([CIILjava/lang/Void;)V" } : Jvm.MethodName) jdk_42_method_149_code (6 : Nat) (Option.none : Option Jvm.ClassFile.FieldType), Jvm.Cond.code ({ cls := "java/lang/Object", name := "<init>", desc := "()V" } : Jvm.MethodName) object_method_1_code (1 : Nat) (Option.none : Option Jvm.ClassFile.FieldType), Jvm.Cond.code ({ cls := "com/example/deadlock_to_diagnosis/deadlocktodiagnosis/reader/LineScanner", name := "<init>", desc := "(Ljava/lang/String;)V" } : Jvm.MethodName) prog_19_method_1_code (2 : Nat) (Option.none : Option Jvm.ClassFile.FieldType), Jvm.Cond.code ({ cls := "com/example/deadlock_to_diagnosis/deadlocktodiagnosis/reader/LineScanner", name := "atEnd", desc := "()Z" } : Jvm.MethodName) prog_19_method_5_code (1 : Nat) (Option.some Jvm.ClassFile.FieldType.boolean), Jvm.Cond.code ({ cls := "java/lang/String", name := "length", desc := "()I" } : Jvm.MethodName) jdk_42_method_54_code (1 : Nat) (Option.some Jvm.ClassFile.FieldType.int), Jvm.Cond.code ({ cls := "java/lang/String", name := "coder", desc := "()B" } : Jvm.MethodName) jdk_42_method_152_code (1 : Nat) (Option.some Jvm.ClassFile.FieldType.byte), Jvm.Cond.code ({ cls := "com/example/deadlock_to_diagnosis/deadlocktodiagnosis/reader/LineScanner", name := "moveTo", desc := "(I)V" } : Jvm.MethodName) prog_19_method_4_code (2 : Nat) (Option.none : Option Jvm.ClassFile.FieldType), Jvm.Cond.code ({ cls := "com/example/deadlock_to_diagnosis/deadlocktodiagnosis/reader/LineScanner", name := "position", desc := "()I" } : Jvm.MethodName) prog_19_method_3_code (1 : Nat) (Option.some Jvm.ClassFile.FieldType.int), Jvm.Cond.code ({ cls := "java/lang/StringUTF16", name := "compress", desc := "([CII)[B" } : Jvm.MethodName) jdk_52_method_16_code (6 : Nat) (Option.some (Jvm.ClassFile.FieldType.array Jvm.ClassFile.FieldType.byte)), Jvm.Cond.code ({ cls := "java/lang/StringUTF16", name := "compress", desc := "([CI[BII)I" } : Jvm.MethodName) jdk_52_method_21_code (7 : Nat) (Option.some Jvm.ClassFile.FieldType.int), Jvm.Cond.code ({ cls := "java/lang/StringUTF16", name := "coderFromArrayLen", desc := "([BI)B" } : Jvm.MethodName) jdk_52_method_15_code (2 : Nat) (Option.some Jvm.ClassFile.FieldType.byte)]
set_option maxRecDepth 65536 in
theorem codes_eq : words1.filter isCode = codes1 := rfl
theorem w_codes : ∀ c ∈ words1.filter isCode, c.before args0 about1 = true := by
  rw [codes_eq]
  intro c hc
  simp only [codes1, List.mem_cons, List.not_mem_nil, or_false] at hc
  rcases hc with rfl | rfl | rfl | rfl | rfl | rfl | rfl | rfl | rfl | rfl | rfl | rfl | rfl | rfl
  · exact w_c0
  · exact w_c1
  · exact w_c2
  · exact w_c3
  · exact w_c4
  · exact w_c5
  · exact w_c6
  · exact w_c7
  · exact w_c8
  · exact w_c9
  · exact w_c10
  · exact w_c11
  · exact w_c12
  · exact w_c13
set_option maxRecDepth 65536 in
theorem w_t1 : (words1.take 24).all (fun c => isCode c || c.before args0 about1) = true := by decide +kernel
set_option maxRecDepth 65536 in
theorem w_t2 : ((words1.drop 24).take 24).all (fun c => isCode c || c.before args0 about1) = true := by decide +kernel
set_option maxRecDepth 65536 in
theorem w_t3 : (((words1.drop 24).drop 24).take 24).all (fun c => isCode c || c.before args0 about1) = true := by decide +kernel
set_option maxRecDepth 65536 in
theorem w_t4 : (((words1.drop 24).drop 24).drop 24).all (fun c => isCode c || c.before args0 about1) = true := by decide +kernel
theorem w_tables : (allAtoms (Jvm.Cond.code x code maxLocals ret :: tables_1)).before args0 about1 = true := by
  rw [allAtoms_all]
  show words1.all (fun c => c.before args0 about1) = true
  refine all_split ?_ w_codes
  rw [← List.take_append_drop 24 words1, List.all_append, w_t1, ← List.take_append_drop 24 (words1.drop 24), List.all_append, w_t2, ← List.take_append_drop 24 ((words1.drop 24).drop 24), List.all_append, w_t3, w_t4]
  rfl
set_option maxRecDepth 65536 in
theorem w_rest : rest_1_c.before args0 about1 = true := by decide +kernel
set_option maxRecDepth 65536 in
theorem w_case : (Jvm.Cond.and given_1 narrow_1).before args0 about1 = true := by decide +kernel
set_option maxRecDepth 65536 in
theorem w_consts : constsHeld consts_1 about1 := Jvm.Lit.constsHeldB_iff.mp (by decide +kernel)
theorem w_applies : (headSpec (Jvm.Cond.code x code maxLocals ret :: tables_1) room_1).applies x e0.platform about1 = true :=
  (Spec.applies_iff w_frames).mpr ⟨w_running, w_runnable, w_alone, w_named, w_hears, w_ripe, w_room, w_tables⟩
theorem atStart : AtStart classFile x code maxLocals ret World_1 tables_1 room_1 Calls_1 rest_1 Pre_1 launch0 p0 e0 about1 theMethod args0 below0 :=
  ⟨lists_1, trivial, launch0.admits_env _ _ _, launch0.least_env, fairChoices_fair.cas, fairChoices_fair.clock, w_frames, w_args, w_heap, w_applies, ⟨w_consts, trivial⟩, w_rest, w_case⟩
end start1
theorem witness_1 : WitnessClaimed_1 := ⟨start1.p0, start1.e0, start1.about1, start1.theMethod, start1.args0, start1.below0, start1.atStart⟩
end Jvm.Pilot.@@N@@
